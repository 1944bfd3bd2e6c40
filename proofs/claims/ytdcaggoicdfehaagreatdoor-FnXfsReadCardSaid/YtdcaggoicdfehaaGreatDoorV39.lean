/- Part 39 of 44 of the proof of the tied card of FnXfsRead. -/
import Derived.Test.YtdcaggoicdfehaaGreatDoorVz
import Derived.Test.YtdcaggoicdfehaaGreatDoorV4
import Derived.Test.YtdcaggoicdfehaaGreatDoorV38
set_option linter.unusedVariables false
set_option linter.unusedSimpArgs false
namespace Go.Proofs.YtdcaggoicdfehaaGreatDoor
open Go.RowKit Go.Proofs.YtdcaggoicdfehaaGreatDoorW.PrintWords Go.Proofs.YtdcaggoicdfehaaGreatDoorW.PrintLast Go.Proofs.YtdcaggoicdfehaaGreatDoorW.PrintMore
attribute [local go_sem] YX YV Ja Jb YK YL YW YU
mutual
def Ye.l0:Nat→ByteArray→List Int→List (S38)→List ByteArray→Int→Int→Option (ByteArray × Int × Bool × Int × Int × Nat × ByteArray × (List (S38)))
 | 0,_,_,_,_,_,_=>none
 | k+1,x0,x2,x7,x11,x12,x13=>if x13<x12 then (if 0≤x13 then (if x13<(x11.length:Int) then (if x13<(x2.length:Int) then (Ye.j1 k x0 x2 x7 (YJ ByteArray.empty x11 x13) (rd x2 x13) x11 x12 x13) else (Ye.j1 k x0 x2 x7 (YJ ByteArray.empty x11 x13) 0 x11 x12 x13)) else (none)) else (none)) else ((JY.f x0 x7).bind fun bt363=>(some (bt363.1,bt363.2.1,bt363.2.2.1,bt363.2.2.2.1,bt363.2.2.2.2.1,bt363.2.2.2.2.2.1,bt363.2.2.2.2.2.2.1,bt363.2.2.2.2.2.2.2)))
def Ye.j1:Nat→ByteArray→List Int→List (S38)→ByteArray→Int→List ByteArray→Int→Int→Option (ByteArray × Int × Bool × Int × Int × Nat × ByteArray × (List (S38)))
 | 0,_,_,_,_,_,_,_,_=>none
 | k+1,x0,x2,x7,x9,x10,x11,x12,x13=>(qy.f x9 x10).bind fun bt350=>(if x7.length<1466015503701 then (Ye.l0 k x0 x2 (x7++[(⟨bt350.1,bt350.2.1,bt350.2.2.1,bt350.2.2.2.1,bt350.2.2.2.2.1,bt350.2.2.2.2.2.1,bt350.2.2.2.2.2.2.1,bt350.2.2.2.2.2.2.2⟩:S38)]) x11 x12 (wrap64 (x13+1))) else (none))
end
def Ye.f (k:Nat) (a0:ByteArray) (l1:List ByteArray) (l2:List Int):Option (ByteArray × Int × Bool × Int × Int × Nat × ByteArray × (List (S38))):=Ye.l0 k a0 l2 ([]:List (S38)) l1 (l1.length:Int) 0
theorem Ye.YB:∀ k,(∀ y0 y1 y2 y3 y4 y5,LeO (Ye.l0 k y0 y1 y2 y3 y4 y5) (Ye.l0 (k+1) y0 y1 y2 y3 y4 y5))∧(∀ y0 y1 y2 y3 y4 y5 y6 y7,LeO (Ye.j1 k y0 y1 y2 y3 y4 y5 y6 y7) (Ye.j1 (k+1) y0 y1 y2 y3 y4 y5 y6 y7))
 | 0=>⟨fun _ _ _ _ _ _ r h=>by simp [Ye.l0] at h,fun _ _ _ _ _ _ _ _ r h=>by simp [Ye.j1] at h⟩
 | k+1=>by
  obtain ⟨ih0,ih1⟩:=Ye.YB k
  refine ⟨?_,?_⟩
  · intro y0 y1 y2 y3 y4 y5
    unfold Ye.l0
    repeat' first
    | (with_reducible exact ih0 _ _ _ _ _ _)
    | (with_reducible exact ih1 _ _ _ _ _ _ _ _)
    | (with_reducible exact LeO.refl _)
    | (with_reducible exact LeO.none _)
    | (with_reducible refine LeO.ite ?_ ?_)
    | (with_reducible refine LeO.bind ?_ (fun _=>?_))
    | exact ih0 _ _ _ _ _ _
    | exact ih1 _ _ _ _ _ _ _ _
    | exact LeO.none _
    | refine LeO.ite ?_ ?_
    | refine LeO.bind ?_ (fun _=>?_)
  · intro y0 y1 y2 y3 y4 y5 y6 y7
    unfold Ye.j1
    repeat' first
    | (with_reducible exact ih0 _ _ _ _ _ _)
    | (with_reducible exact ih1 _ _ _ _ _ _ _ _)
    | (with_reducible exact LeO.refl _)
    | (with_reducible exact LeO.none _)
    | (with_reducible refine LeO.ite ?_ ?_)
    | (with_reducible refine LeO.bind ?_ (fun _=>?_))
    | exact ih0 _ _ _ _ _ _
    | exact ih1 _ _ _ _ _ _ _ _
    | exact LeO.none _
    | refine LeO.ite ?_ ?_
    | refine LeO.bind ?_ (fun _=>?_)
theorem Ye.mono:∀ a0 a1 a2 k,LeO (Ye.f k a0 a1 a2) (Ye.f (k+1) a0 a1 a2):=by
 intro a0 a1 a2 k
 obtain ⟨ih0,ih1⟩:=Ye.YB k
 unfold Ye.f
 repeat' first
  | (with_reducible exact ih0 _ _ _ _ _ _)
  | (with_reducible exact ih1 _ _ _ _ _ _ _ _)
  | (with_reducible exact LeO.refl _)
  | (with_reducible exact LeO.none _)
  | (with_reducible refine LeO.ite ?_ ?_)
  | (with_reducible refine LeO.bind ?_ (fun _=>?_))
  | exact ih0 _ _ _ _ _ _
  | exact ih1 _ _ _ _ _ _ _ _
  | exact LeO.none _
  | refine LeO.ite ?_ ?_
  | refine LeO.bind ?_ (fun _=>?_)
set_option maxHeartbeats 8000000 in
set_option maxRecDepth 100000 in
theorem Ye.calls (k:Nat) (a0:ByteArray) (A1:Option Addr) (c1:Nat) (l1:List ByteArray) (A2:Option Addr) (c2:Nat) (l2:List Int) (r1:ByteArray) (r2:Int) (r3:Bool) (r4:Int) (r5:Int) (r6:Nat) (r7:ByteArray) (r8:List (S38)) (w:World) (hr1:Kd.C Kd.string w A1 l1.length l1) (hc1:l1.length≤c1) (hr2:Kd.C (Kd.int .u64) w A2 l2.length l2) (hc2:l2.length≤c2) (h:Ye.f k a0 l1 l2=some (r1,r2,r3,r4,r5,r6,r7,r8)) :
 Calls Tryz.prog 19 #[.string a0,.slice A1 l1.length c1,.slice A2 l2.length c2] w fun e w'=>∃ v7_:Value,e=.returned (.agg #[.string r1,.int .i64 r2,.bool r3,.int .i64 r4,.int .u64 r5,.float .f64 r6,.string r7,v7_])∧Kd.V k38 38 w' w.heap.size (fun k_=>(w.heap.size≤k_)) v7_ r8∧Below w.heap.size w w':=by
 have hu38:=Tryz.underlying38
 have HR1:=yc.mk hr1
 have HC1:=yc.mk hc1
 clear hr1 hc1
 have HR2:=yc.mk hr2
 have HC2:=yc.mk hc2
 clear hr2 hc2
 have HB:=yc.mk (Below.refl w.heap.size w)
 have H:(Ye.l0 k a0 l2 ([]:List (S38)) l1 (l1.length:Int) 0)=some (r1,r2,r3,r4,r5,r6,r7,r8):=h
 clear h
 have H':=yc.mk H
 clear H
 go_enter Tryz.func19,Tryz.ntmps19
 go_wp2_with (first|((with_reducible refine Y1 (N:=6) rfl ?_);refine YP ?hg (N:=6) ?hd (cs:=#[.string (⟨#[]⟩:ByteArray),.int .i64 0,.bool false,.int .i64 0,.int .u64 0,.float .f64 0,.string (⟨#[]⟩:ByteArray),.slice none 0 0]) (t:=38) ?hr ?_;(case hd=>rfl);(case hg=>rfl);(case hr=>first|(go_simp;done)|(go_simp;rfl));intro gb347 hg w4 hbox hb;have n0_:=yc.mk (yy Zh hb);have n1_:=yc.mk (hbox);have n2_:=yc.mk ((by rw [hg];exact (yt Zh):w.heap.size≤gb347));have n3_:=yc.mk ((by rw [hg];exact (yt Zh):w.heap.size≤gb347));clear HB;have HB:=n0_;have BK347:=n1_;have GW347:=n2_;have GE347:=n3_;clear n0_ n1_ n2_ n3_;clear hb hbox hg))
 go_loopg [7,13] k (fun kq v7 v13 w'=>∃ (x7_1:List (S38)) (x13_1:Int),v13=.int .i64 x13_1∧yc (Ye.l0 kq a0 l2 x7_1 l1 (l1.length:Int) x13_1=some (r1,r2,r3,r4,r5,r6,r7,r8))∧yc (kq≤k)∧yc (Kd.R k38 38 w' w.heap.size (fun k_=>(w.heap.size≤k_)∧k_≠gb347) v7 x7_1)∧yc (w'.heap[gb347]?=some (.cells #[.string (⟨#[]⟩:ByteArray),.int .i64 0,.bool false,.int .i64 0,.int .u64 0,.float .f64 0,.string (⟨#[]⟩:ByteArray),(.slice none 0 0)] 38 (0,0)))∧yc (Below w.heap.size w w'))
 case atStart=>exact ⟨(([]:List (S38))),(0),(by first|rfl|(simp;done)|(simp [*];done)|(simp [yx];done)),H',⟨Nat.le_refl _⟩,⟨by first|exact Kd.qf _ _ _ _ _|exact Kd.yao _ _ _ _ _|exact Kd.Qm _ _ _ _ _|exact Kd.yas _ _ _ _ _|exact Kd.yaq _ _ _ _ _⟩,⟨by refine Zb ?_;exact BK347.out⟩,⟨by repeat (first|(with_reducible first|exact HB.out|apply ym|apply yn|apply yu|refine yw ?_ GE347.out)|exact HB.out)⟩⟩
 case round=>
  clear H'
  try clear c1
  try clear c2
  try clear p2
  obtain ⟨x7_1,x13_1,rfl,HA,HK1,HO_7,BK347,HB⟩:=hrel
  cases gk with
  | zero=>exact absurd HA.out (by simp [Ye.l0])
  | succ k1=>
   have H:=HA.out
   clear HA
   simp only [Ye.l0] at H
   by_cases c5:x13_1<(l1.length:Int)
   · rw [if_pos c5] at H
     have c5b0:decide (x13_1<(l1.length:Int))=true:=decide_eq_true c5
     clear c5
     by_cases c6:0≤x13_1
     · rw [if_pos c6] at H
       have c6b0:decide (0≤x13_1)=true:=decide_eq_true c6
       clear c6
       by_cases c7:x13_1<(l1.length:Int)
       · rw [if_pos c7] at H
         have c7b0:decide (x13_1<(l1.length:Int))=true:=decide_eq_true c7
         clear c7
         have HC8:=yc.mk H
         clear H
         have p348:0≤(x13_1:Int):=of_decide_eq_true (by first|(with_reducible assumption)|assumption)
         have q348:x13_1<(l1.length:Int):=of_decide_eq_true (by first|(with_reducible assumption)|assumption)
         obtain ⟨ad348,e348,hx348_0⟩:=Kd.qc HR1.out x13_1 p348 q348
         cases e348
         replace hx348_0:=(HB.out.cell (World.block_lt_of_cell? w _ hx348_0)).trans hx348_0
         replace p348:=eq_true p348
         replace q348:=eq_true q348
         go_upto_if 21 with (fail)
         go_cut [10] (fun v10 wc=>∃ (kq:Nat) (x10_7:Int),v10=.int .u64 x10_7∧yc (Ye.j1 kq a0 l2 x7_1 (YJ ByteArray.empty l1 x13_1) x10_7 l1 (l1.length:Int) x13_1=some (r1,r2,r3,r4,r5,r6,r7,r8))∧yc (kq≤k1)∧yc (Kd.R k38 38 wc w.heap.size (fun k_=>(w.heap.size≤k_)∧k_≠gb347) u7 x7_1)∧yc (wc.heap[gb347]?=some (.cells #[.string (⟨#[]⟩:ByteArray),.int .i64 0,.bool false,.int .i64 0,.int .u64 0,.float .f64 0,.string (⟨#[]⟩:ByteArray),(.slice none 0 0)] 38 (0,0)))∧yc (Below w.heap.size w wc))
         case first=>
          have H:=HC8.out
          clear HC8
          by_cases c9:x13_1<(l2.length:Int)
          · rw [if_pos c9] at H
            have c9b0:decide (x13_1<(l2.length:Int))=true:=decide_eq_true c9
            clear c9
            (first|rw [c9b0]|(simp only [Yq,Yu];rw [c9b0])|skip)
            have H':=yc.mk H
            clear H
            have p349:0≤(x13_1:Int):=of_decide_eq_true (by first|(with_reducible assumption)|assumption)
            have q349:x13_1<(l2.length:Int):=of_decide_eq_true (by first|(with_reducible assumption)|assumption)
            obtain ⟨ad349,e349,hx349_0⟩:=Kd.at_int HR2.out x13_1 p349 q349
            cases e349
            replace hx349_0:=(HB.out.cell (World.block_lt_of_cell? w _ hx349_0)).trans hx349_0
            replace p349:=eq_true p349
            replace q349:=eq_true q349
            go_wp2
            go_meet
            case rel=>exact ⟨_,(rd l2 x13_1),(by first|rfl|(simp;done)|(simp [*];done)|(simp [yx];done)),H',⟨by have:=HK1.out;first|omega|exact Nat.le_refl _⟩,⟨by refine Zr ?_;exact HO_7.out⟩,⟨by refine Zb ?_;exact BK347.out⟩,⟨by repeat (first|(with_reducible first|exact HB.out|apply ym|apply yn|apply yu|refine yw ?_ GE347.out)|exact HB.out)⟩⟩
          · rw [if_neg c9] at H
            have c9b0:decide (x13_1<(l2.length:Int))=false:=decide_eq_false c9
            clear c9
            (first|rw [c9b0]|(simp only [Yq,Yu];rw [c9b0])|skip)
            have H':=yc.mk H
            clear H
            go_wp2
            go_meet
            case rel=>exact ⟨_,(0),(by first|rfl|(simp;done)|(simp [*];done)|(simp [yx];done)),H',⟨by have:=HK1.out;first|omega|exact Nat.le_refl _⟩,⟨by refine Zr ?_;exact HO_7.out⟩,⟨by refine Zb ?_;exact BK347.out⟩,⟨by repeat (first|(with_reducible first|exact HB.out|apply ym|apply yn|apply yu|refine yw ?_ GE347.out)|exact HB.out)⟩⟩
         case rest=>
          clear HC8
          try clear c1
          try clear c2
          try clear p2
          try clear p3
          try clear q3
          try clear hx3
          try clear c5
          try clear c5b0
          try clear c6
          try clear c6b0
          try clear c7
          try clear c7b0
          try clear c9
          try clear c9b0
          try clear hx348_0
          try clear hx349_0
          try clear p2
          try clear p348
          try clear p349
          try clear q348
          try clear q349
          obtain ⟨kq,x10_7,rfl,HA,HJ7,HO_7,BK347,HB⟩:=hcut
          cases kq with
          | zero=>exact absurd HA.out (by simp [Ye.j1])
          | succ kj7=>
           have H:=HA.out
           clear HA
           simp only [Ye.j1] at H
           replace H:=Option.bind_eq_some_iff.mp H
           obtain ⟨⟨t350,t351,t352,t353,t354,t355,t356,t357⟩,A100,H⟩:=H
           replace H:(if x7_1.length<1466015503701 then (Ye.l0 kj7 a0 l2 (x7_1++[(⟨t350,t351,t352,t353,t354,t355,t356,t357⟩:S38)]) l1 (l1.length:Int) (wrap64 (x13_1+1))) else (none))=some (r1,r2,r3,r4,r5,r6,r7,r8):=H
           have A10:=yc.mk A100
           clear A100
           by_cases c11:x7_1.length<1466015503701
           · rw [if_pos c11] at H
             have LMc11:=yc.mk c11
             clear c11
             obtain ⟨y360,hy360⟩:∃ y_:List (S38),y_=(x7_1++[(⟨t350,t351,t352,t353,t354,t355,t356,t357⟩:S38)]):=⟨_,rfl⟩
             replace H:(Ye.l0 kj7 a0 l2 y360 l1 (l1.length:Int) (wrap64 (x13_1+1)))=some (r1,r2,r3,r4,r5,r6,r7,r8):=by first|(rw [hy360];with_reducible exact H)|(have H2_:=(Option.bind_some _ _).symm.trans H;rw [hy360];with_reducible exact H2_)|(have H2_:=(Option.bind_some _ _).symm.trans H;with_reducible exact H2_)|with_reducible exact H|(rw [hy360];exact H)|exact H
             have Ny360:=yc.mk hy360
             clear hy360
             have H':=yc.mk H
             clear H
             go_wp2_with (first|((with_reducible refine Yz (f:=41) rfl ?_);refine Yp (some 29) rfl rfl Tryz.func41 Zk rfl #[.string (YJ ByteArray.empty l1 x13_1),.int .u64 x10_7] rfl (by (try simp only [List.map_toArray,List.map_cons,List.map_nil]);first|done|rfl|(simp only [List.length_drop,List.length_take];rfl)) ?_;(with_reducible refine (qy.calls (YJ ByteArray.empty l1 x13_1) x10_7 t350 t351 t352 t353 t354 t355 t356 t357 _ A10.out).mono ?_);rintro e w12 ⟨v358,rfl,ho0,hb⟩;refine ⟨_,rfl,?_⟩;have n0_:=yc.mk (Kd.ydf (Zr HO_7.out) (Kd.ycb ho0) hb);have n1_:=yc.mk (Kd.JU (Kd.yaw (Kd.R_new' (Kd.R_newM (M:=fun k_=>(w.heap.size≤k_)) ho0 (yt (Zg GE347.out)) (fun k_ h_=>h_)) (Kd.R_lt (Zr HO_7.out))) (g:=gb347) (o:=.cells #[.string (⟨#[]⟩:ByteArray),.int .i64 0,.bool false,.int .i64 0,.int .u64 0,.float .f64 0,.string (⟨#[]⟩:ByteArray),.slice none 0 0] 38 (0,0)) (Zb BK347.out)) (yt (Zg GE347.out)));have n2_:=yc.mk (yE (g:=gb347) (o:=.cells #[.string (⟨#[]⟩:ByteArray),.int .i64 0,.bool false,.int .i64 0,.int .u64 0,.float .f64 0,.string (⟨#[]⟩:ByteArray),.slice none 0 0] 38 (0,0)) (Zb BK347.out) hb);have n3_:=yc.mk (yy (Zg GE347.out) hb);clear HO_7 BK347 HB;have HO_7:=n0_;have HO359:=n1_;have BK347:=n2_;have HB:=n3_;clear n0_ n1_ n2_ n3_;(try clear hb);(try clear hb2);(try clear hk);(try clear hi);(try clear ho0);obtain ⟨Ao14,co14,eo14⟩:=Kd.Y7 HO359.out;subst eo14)|((with_reducible refine Jv (b:=.append) (xs:=#[.tmp 26,.tmp 30]) rfl ?_);at_builtin;refine Kd.J2 k38 (w0:=w) w.heap.size rfl (.tmp 26) (.tmp 30) 36 38 (.agg #[(.string ⟨#[]⟩),(.int .i64 0),(.bool false),(.int .i64 0),(.int .u64 0),(.float .f64 0),(.string ⟨#[]⟩),(.slice none 0 0)]) 96 rfl Tryz.underlying36 info38 rfl Zd Zo u7 x7_1 (⟨t350,t351,t352,t353,t354,t355,t356,t357⟩:S38) [.string t350,.int .i64 t351,.bool t352,.int .i64 t353,.int .u64 t354,.float .f64 t355,.string t356,.slice Ao14 t357.length co14] (fun k_=>(w.heap.size≤k_)∧k_≠gb347) (fun k_=>((fun k_=>(w.heap.size≤k_)∧k_≠gb347)) k_∧some k_≠(u7:Value).ownBlock) rfl rfl ?aP (fun _ hk=>hk) ?aF ?aO ?aB ?aS ?aL ?_;(case aP=>exact k38_mkM _ _ _ (⟨t350,t351,t352,t353,t354,t355,t356,t357⟩:S38) (Kd.YM (HO359.out) (fun k_ hk=>⟨⟨hk.1.1.1,hk.2⟩,hk.1.2⟩)));(case aB=>exact (Zg GE347.out));(case aF=>exact (fun k_ hk=>⟨(Nat.le_trans (yt (Zg GE347.out)) hk),Kd.Jm (g:=gb347) (o:=.cells #[.string (⟨#[]⟩:ByteArray),.int .i64 0,.bool false,.int .i64 0,.int .u64 0,.float .f64 0,.string (⟨#[]⟩:ByteArray),.slice none 0 0] 38 (0,0)) (Zb BK347.out) k_ hk⟩));(case aO=>exact (by refine Zr ?_;exact Kd.YM HO_7.out (fun _ hk=>⟨hk.1.1,hk.1.2⟩)));(case aS=>exact (yt (Zg GE347.out)));(case aL=>have:=LMc11.out;omega);intro v361 w13 ho hb hg hat;rw [← Ny360.out] at ho;have n0_:=yc.mk (Y3 (g:=gb347) (o:=.cells #[.string (⟨#[]⟩:ByteArray),.int .i64 0,.bool false,.int .i64 0,.int .u64 0,.float .f64 0,.string (⟨#[]⟩:ByteArray),.slice none 0 0] 38 (0,0)) (Zb BK347.out) hg (Kd.QQ HO_7.out (fun _ hk=>hk.1.2)));have n1_:=yc.mk (hb);have n2_:=yc.mk (ho);clear BK347 HB HO_7 HO359;have BK347:=n0_;have HB:=n1_;have HO362:=n2_;clear n0_ n1_ n2_;clear ho hb hg hat))
             go_roundg kj7
             case measure=>have:=HK1.out;have:=HJ7.out;omega
             case rel=>exact ⟨(y360),(wrap64 (x13_1+1)),(by first|rfl|(simp;done)|(simp [*];done)|(simp [yx];done)),H',⟨by have:=HK1.out;have:=HJ7.out;omega⟩,⟨by refine Zr ?_;exact HO362.out⟩,⟨by refine Zb ?_;exact BK347.out⟩,⟨by repeat (first|(with_reducible first|exact HB.out|apply ym|apply yn|apply yu|refine yw ?_ GE347.out)|exact HB.out)⟩⟩
           · rw [if_neg c11] at H
             exact absurd H (by simp)
       · rw [if_neg c7] at H
         exact absurd H (by simp)
     · rw [if_neg c6] at H
       exact absurd H (by simp)
   · rw [if_neg c5] at H
     have c5b0:decide (x13_1<(l1.length:Int))=false:=decide_eq_false c5
     clear c5
     replace H:=Option.bind_eq_some_iff.mp H
     obtain ⟨⟨t363,t364,t365,t366,t367,t368,t369,t370⟩,A150,H⟩:=H
     replace H:(some (t363,t364,t365,t366,t367,t368,t369,t370))=some (r1,r2,r3,r4,r5,r6,r7,r8):=H
     have A15:=yc.mk A150
     clear A150
     simp only [Option.some.injEq,Prod.mk.injEq] at H
     obtain ⟨rfl,rfl,rfl,rfl,rfl,rfl,rfl,rfl⟩:=H
     obtain ⟨Ao16,co16,eo16⟩:=Kd.Y7 HO_7.out
     subst eo16
     go_wp2_with (first|((with_reducible refine Yz (f:=20) rfl ?_);refine Yp (some 35) rfl rfl Tryz.func20 Zk rfl #[.string a0,.slice Ao16 x7_1.length co16] rfl (by (try simp only [List.map_toArray,List.map_cons,List.map_nil]);first|done|rfl|(simp only [List.length_drop,List.length_take];rfl)) ?_;(with_reducible refine (JY.calls a0 (fun k_=>((w.heap.size≤k_)∧k_≠gb347)) _ _ x7_1 t363 t364 t365 t366 t367 t368 t369 t370 _ ?side1 A15.out).mono ?_);(case side1=>exact Kd.R_V (HO_7.out));rintro e w17 ⟨v371,rfl,ho0,hb⟩;refine ⟨_,rfl,?_⟩;have n0_:=yc.mk (Kd.qb (Zr HO_7.out) hb);have n1_:=yc.mk (Kd.Q0 (Kd.Yj (ok':=fun k_=>(w.heap.size≤k_)∧k_≠gb347) ho0 (fun k_ hk_=>⟨Or.elim hk_ (fun hs_=>hs_.1) (fun hn_=>(Nat.le_trans (yt (Zg GE347.out)) hn_)),Or.elim hk_ (fun hs_=>hs_.2) (fun hn_=>(Kd.Jm (g:=gb347) (o:=.cells #[.string (⟨#[]⟩:ByteArray),.int .i64 0,.bool false,.int .i64 0,.int .u64 0,.float .f64 0,.string (⟨#[]⟩:ByteArray),.slice none 0 0] 38 (0,0)) (Zb BK347.out) k_ hn_))⟩)) (yt (Zg GE347.out)));have n2_:=yc.mk (yE (g:=gb347) (o:=.cells #[.string (⟨#[]⟩:ByteArray),.int .i64 0,.bool false,.int .i64 0,.int .u64 0,.float .f64 0,.string (⟨#[]⟩:ByteArray),.slice none 0 0] 38 (0,0)) (Zb BK347.out) hb);have n3_:=yc.mk (yy (Zg GE347.out) hb);clear HO_7 BK347 HB;have HO_7:=n0_;have HO372:=n1_;have BK347:=n2_;have HB:=n3_;clear n0_ n1_ n2_ n3_;(try clear hb);(try clear hb2);(try clear hk);(try clear hi);(try clear ho0);have hcz18_0:w17.cell? ⟨gb347,0,none⟩=some (.string (⟨#[]⟩:ByteArray)):=(ye BK347.out 0).trans rfl;have hcz18_1:w17.cell? ⟨gb347,1,none⟩=some (.int .i64 0):=(ye BK347.out 1).trans rfl;have hcz18_2:w17.cell? ⟨gb347,2,none⟩=some (.bool false):=(ye BK347.out 2).trans rfl;have hcz18_3:w17.cell? ⟨gb347,3,none⟩=some (.int .i64 0):=(ye BK347.out 3).trans rfl;have hcz18_4:w17.cell? ⟨gb347,4,none⟩=some (.int .u64 0):=(ye BK347.out 4).trans rfl;have hcz18_5:w17.cell? ⟨gb347,5,none⟩=some (.float .f64 0):=(ye BK347.out 5).trans rfl;have hcz18_6:w17.cell? ⟨gb347,6,none⟩=some (.string (⟨#[]⟩:ByteArray)):=(ye BK347.out 6).trans rfl;have hcz18_7:w17.cell? ⟨gb347,7,none⟩=some (.slice none 0 0):=(ye BK347.out 7).trans rfl;have hfz18_0:=yg BK347.out 0;have hfz18_1:=yg BK347.out 1;have hfz18_2:=yg BK347.out 2;have hfz18_3:=yg BK347.out 3;have hfz18_4:=yg BK347.out 4;have hfz18_5:=yg BK347.out 5;have hfz18_6:=yg BK347.out 6;have hfz18_7:=yg BK347.out 7;obtain ⟨Ao19,co19,eo19⟩:=Kd.ybi HO372.out;subst eo19))
     refine bodyPost_ret (results_cell_row rfl _ _ gb347 38 #[.string t363,.int .i64 t364,.bool t365,.int .i64 t366,.int .u64 t367,.float .f64 t368,.string t369,.slice Ao19 t370.length co19] (0,0) _ rfl (by refine Zb ?_;refine yA (cs:=#[.string t363,.int .i64 t364,.bool t365,.int .i64 t366,.int .u64 t367,.float .f64 t368,.string t369,.slice none 0 0]) ?_ 7 _ rfl;refine Zb ?_;refine yA (cs:=#[.string t363,.int .i64 t364,.bool t365,.int .i64 t366,.int .u64 t367,.float .f64 t368,.string (⟨#[]⟩:ByteArray),.slice none 0 0]) ?_ 6 _ rfl;refine Zb ?_;refine yA (cs:=#[.string t363,.int .i64 t364,.bool t365,.int .i64 t366,.int .u64 t367,.float .f64 0,.string (⟨#[]⟩:ByteArray),.slice none 0 0]) ?_ 5 _ rfl;refine Zb ?_;refine yA (cs:=#[.string t363,.int .i64 t364,.bool t365,.int .i64 t366,.int .u64 0,.float .f64 0,.string (⟨#[]⟩:ByteArray),.slice none 0 0]) ?_ 4 _ rfl;refine Zb ?_;refine yA (cs:=#[.string t363,.int .i64 t364,.bool t365,.int .i64 0,.int .u64 0,.float .f64 0,.string (⟨#[]⟩:ByteArray),.slice none 0 0]) ?_ 3 _ rfl;refine Zb ?_;refine yA (cs:=#[.string t363,.int .i64 t364,.bool false,.int .i64 0,.int .u64 0,.float .f64 0,.string (⟨#[]⟩:ByteArray),.slice none 0 0]) ?_ 2 _ rfl;refine Zb ?_;refine yA (cs:=#[.string t363,.int .i64 0,.bool false,.int .i64 0,.int .u64 0,.float .f64 0,.string (⟨#[]⟩:ByteArray),.slice none 0 0]) ?_ 1 _ rfl;refine Zb ?_;refine yA (cs:=#[.string (⟨#[]⟩:ByteArray),.int .i64 0,.bool false,.int .i64 0,.int .u64 0,.float .f64 0,.string (⟨#[]⟩:ByteArray),.slice none 0 0]) ?_ 0 _ rfl;refine Zb ?_;exact BK347.out) Tryz.underlying38 rfl Zk) rfl ?_
     exact ⟨_,by first|rfl|(simp [yP,yO] <;> rfl)|(simp [*,yP,yO] <;> rfl),by refine Zv ?_; exact Kd.Yj (Kd.Yk (p:=⟨gb347,7,none⟩) (Kd.Yk (p:=⟨gb347,6,none⟩) (Kd.Yk (p:=⟨gb347,5,none⟩) (Kd.Yk (p:=⟨gb347,4,none⟩) (Kd.Yk (p:=⟨gb347,3,none⟩) (Kd.Yk (p:=⟨gb347,2,none⟩) (Kd.Yk (p:=⟨gb347,1,none⟩) (Kd.Yk (p:=⟨gb347,0,none⟩) (Kd.Yj HO372.out (fun k_ hk=>(⟨hk,hk.2⟩:_∧k_≠gb347))) (fun _ hk=>hk.2) (.string t363)) (fun _ hk=>hk.2) (.int .i64 t364)) (fun _ hk=>hk.2) (.bool t365)) (fun _ hk=>hk.2) (.int .i64 t366)) (fun _ hk=>hk.2) (.int .u64 t367)) (fun _ hk=>hk.2) (.float .f64 t368)) (fun _ hk=>hk.2) (.string t369)) (fun _ hk=>hk.2) (.slice Ao19 t370.length co19)) (fun _ hk=>hk.1.1),by repeat (first|(with_reducible first|exact HB.out|apply ym|apply yn|apply yu|refine yw ?_ GE347.out)|exact HB.out)⟩
end Go.Proofs.YtdcaggoicdfehaaGreatDoor
