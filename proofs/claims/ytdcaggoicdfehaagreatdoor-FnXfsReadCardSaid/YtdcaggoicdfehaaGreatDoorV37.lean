/- Part 37 of 44 of the proof of the tied card of FnXfsRead. -/
import Derived.Test.YtdcaggoicdfehaaGreatDoorVz
import Derived.Test.YtdcaggoicdfehaaGreatDoorV4
set_option linter.unusedVariables false
set_option linter.unusedSimpArgs false
namespace Go.Proofs.YtdcaggoicdfehaaGreatDoor
open Go.RowKit Go.Proofs.YtdcaggoicdfehaaGreatDoorW.PrintWords Go.Proofs.YtdcaggoicdfehaaGreatDoorW.PrintLast Go.Proofs.YtdcaggoicdfehaaGreatDoorW.PrintMore
attribute [local go_sem] YX YV Ja Jb YK YL YW YU
def Yt.l0:Nat→ByteArray→List ByteArray→Int→Int→Int→Option (List ByteArray)
 | 0,_,_,_,_,_=>none
 | k+1,x0,x3,x4,x7,x8=>if x8<x7 then (if 0≤x8 then (if x8<(x0.size:Int) then (if (bt x0 x8)=10 then (if 0≤x4 then (if x4≤x8 then (if x8≤(x0.size:Int) then (if x3.length<8796093022208 then (Yt.l0 k x0 (x3++[x0.extract (x4:Int).toNat (x8:Int).toNat]) (wrap64 (x8+1)) x7 (wrap64 (x8+1))) else (none)) else (none)) else (none)) else (none)) else (Yt.l0 k x0 x3 x4 x7 (wrap64 (x8+1)))) else (none)) else (none)) else (if x4<(x0.size:Int) then (if 0≤x4 then (if x4≤(x0.size:Int) then (if x3.length<8796093022208 then (some (x3++[x0.extract (x4:Int).toNat x0.size])) else (none)) else (none)) else (none)) else (some x3))
def Yt.f (k:Nat) (a0:ByteArray):Option (List ByteArray):=Yt.l0 k a0 ([]:List ByteArray) 0 (a0.size:Int) 0
theorem Yt.YB:∀ k,(∀ y0 y1 y2 y3 y4,LeO (Yt.l0 k y0 y1 y2 y3 y4) (Yt.l0 (k+1) y0 y1 y2 y3 y4))
 | 0=>fun _ _ _ _ _ r h=>by simp [Yt.l0] at h
 | k+1=>by
  have ih0:=Yt.YB k
  · intro y0 y1 y2 y3 y4
    unfold Yt.l0
    repeat' first
    | (with_reducible exact ih0 _ _ _ _ _)
    | (with_reducible exact LeO.refl _)
    | (with_reducible exact LeO.none _)
    | (with_reducible refine LeO.ite ?_ ?_)
    | (with_reducible refine LeO.bind ?_ (fun _=>?_))
    | exact ih0 _ _ _ _ _
    | exact LeO.none _
    | refine LeO.ite ?_ ?_
    | refine LeO.bind ?_ (fun _=>?_)
theorem Yt.mono:∀ a0 k,LeO (Yt.f k a0) (Yt.f (k+1) a0):=by
 intro a0 k
 have ih0:=Yt.YB k
 unfold Yt.f
 repeat' first
  | (with_reducible exact ih0 _ _ _ _ _)
  | (with_reducible exact LeO.refl _)
  | (with_reducible exact LeO.none _)
  | (with_reducible refine LeO.ite ?_ ?_)
  | (with_reducible refine LeO.bind ?_ (fun _=>?_))
  | exact ih0 _ _ _ _ _
  | exact LeO.none _
  | refine LeO.ite ?_ ?_
  | refine LeO.bind ?_ (fun _=>?_)
set_option maxHeartbeats 8000000 in
set_option maxRecDepth 100000 in
theorem Yt.calls (k:Nat) (a0:ByteArray) (r:List ByteArray) (w:World) (h:Yt.f k a0=some r) :
 Calls Tryz.prog 12 #[.string a0] w fun e w'=>∃ v0_:Value,e=.returned (v0_)∧Kd.R Kd.string 9 w' w.heap.size (fun _=>True) v0_ r∧Below w.heap.size w w':=by
 have HB:=yc.mk (Below.refl w.heap.size w)
 have H:(Yt.l0 k a0 ([]:List ByteArray) 0 (a0.size:Int) 0)=some r:=h
 clear h
 have H':=yc.mk H
 clear H
 go_enter Tryz.func12,Tryz.ntmps12
 go_wp2
 go_loopg [3,4,8] k (fun kq v3 v4 v8 w'=>∃ (x3_1:List ByteArray) (x4_1:Int) (x8_1:Int),v4=.int .i64 x4_1∧v8=.int .i64 x8_1∧yc (Yt.l0 kq a0 x3_1 x4_1 (a0.size:Int) x8_1=some r)∧yc (kq≤k)∧yc (Kd.R Kd.string 9 w' w.heap.size (fun _=>True) v3 x3_1)∧yc (Below w.heap.size w w'))
 case atStart=>exact ⟨(([]:List ByteArray)),(0),(0),(by first|rfl|(simp;done)|(simp [*];done)|(simp [yx];done)),(by first|rfl|(simp;done)|(simp [*];done)|(simp [yx];done)),H',⟨Nat.le_refl _⟩,⟨by first|exact Kd.qf _ _ _ _ _|exact Kd.yao _ _ _ _ _|exact Kd.Qm _ _ _ _ _|exact Kd.yas _ _ _ _ _|exact Kd.yaq _ _ _ _ _⟩,⟨by repeat (first|(with_reducible first|exact HB.out|apply ym|apply yn|apply yu)|exact HB.out)⟩⟩
 case round=>
  clear H'
  try clear c1
  obtain ⟨x3_1,x4_1,x8_1,rfl,rfl,HA,HK1,HO_3,HB⟩:=hrel
  cases gk with
  | zero=>exact absurd HA.out (by simp [Yt.l0])
  | succ k1=>
   have H:=HA.out
   clear HA
   simp only [Yt.l0] at H
   by_cases c2:x8_1<(a0.size:Int)
   · rw [if_pos c2] at H
     have c2b0:decide (x8_1<(a0.size:Int))=true:=decide_eq_true c2
     clear c2
     by_cases c3:0≤x8_1
     · rw [if_pos c3] at H
       have c3b0:decide (0≤x8_1)=true:=decide_eq_true c3
       clear c3
       by_cases c4:x8_1<(a0.size:Int)
       · rw [if_pos c4] at H
         have c4b0:decide (x8_1<(a0.size:Int))=true:=decide_eq_true c4
         clear c4
         by_cases c6:(bt a0 x8_1)=10
         · rw [if_pos c6] at H
           have c6b0:((bt a0 x8_1) == 10)=true:=beq_iff_eq.mpr c6
           have c6b1:((bt a0 x8_1) != 10)=false:=bne_eq_false_iff_eq.mpr c6
           clear c6
           by_cases c7:0≤x4_1
           · rw [if_pos c7] at H
             have c7b0:=eq_true c7
             have c7b1:decide (0≤x4_1)=true:=decide_eq_true c7
             clear c7
             by_cases c8:x4_1≤x8_1
             · rw [if_pos c8] at H
               have c8b0:=eq_true c8
               have c8b1:decide (x4_1≤x8_1)=true:=decide_eq_true c8
               clear c8
               by_cases c9:x8_1≤(a0.size:Int)
               · rw [if_pos c9] at H
                 have c9b0:=eq_true c9
                 have c9b1:decide (x8_1≤(a0.size:Int))=true:=decide_eq_true c9
                 clear c9
                 by_cases c10:x3_1.length<8796093022208
                 · rw [if_pos c10] at H
                   have LMc10:=yc.mk c10
                   clear c10
                   obtain ⟨y170,hy170⟩:∃ y_:List ByteArray,y_=(x3_1++[a0.extract (x4_1:Int).toNat (x8_1:Int).toNat]):=⟨_,rfl⟩
                   replace H:(Yt.l0 k1 a0 y170 (wrap64 (x8_1+1)) (a0.size:Int) (wrap64 (x8_1+1)))=some r:=by first|(rw [hy170];with_reducible exact H)|(have H2_:=(Option.bind_some _ _).symm.trans H;rw [hy170];with_reducible exact H2_)|(have H2_:=(Option.bind_some _ _).symm.trans H;with_reducible exact H2_)|with_reducible exact H|(rw [hy170];exact H)|exact H
                   have Ny170:=yc.mk hy170
                   clear hy170
                   have H':=yc.mk H
                   clear H
                   have p5:0≤(x8_1:Int):=of_decide_eq_true (by first|(with_reducible assumption)|assumption)
                   have q5:x8_1<(a0.size:Int):=of_decide_eq_true (by first|(with_reducible assumption)|assumption)
                   have hx5:=yaX a0 x8_1
                   replace p5:=eq_true p5
                   replace q5:=eq_true q5
                   go_wp2_with (first|((with_reducible refine Jv (b:=.append) (xs:=#[.tmp 15,.tmp 20]) rfl ?_);at_builtin;refine Kd.J2 Kd.string (w0:=w) w.heap.size rfl (.tmp 15) (.tmp 20) 44 9 (.string ⟨#[]⟩) 16 rfl Tryz.underlying44 info9 rfl Zd Zo u3 x3_1 (a0.extract (x4_1:Int).toNat (x8_1:Int).toNat) [.string (a0.extract (x4_1:Int).toNat (x8_1:Int).toNat)] (fun _=>True) (fun _=>False) rfl rfl ?aP (fun _ hk=>hk.elim) ?aF ?aO ?aB ?aS ?aL ?_;(case aP=>exact rfl);(case aB=>exact Zh);(case aF=>exact (fun _ _=>trivial));(case aO=>exact (Zr HO_3.out));(case aS=>exact (yt Zh));(case aL=>have:=LMc10.out;omega);intro v171 w11 ho hb hg hat;rw [← Ny170.out] at ho;have n0_:=yc.mk (hb);have n1_:=yc.mk (ho);clear HB HO_3;have HB:=n0_;have HO172:=n1_;clear n0_ n1_;clear ho hb hg hat))
                   go_roundg k1
                   case measure=>have:=HK1.out;omega
                   case rel=>exact ⟨(y170),(wrap64 (x8_1+1)),(wrap64 (x8_1+1)),(by first|rfl|(simp;done)|(simp [*];done)|(simp [yx];done)),(by first|rfl|(simp;done)|(simp [*];done)|(simp [yx];done)),H',⟨by have:=HK1.out;omega⟩,⟨by refine Zr ?_;exact HO172.out⟩,⟨by repeat (first|(with_reducible first|exact HB.out|apply ym|apply yn|apply yu)|exact HB.out)⟩⟩
                 · rw [if_neg c10] at H
                   exact absurd H (by simp)
               · rw [if_neg c9] at H
                 exact absurd H (by simp)
             · rw [if_neg c8] at H
               exact absurd H (by simp)
           · rw [if_neg c7] at H
             exact absurd H (by simp)
         · rw [if_neg c6] at H
           have c6b0:((bt a0 x8_1) == 10)=false:=beq_eq_false_iff_ne.mpr c6
           have c6b1:((bt a0 x8_1) != 10)=true:=bne_iff_ne.mpr c6
           have H':=yc.mk H
           clear H
           have p5:0≤(x8_1:Int):=of_decide_eq_true (by first|(with_reducible assumption)|assumption)
           have q5:x8_1<(a0.size:Int):=of_decide_eq_true (by first|(with_reducible assumption)|assumption)
           have hx5:=yaX a0 x8_1
           replace p5:=eq_true p5
           replace q5:=eq_true q5
           go_wp2
           go_roundg k1
           case measure=>have:=HK1.out;omega
           case rel=>exact ⟨(x3_1),(x4_1),(wrap64 (x8_1+1)),(by first|rfl|(simp;done)|(simp [*];done)|(simp [yx];done)),(by first|rfl|(simp;done)|(simp [*];done)|(simp [yx];done)),H',⟨by have:=HK1.out;omega⟩,⟨by refine Zr ?_;exact HO_3.out⟩,⟨by repeat (first|(with_reducible first|exact HB.out|apply ym|apply yn|apply yu)|exact HB.out)⟩⟩
       · rw [if_neg c4] at H
         exact absurd H (by simp)
     · rw [if_neg c3] at H
       exact absurd H (by simp)
   · rw [if_neg c2] at H
     have c2b0:decide (x8_1<(a0.size:Int))=false:=decide_eq_false c2
     clear c2
     by_cases c12:x4_1<(a0.size:Int)
     · rw [if_pos c12] at H
       have c12b0:decide (x4_1<(a0.size:Int))=true:=decide_eq_true c12
       clear c12
       by_cases c13:0≤x4_1
       · rw [if_pos c13] at H
         have c13b0:=eq_true c13
         have c13b1:decide (0≤x4_1)=true:=decide_eq_true c13
         clear c13
         by_cases c14:x4_1≤(a0.size:Int)
         · rw [if_pos c14] at H
           have c14b0:=eq_true c14
           have c14b1:decide (x4_1≤(a0.size:Int))=true:=decide_eq_true c14
           clear c14
           by_cases c15:x3_1.length<8796093022208
           · rw [if_pos c15] at H
             have LMc15:=yc.mk c15
             clear c15
             obtain ⟨y173,hy173⟩:∃ y_:List ByteArray,y_=(x3_1++[a0.extract (x4_1:Int).toNat a0.size]):=⟨_,rfl⟩
             replace H:(some y173)=some r:=by first|(rw [hy173];with_reducible exact H)|(have H2_:=(Option.bind_some _ _).symm.trans H;rw [hy173];with_reducible exact H2_)|(have H2_:=(Option.bind_some _ _).symm.trans H;with_reducible exact H2_)|with_reducible exact H|(rw [hy173];exact H)|exact H
             have Ny173:=yc.mk hy173
             clear hy173
             obtain rfl:=Option.some.inj H
             go_wp2_with (first|((with_reducible refine Jv (b:=.append) (xs:=#[.tmp 29,.tmp 33]) rfl ?_);at_builtin;refine Kd.J2 Kd.string (w0:=w) w.heap.size rfl (.tmp 29) (.tmp 33) 44 9 (.string ⟨#[]⟩) 16 rfl Tryz.underlying44 info9 rfl Zd Zo u3 x3_1 (a0.extract (x4_1:Int).toNat a0.size) [.string (a0.extract (x4_1:Int).toNat a0.size)] (fun _=>True) (fun _=>False) rfl rfl ?aP (fun _ hk=>hk.elim) ?aF ?aO ?aB ?aS ?aL ?_;(case aP=>exact rfl);(case aB=>exact Zh);(case aF=>exact (fun _ _=>trivial));(case aO=>exact (Zr HO_3.out));(case aS=>exact (yt Zh));(case aL=>have:=LMc15.out;omega);intro v174 w16 ho hb hg hat;rw [← Ny173.out] at ho;have n0_:=yc.mk (hb);have n1_:=yc.mk (ho);clear HB HO_3;have HB:=n0_;have HO175:=n1_;clear n0_ n1_;clear ho hb hg hat))
             go_ret
             exact ⟨_,by first|rfl|(simp [yP,yO] <;> rfl)|(simp [*,yP,yO] <;> rfl),by refine Zr ?_; exact HO175.out,by repeat (first|(with_reducible first|exact HB.out|apply ym|apply yn|apply yu)|exact HB.out)⟩
           · rw [if_neg c15] at H
             exact absurd H (by simp)
         · rw [if_neg c14] at H
           exact absurd H (by simp)
       · rw [if_neg c13] at H
         exact absurd H (by simp)
     · rw [if_neg c12] at H
       have c12b0:decide (x4_1<(a0.size:Int))=false:=decide_eq_false c12
       clear c12
       obtain rfl:=Option.some.inj H
       go_wp2
       go_ret
       exact ⟨_,by first|rfl|(simp [yP,yO] <;> rfl)|(simp [*,yP,yO] <;> rfl),by refine Zr ?_; exact HO_3.out,by repeat (first|(with_reducible first|exact HB.out|apply ym|apply yn|apply yu)|exact HB.out)⟩
end Go.Proofs.YtdcaggoicdfehaaGreatDoor
namespace Go.Proofs.YtdcaggoicdfehaaGreatDoor
open Go.RowKit Go.Proofs.YtdcaggoicdfehaaGreatDoorW.PrintWords Go.Proofs.YtdcaggoicdfehaaGreatDoorW.PrintLast Go.Proofs.YtdcaggoicdfehaaGreatDoorW.PrintMore
attribute [local go_sem] YX YV Ja Jb YK YL YW YU
def J4.f (a0:ByteArray) (a1:ByteArray):Option (ByteArray × Int × Bool × Int × Int × Nat × ByteArray × (List (S38))):=some (a0,5,false,0,0,0,a1,([]:List (S38)))
set_option maxHeartbeats 8000000 in
set_option maxRecDepth 100000 in
theorem J4.calls (a0:ByteArray) (a1:ByteArray) (r1:ByteArray) (r2:Int) (r3:Bool) (r4:Int) (r5:Int) (r6:Nat) (r7:ByteArray) (r8:List (S38)) (w:World) (h:J4.f a0 a1=some (r1,r2,r3,r4,r5,r6,r7,r8)) :
 Calls Tryz.prog 16 #[.string a0,.string a1] w fun e w'=>∃ v7_:Value,e=.returned (.agg #[.string r1,.int .i64 r2,.bool r3,.int .i64 r4,.int .u64 r5,.float .f64 r6,.string r7,v7_])∧Kd.R k38 38 w' w.heap.size (fun _=>True) v7_ r8∧Below w.heap.size w w':=by
 have hu38:=Tryz.underlying38
 have HB:=yc.mk (Below.refl w.heap.size w)
 have H:(some (a0,5,false,0,0,0,a1,([]:List (S38))))=some (r1,r2,r3,r4,r5,r6,r7,r8):=h
 clear h
 simp only [Option.some.injEq,Prod.mk.injEq] at H
 obtain ⟨rfl,rfl,rfl,rfl,rfl,rfl,rfl,rfl⟩:=H
 go_enter Tryz.func16,Tryz.ntmps16
 go_wp2_with (first|((with_reducible refine Y1 (N:=4) rfl ?_);refine YP ?hg (N:=4) ?hd (cs:=#[.string (⟨#[]⟩:ByteArray),.int .i64 0,.bool false,.int .i64 0,.int .u64 0,.float .f64 0,.string (⟨#[]⟩:ByteArray),.slice none 0 0]) (t:=38) ?hr ?_;(case hd=>rfl);(case hg=>rfl);(case hr=>first|(go_simp;done)|(go_simp;rfl));intro gb341 hg w3 hbox hb;have n0_:=yc.mk (yy Zh hb);have n1_:=yc.mk (hbox);have n2_:=yc.mk ((by rw [hg];exact (yt Zh):w.heap.size≤gb341));have n3_:=yc.mk ((by rw [hg];exact (yt Zh):w.heap.size≤gb341));clear HB;have HB:=n0_;have BK341:=n1_;have GW341:=n2_;have GE341:=n3_;clear n0_ n1_ n2_ n3_;clear hb hbox hg;have hcz4_0:w3.cell? ⟨gb341,0,none⟩=some (.string (⟨#[]⟩:ByteArray)):=(ye BK341.out 0).trans rfl;have hcz4_1:w3.cell? ⟨gb341,1,none⟩=some (.int .i64 0):=(ye BK341.out 1).trans rfl;have hcz4_2:w3.cell? ⟨gb341,2,none⟩=some (.bool false):=(ye BK341.out 2).trans rfl;have hcz4_3:w3.cell? ⟨gb341,3,none⟩=some (.int .i64 0):=(ye BK341.out 3).trans rfl;have hcz4_4:w3.cell? ⟨gb341,4,none⟩=some (.int .u64 0):=(ye BK341.out 4).trans rfl;have hcz4_5:w3.cell? ⟨gb341,5,none⟩=some (.float .f64 0):=(ye BK341.out 5).trans rfl;have hcz4_6:w3.cell? ⟨gb341,6,none⟩=some (.string (⟨#[]⟩:ByteArray)):=(ye BK341.out 6).trans rfl;have hcz4_7:w3.cell? ⟨gb341,7,none⟩=some (.slice none 0 0):=(ye BK341.out 7).trans rfl;have hfz4_0:=yg BK341.out 0;have hfz4_1:=yg BK341.out 1;have hfz4_2:=yg BK341.out 2;have hfz4_3:=yg BK341.out 3;have hfz4_4:=yg BK341.out 4;have hfz4_5:=yg BK341.out 5;have hfz4_6:=yg BK341.out 6;have hfz4_7:=yg BK341.out 7))
 refine bodyPost_ret (results_cell_row rfl _ _ gb341 38 #[.string a0,.int .i64 5,.bool false,.int .i64 0,.int .u64 0,.float .f64 0,.string a1,.slice none 0 0] (0,0) _ rfl (by refine Zb ?_;refine yA (cs:=#[.string a0,.int .i64 5,.bool false,.int .i64 0,.int .u64 0,.float .f64 0,.string a1,.slice none 0 0]) ?_ 7 _ rfl;refine Zb ?_;refine yA (cs:=#[.string a0,.int .i64 5,.bool false,.int .i64 0,.int .u64 0,.float .f64 0,.string (⟨#[]⟩:ByteArray),.slice none 0 0]) ?_ 6 _ rfl;refine Zb ?_;refine yA (cs:=#[.string a0,.int .i64 5,.bool false,.int .i64 0,.int .u64 0,.float .f64 0,.string (⟨#[]⟩:ByteArray),.slice none 0 0]) ?_ 5 _ rfl;refine Zb ?_;refine yA (cs:=#[.string a0,.int .i64 5,.bool false,.int .i64 0,.int .u64 0,.float .f64 0,.string (⟨#[]⟩:ByteArray),.slice none 0 0]) ?_ 4 _ rfl;refine Zb ?_;refine yA (cs:=#[.string a0,.int .i64 5,.bool false,.int .i64 0,.int .u64 0,.float .f64 0,.string (⟨#[]⟩:ByteArray),.slice none 0 0]) ?_ 3 _ rfl;refine Zb ?_;refine yA (cs:=#[.string a0,.int .i64 5,.bool false,.int .i64 0,.int .u64 0,.float .f64 0,.string (⟨#[]⟩:ByteArray),.slice none 0 0]) ?_ 2 _ rfl;refine Zb ?_;refine yA (cs:=#[.string a0,.int .i64 0,.bool false,.int .i64 0,.int .u64 0,.float .f64 0,.string (⟨#[]⟩:ByteArray),.slice none 0 0]) ?_ 1 _ rfl;refine Zb ?_;refine yA (cs:=#[.string (⟨#[]⟩:ByteArray),.int .i64 0,.bool false,.int .i64 0,.int .u64 0,.float .f64 0,.string (⟨#[]⟩:ByteArray),.slice none 0 0]) ?_ 0 _ rfl;refine Zb ?_;exact BK341.out) Tryz.underlying38 rfl Zk) rfl ?_
 exact ⟨_,by first|rfl|(simp [yP,yO] <;> rfl)|(simp [*,yP,yO] <;> rfl),by first|exact Kd.qf _ _ _ _ _|exact Kd.yao _ _ _ _ _|exact Kd.Qm _ _ _ _ _|exact Kd.yas _ _ _ _ _|exact Kd.yaq _ _ _ _ _,by repeat (first|(with_reducible first|exact HB.out|apply ym|apply yn|apply yu|refine yw ?_ GE341.out)|exact HB.out)⟩
end Go.Proofs.YtdcaggoicdfehaaGreatDoor
