/- Part 7 of 34 of the proof of the tied card of FnNetstatRead. -/
import Derived.Test.YtlmennkeggmdbaaGreatDoorVz
import Derived.Test.YtlmennkeggmdbaaGreatDoorV3
set_option linter.unusedVariables false
set_option linter.unusedSimpArgs false
namespace Go.Proofs.YtlmennkeggmdbaaGreatDoor
open Go.RowKit Go.Proofs.YtlmennkeggmdbaaGreatDoorW.PrintWords Go.Proofs.YtlmennkeggmdbaaGreatDoorW.PrintLast Go.Proofs.YtlmennkeggmdbaaGreatDoorW.PrintMore
attribute [local go_sem] Yt Yp YE YB Yj Yk Yu Yv
def Ye.l0:Nat→ByteArray→List ByteArray→Int→Int→Int→Option (List ByteArray)
 | 0,_,_,_,_,_=>none
 | k+1,x0,x3,x4,x7,x8=>if x8<x7 then (if 0≤x8 then (if x8<(x0.size:Int) then (if (bt x0 x8)=10 then (if 0≤x4 then (if x4≤x8 then (if x8≤(x0.size:Int) then (if x3.length<8796093022208 then (Ye.l0 k x0 (x3++[x0.extract (x4:Int).toNat (x8:Int).toNat]) (wrap64 (x8+1)) x7 (wrap64 (x8+1))) else (none)) else (none)) else (none)) else (none)) else (Ye.l0 k x0 x3 x4 x7 (wrap64 (x8+1)))) else (none)) else (none)) else (if x4<(x0.size:Int) then (if 0≤x4 then (if x4≤(x0.size:Int) then (if x3.length<8796093022208 then (some (x3++[x0.extract (x4:Int).toNat x0.size])) else (none)) else (none)) else (none)) else (some x3))
def Ye.f (k:Nat) (a0:ByteArray):Option (List ByteArray):=Ye.l0 k a0 ([]:List ByteArray) 0 (a0.size:Int) 0
theorem Ye.YY:∀ k,(∀ y0 y1 y2 y3 y4,LeO (Ye.l0 k y0 y1 y2 y3 y4) (Ye.l0 (k+1) y0 y1 y2 y3 y4))
 | 0=>fun _ _ _ _ _ r h=>by simp [Ye.l0] at h
 | k+1=>by
  have ih0:=Ye.YY k
  · intro y0 y1 y2 y3 y4
    unfold Ye.l0
    repeat' first
    | (with_reducible exact ih0 _ _ _ _ _)
    | (with_reducible exact LeO.refl _)
    | (with_reducible exact LeO.none _)
    | (with_reducible refine LeO.ite ?_ ?_)
    | (with_reducible refine LeO.bind ?_ (fun _=>?_))
    | exact ih0 _ _ _ _ _
    | exact LeO.none _
    | refine LeO.ite ?_ ?_
    | refine LeO.bind ?_ (fun _=>?_)
theorem Ye.mono:∀ a0 k,LeO (Ye.f k a0) (Ye.f (k+1) a0):=by
 intro a0 k
 have ih0:=Ye.YY k
 unfold Ye.f
 repeat' first
  | (with_reducible exact ih0 _ _ _ _ _)
  | (with_reducible exact LeO.refl _)
  | (with_reducible exact LeO.none _)
  | (with_reducible refine LeO.ite ?_ ?_)
  | (with_reducible refine LeO.bind ?_ (fun _=>?_))
  | exact ih0 _ _ _ _ _
  | exact LeO.none _
  | refine LeO.ite ?_ ?_
  | refine LeO.bind ?_ (fun _=>?_)
set_option maxHeartbeats 8000000 in
set_option maxRecDepth 100000 in
theorem Ye.calls (k:Nat) (a0:ByteArray) (r:List ByteArray) (w:World) (h:Ye.f k a0=some r) :
 Calls Tryz.prog 23 #[.string a0] w fun e w'=>∃ v0_:Value,e=.returned (v0_)∧Kd.R Kd.string 9 w' w.heap.size (fun _=>True) v0_ r∧Below w.heap.size w w':=by
 have HB:=yc.mk (Below.refl w.heap.size w)
 have H:(Ye.l0 k a0 ([]:List ByteArray) 0 (a0.size:Int) 0)=some r:=h
 clear h
 have H':=yc.mk H
 clear H
 go_enter Tryz.func23,Tryz.ntmps23
 go_wp2
 go_loopg [3,4,8] k (fun kq v3 v4 v8 w'=>∃ (x3_1:List ByteArray) (x4_1:Int) (x8_1:Int),v4=.int .i64 x4_1∧v8=.int .i64 x8_1∧yc (Ye.l0 kq a0 x3_1 x4_1 (a0.size:Int) x8_1=some r)∧yc (kq≤k)∧yc (Kd.R Kd.string 9 w' w.heap.size (fun _=>True) v3 x3_1)∧yc (Below w.heap.size w w'))
 case atStart=>exact ⟨(([]:List ByteArray)),(0),(0),(by first|rfl|(simp;done)|(simp [*];done)|(simp [yn];done)),(by first|rfl|(simp;done)|(simp [*];done)|(simp [yn];done)),H',⟨Nat.le_refl _⟩,⟨by first|exact Kd.qm _ _ _ _ _|exact Kd.yae _ _ _ _ _|exact Kd.QV _ _ _ _ _|exact Kd.yaf _ _ _ _ _|exact Kd.yah _ _ _ _ _⟩,⟨by repeat (first|(with_reducible first|exact HB.out|apply yl|apply ym|apply yp)|exact HB.out)⟩⟩
 case round=>
  clear H'
  obtain ⟨x3_1,x4_1,x8_1,rfl,rfl,HA,HK1,HO_3,HB⟩:=hrel
  cases gk with
  | zero=>exact absurd HA.out (by simp [Ye.l0])
  | succ k1=>
   have H:=HA.out
   clear HA
   simp only [Ye.l0] at H
   by_cases c2:x8_1<(a0.size:Int)
   · rw [if_pos c2] at H
     have c2b0:decide (x8_1<(a0.size:Int))=true:=decide_eq_true c2
     clear c2
     by_cases c3:0≤x8_1
     · rw [if_pos c3] at H
       have c3b0:decide (0≤x8_1)=true:=decide_eq_true c3
       clear c3
       by_cases c4:x8_1<(a0.size:Int)
       · rw [if_pos c4] at H
         have c4b0:decide (x8_1<(a0.size:Int))=true:=decide_eq_true c4
         clear c4
         by_cases c6:(bt a0 x8_1)=10
         · rw [if_pos c6] at H
           have c6b0:((bt a0 x8_1) == 10)=true:=beq_iff_eq.mpr c6
           have c6b1:((bt a0 x8_1) != 10)=false:=bne_eq_false_iff_eq.mpr c6
           clear c6
           by_cases c7:0≤x4_1
           · rw [if_pos c7] at H
             have c7b0:=eq_true c7
             have c7b1:decide (0≤x4_1)=true:=decide_eq_true c7
             clear c7
             by_cases c8:x4_1≤x8_1
             · rw [if_pos c8] at H
               have c8b0:=eq_true c8
               have c8b1:decide (x4_1≤x8_1)=true:=decide_eq_true c8
               clear c8
               by_cases c9:x8_1≤(a0.size:Int)
               · rw [if_pos c9] at H
                 have c9b0:=eq_true c9
                 have c9b1:decide (x8_1≤(a0.size:Int))=true:=decide_eq_true c9
                 clear c9
                 by_cases c10:x3_1.length<8796093022208
                 · rw [if_pos c10] at H
                   have LMc10:=yc.mk c10
                   clear c10
                   obtain ⟨y127,hy127⟩:∃ y_:List ByteArray,y_=(x3_1++[a0.extract (x4_1:Int).toNat (x8_1:Int).toNat]):=⟨_,rfl⟩
                   replace H:(Ye.l0 k1 a0 y127 (wrap64 (x8_1+1)) (a0.size:Int) (wrap64 (x8_1+1)))=some r:=by first|(rw [hy127];with_reducible exact H)|(have H2_:=(Option.bind_some _ _).symm.trans H;rw [hy127];with_reducible exact H2_)|(have H2_:=(Option.bind_some _ _).symm.trans H;with_reducible exact H2_)|with_reducible exact H|(rw [hy127];exact H)|exact H
                   have Ny127:=yc.mk hy127
                   clear hy127
                   have H':=yc.mk H
                   clear H
                   have p5:0≤(x8_1:Int):=of_decide_eq_true (by first|(with_reducible assumption)|assumption)
                   have q5:x8_1<(a0.size:Int):=of_decide_eq_true (by first|(with_reducible assumption)|assumption)
                   have hx5:=yaN a0 x8_1
                   replace p5:=eq_true p5
                   replace q5:=eq_true q5
                   go_wp2_with (first|((with_reducible refine Jl (b:=.append) (xs:=#[.tmp 15,.tmp 20]) rfl ?_);at_builtin;refine Kd.qy Kd.string (w0:=w) w.heap.size rfl (.tmp 15) (.tmp 20) 46 9 (.string ⟨#[]⟩) 16 rfl Tryz.underlying46 ybP rfl Zd Zo u3 x3_1 (a0.extract (x4_1:Int).toNat (x8_1:Int).toNat) [.string (a0.extract (x4_1:Int).toNat (x8_1:Int).toNat)] (fun _=>True) (fun _=>False) rfl rfl ?aP (fun _ hk=>hk.elim) ?aF ?aO ?aB ?aS ?aL ?_;(case aP=>exact rfl);(case aB=>exact Zh);(case aF=>exact (fun _ _=>trivial));(case aO=>exact (Zr HO_3.out));(case aS=>exact (yt Zh));(case aL=>have:=LMc10.out;omega);intro v128 w11 ho hb hg hat;rw [← Ny127.out] at ho;have n0_:=yc.mk (hb);have n1_:=yc.mk (ho);clear HB HO_3;have HB:=n0_;have HO129:=n1_;clear n0_ n1_;clear ho hb hg hat))
                   go_roundg k1
                   case measure=>have:=HK1.out;omega
                   case rel=>exact ⟨(y127),(wrap64 (x8_1+1)),(wrap64 (x8_1+1)),(by first|rfl|(simp;done)|(simp [*];done)|(simp [yn];done)),(by first|rfl|(simp;done)|(simp [*];done)|(simp [yn];done)),H',⟨by have:=HK1.out;omega⟩,⟨by refine Zr ?_;exact HO129.out⟩,⟨by repeat (first|(with_reducible first|exact HB.out|apply yl|apply ym|apply yp)|exact HB.out)⟩⟩
                 · rw [if_neg c10] at H
                   exact absurd H (by simp)
               · rw [if_neg c9] at H
                 exact absurd H (by simp)
             · rw [if_neg c8] at H
               exact absurd H (by simp)
           · rw [if_neg c7] at H
             exact absurd H (by simp)
         · rw [if_neg c6] at H
           have c6b0:((bt a0 x8_1) == 10)=false:=beq_eq_false_iff_ne.mpr c6
           have c6b1:((bt a0 x8_1) != 10)=true:=bne_iff_ne.mpr c6
           have H':=yc.mk H
           clear H
           have p5:0≤(x8_1:Int):=of_decide_eq_true (by first|(with_reducible assumption)|assumption)
           have q5:x8_1<(a0.size:Int):=of_decide_eq_true (by first|(with_reducible assumption)|assumption)
           have hx5:=yaN a0 x8_1
           replace p5:=eq_true p5
           replace q5:=eq_true q5
           go_wp2
           go_roundg k1
           case measure=>have:=HK1.out;omega
           case rel=>exact ⟨(x3_1),(x4_1),(wrap64 (x8_1+1)),(by first|rfl|(simp;done)|(simp [*];done)|(simp [yn];done)),(by first|rfl|(simp;done)|(simp [*];done)|(simp [yn];done)),H',⟨by have:=HK1.out;omega⟩,⟨by refine Zr ?_;exact HO_3.out⟩,⟨by repeat (first|(with_reducible first|exact HB.out|apply yl|apply ym|apply yp)|exact HB.out)⟩⟩
       · rw [if_neg c4] at H
         exact absurd H (by simp)
     · rw [if_neg c3] at H
       exact absurd H (by simp)
   · rw [if_neg c2] at H
     have c2b0:decide (x8_1<(a0.size:Int))=false:=decide_eq_false c2
     clear c2
     by_cases c12:x4_1<(a0.size:Int)
     · rw [if_pos c12] at H
       have c12b0:decide (x4_1<(a0.size:Int))=true:=decide_eq_true c12
       clear c12
       by_cases c13:0≤x4_1
       · rw [if_pos c13] at H
         have c13b0:=eq_true c13
         have c13b1:decide (0≤x4_1)=true:=decide_eq_true c13
         clear c13
         by_cases c14:x4_1≤(a0.size:Int)
         · rw [if_pos c14] at H
           have c14b0:=eq_true c14
           have c14b1:decide (x4_1≤(a0.size:Int))=true:=decide_eq_true c14
           clear c14
           by_cases c15:x3_1.length<8796093022208
           · rw [if_pos c15] at H
             have LMc15:=yc.mk c15
             clear c15
             obtain ⟨y130,hy130⟩:∃ y_:List ByteArray,y_=(x3_1++[a0.extract (x4_1:Int).toNat a0.size]):=⟨_,rfl⟩
             replace H:(some y130)=some r:=by first|(rw [hy130];with_reducible exact H)|(have H2_:=(Option.bind_some _ _).symm.trans H;rw [hy130];with_reducible exact H2_)|(have H2_:=(Option.bind_some _ _).symm.trans H;with_reducible exact H2_)|with_reducible exact H|(rw [hy130];exact H)|exact H
             have Ny130:=yc.mk hy130
             clear hy130
             obtain rfl:=Option.some.inj H
             go_wp2_with (first|((with_reducible refine Jl (b:=.append) (xs:=#[.tmp 29,.tmp 33]) rfl ?_);at_builtin;refine Kd.qy Kd.string (w0:=w) w.heap.size rfl (.tmp 29) (.tmp 33) 46 9 (.string ⟨#[]⟩) 16 rfl Tryz.underlying46 ybP rfl Zd Zo u3 x3_1 (a0.extract (x4_1:Int).toNat a0.size) [.string (a0.extract (x4_1:Int).toNat a0.size)] (fun _=>True) (fun _=>False) rfl rfl ?aP (fun _ hk=>hk.elim) ?aF ?aO ?aB ?aS ?aL ?_;(case aP=>exact rfl);(case aB=>exact Zh);(case aF=>exact (fun _ _=>trivial));(case aO=>exact (Zr HO_3.out));(case aS=>exact (yt Zh));(case aL=>have:=LMc15.out;omega);intro v131 w16 ho hb hg hat;rw [← Ny130.out] at ho;have n0_:=yc.mk (hb);have n1_:=yc.mk (ho);clear HB HO_3;have HB:=n0_;have HO132:=n1_;clear n0_ n1_;clear ho hb hg hat))
             go_ret
             exact ⟨_,by first|rfl|(simp [yK,yL] <;> rfl)|(simp [*,yK,yL] <;> rfl),by refine Zr ?_; exact HO132.out,by repeat (first|(with_reducible first|exact HB.out|apply yl|apply ym|apply yp)|exact HB.out)⟩
           · rw [if_neg c15] at H
             exact absurd H (by simp)
         · rw [if_neg c14] at H
           exact absurd H (by simp)
       · rw [if_neg c13] at H
         exact absurd H (by simp)
     · rw [if_neg c12] at H
       have c12b0:decide (x4_1<(a0.size:Int))=false:=decide_eq_false c12
       clear c12
       obtain rfl:=Option.some.inj H
       go_wp2
       go_ret
       exact ⟨_,by first|rfl|(simp [yK,yL] <;> rfl)|(simp [*,yK,yL] <;> rfl),by refine Zr ?_; exact HO_3.out,by repeat (first|(with_reducible first|exact HB.out|apply yl|apply ym|apply yp)|exact HB.out)⟩
end Go.Proofs.YtlmennkeggmdbaaGreatDoor
namespace Go.Proofs.YtlmennkeggmdbaaGreatDoor
open Go.RowKit Go.Proofs.YtlmennkeggmdbaaGreatDoorW.PrintWords Go.Proofs.YtlmennkeggmdbaaGreatDoorW.PrintLast Go.Proofs.YtlmennkeggmdbaaGreatDoorW.PrintMore
attribute [local go_sem] Yt Yp YE YB Yj Yk Yu Yv
mutual
def yQ.l0:Nat→ByteArray→Int→Int→Option (Bool)
 | 0,_,_,_=>none
 | k+1,x0,x6,x7=>if x7<x6 then (if 0≤x7 then (if x7<(x0.size:Int) then (if (bt x0 x7) > 126 then (yQ.j1 k x0 x6 x7 true) else (if (bt x0 x7)<32 then (if (bt x0 x7)=10 then (yQ.j1 k x0 x6 x7 false) else (yQ.j1 k x0 x6 x7 ((bt x0 x7) != 9))) else (yQ.j1 k x0 x6 x7 false))) else (none)) else (none)) else (some true)
def yQ.j1:Nat→ByteArray→Int→Int→Bool→Option (Bool)
 | 0,_,_,_,_=>none
 | k+1,x0,x6,x7,x26=>if x26=true then (some false) else (yQ.l0 k x0 x6 (wrap64 (x7+1)))
end
def yQ.f (k:Nat) (a0:ByteArray):Option (Bool):=yQ.l0 k a0 (a0.size:Int) 0
theorem yQ.YY:∀ k,(∀ y0 y1 y2,LeO (yQ.l0 k y0 y1 y2) (yQ.l0 (k+1) y0 y1 y2))∧(∀ y0 y1 y2 y3,LeO (yQ.j1 k y0 y1 y2 y3) (yQ.j1 (k+1) y0 y1 y2 y3))
 | 0=>⟨fun _ _ _ r h=>by simp [yQ.l0] at h,fun _ _ _ _ r h=>by simp [yQ.j1] at h⟩
 | k+1=>by
  obtain ⟨ih0,ih1⟩:=yQ.YY k
  refine ⟨?_,?_⟩
  · intro y0 y1 y2
    unfold yQ.l0
    repeat' first
    | (with_reducible exact ih0 _ _ _)
    | (with_reducible exact ih1 _ _ _ _)
    | (with_reducible exact LeO.refl _)
    | (with_reducible exact LeO.none _)
    | (with_reducible refine LeO.ite ?_ ?_)
    | (with_reducible refine LeO.bind ?_ (fun _=>?_))
    | exact ih0 _ _ _
    | exact ih1 _ _ _ _
    | exact LeO.none _
    | refine LeO.ite ?_ ?_
    | refine LeO.bind ?_ (fun _=>?_)
  · intro y0 y1 y2 y3
    unfold yQ.j1
    repeat' first
    | (with_reducible exact ih0 _ _ _)
    | (with_reducible exact ih1 _ _ _ _)
    | (with_reducible exact LeO.refl _)
    | (with_reducible exact LeO.none _)
    | (with_reducible refine LeO.ite ?_ ?_)
    | (with_reducible refine LeO.bind ?_ (fun _=>?_))
    | exact ih0 _ _ _
    | exact ih1 _ _ _ _
    | exact LeO.none _
    | refine LeO.ite ?_ ?_
    | refine LeO.bind ?_ (fun _=>?_)
theorem yQ.mono:∀ a0 k,LeO (yQ.f k a0) (yQ.f (k+1) a0):=by
 intro a0 k
 obtain ⟨ih0,ih1⟩:=yQ.YY k
 unfold yQ.f
 repeat' first
  | (with_reducible exact ih0 _ _ _)
  | (with_reducible exact ih1 _ _ _ _)
  | (with_reducible exact LeO.refl _)
  | (with_reducible exact LeO.none _)
  | (with_reducible refine LeO.ite ?_ ?_)
  | (with_reducible refine LeO.bind ?_ (fun _=>?_))
  | exact ih0 _ _ _
  | exact ih1 _ _ _ _
  | exact LeO.none _
  | refine LeO.ite ?_ ?_
  | refine LeO.bind ?_ (fun _=>?_)
set_option maxHeartbeats 8000000 in
set_option maxRecDepth 100000 in
theorem yQ.calls (k:Nat) (a0:ByteArray) (r:Bool) (w:World) (h:yQ.f k a0=some r) :
 Calls Tryz.prog 24 #[.string a0] w fun e w'=>e=.returned (.bool r)∧yD w w':=by
 have H:(yQ.l0 k a0 (a0.size:Int) 0)=some r:=h
 clear h
 have H':=yc.mk H
 clear H
 go_enter Tryz.func24,Tryz.ntmps24
 go_wp2
 go_loopg [7] k (fun kq v7 w'=>∃ (x7_1:Int),v7=.int .i64 x7_1∧yc (yQ.l0 kq a0 (a0.size:Int) x7_1=some r)∧yc (kq≤k)∧yD w w')
 case atStart=>exact ⟨(0),(by first|rfl|(simp;done)|(simp [*];done)|(simp [yn];done)),H',⟨Nat.le_refl _⟩,by repeat (first|exact yD.refl _|apply yD.step)⟩
 case round=>
  clear H'
  obtain ⟨x7_1,rfl,HA,HK1,⟨m1,rfl⟩⟩:=hrel
  cases gk with
  | zero=>exact absurd HA.out (by simp [yQ.l0])
  | succ k1=>
   have H:=HA.out
   clear HA
   simp only [yQ.l0] at H
   by_cases c2:x7_1<(a0.size:Int)
   · rw [if_pos c2] at H
     have c2b0:decide (x7_1<(a0.size:Int))=true:=decide_eq_true c2
     clear c2
     by_cases c3:0≤x7_1
     · rw [if_pos c3] at H
       have c3b0:decide (0≤x7_1)=true:=decide_eq_true c3
       clear c3
       by_cases c4:x7_1<(a0.size:Int)
       · rw [if_pos c4] at H
         have c4b0:decide (x7_1<(a0.size:Int))=true:=decide_eq_true c4
         clear c4
         have HC6:=yc.mk H
         clear H
         have p5:0≤(x7_1:Int):=of_decide_eq_true (by first|(with_reducible assumption)|assumption)
         have q5:x7_1<(a0.size:Int):=of_decide_eq_true (by first|(with_reducible assumption)|assumption)
         have hx5:=yaN a0 x7_1
         replace p5:=eq_true p5
         replace q5:=eq_true q5
         go_upto_region 5 with (fail)
         go_cut [26] (fun v26 wc=>∃ (kq:Nat) (x26_5:Bool),v26=.bool x26_5∧yc (yQ.j1 kq a0 (a0.size:Int) x7_1 x26_5=some r)∧yc (kq≤k1)∧yD w wc)
         case first=>
          have H:=HC6.out
          clear HC6
          by_cases c7:(bt a0 x7_1) > 126
          · rw [if_pos c7] at H
            have c7b0:decide (126<(bt a0 x7_1))=true:=decide_eq_true c7
            clear c7
            (first|rw [c7b0]|(simp only [yM,yP];rw [c7b0])|skip)
            have H':=yc.mk H
            clear H
            go_wp2
            go_meet
            case rel=>exact ⟨_,(true),(by first|rfl|(simp;done)|(simp [*];done)|(simp [yn];done)),H',⟨by have:=HK1.out;first|omega|exact Nat.le_refl _⟩,by repeat (first|exact yD.refl _|apply yD.step)⟩
          · rw [if_neg c7] at H
            have c7b0:decide (126<(bt a0 x7_1))=false:=decide_eq_false c7
            clear c7
            (first|rw [c7b0]|(simp only [yM,yP];rw [c7b0])|skip)
            by_cases c8:(bt a0 x7_1)<32
            · rw [if_pos c8] at H
              have c8b0:decide ((bt a0 x7_1)<32)=true:=decide_eq_true c8
              clear c8
              by_cases c9:(bt a0 x7_1)=10
              · rw [if_pos c9] at H
                have c9b0:((bt a0 x7_1) == 10)=true:=beq_iff_eq.mpr c9
                have c9b1:((bt a0 x7_1) != 10)=false:=bne_eq_false_iff_eq.mpr c9
                clear c9
                have H':=yc.mk H
                clear H
                go_wp2
                go_meet
                case rel=>exact ⟨_,(false),(by first|rfl|(simp;done)|(simp [*];done)|(simp [yn];done)),H',⟨by have:=HK1.out;first|omega|exact Nat.le_refl _⟩,by repeat (first|exact yD.refl _|apply yD.step)⟩
              · rw [if_neg c9] at H
                have c9b0:((bt a0 x7_1) == 10)=false:=beq_eq_false_iff_ne.mpr c9
                have c9b1:((bt a0 x7_1) != 10)=true:=bne_iff_ne.mpr c9
                have H':=yc.mk H
                clear H
                go_wp2
                go_meet
                case rel=>exact ⟨_,(((bt a0 x7_1) != 9)),(by first|rfl|(simp;done)|(simp [*];done)|(simp [yn];done)),H',⟨by have:=HK1.out;first|omega|exact Nat.le_refl _⟩,by repeat (first|exact yD.refl _|apply yD.step)⟩
            · rw [if_neg c8] at H
              have c8b0:decide ((bt a0 x7_1)<32)=false:=decide_eq_false c8
              clear c8
              have H':=yc.mk H
              clear H
              go_wp2
              go_meet
              case rel=>exact ⟨_,(false),(by first|rfl|(simp;done)|(simp [*];done)|(simp [yn];done)),H',⟨by have:=HK1.out;first|omega|exact Nat.le_refl _⟩,by repeat (first|exact yD.refl _|apply yD.step)⟩
         case rest=>
          clear HC6
          try clear c2
          try clear c2b0
          try clear p2
          try clear c3
          try clear c3b0
          try clear c4
          try clear c4b0
          try clear p5
          try clear q5
          try clear hx5
          try clear c7
          try clear c7b0
          try clear c8
          try clear c8b0
          try clear c9
          try clear c9b0
          try clear c9b1
          try clear p5
          try clear q5
          obtain ⟨kq,x26_5,rfl,HA,HJ5,⟨mc5,rfl⟩⟩:=hcut
          cases kq with
          | zero=>exact absurd HA.out (by simp [yQ.j1])
          | succ kj5=>
           have H:=HA.out
           clear HA
           simp only [yQ.j1] at H
           by_cases c10:x26_5=true
           · subst c10
             have H1:(some false)=some r:=by rw [if_pos rfl] at H;exact H
             clear H
             have H:=H1
             clear H1
             obtain rfl:=Option.some.inj H
             go_wp2
             go_ret
             exact ⟨by first|rfl|(simp;done)|(simp [*];done)|(simp [yn];done),by repeat (first|exact yD.refl _|apply yD.step)⟩
           · replace c10:=Bool.eq_false_iff.mpr c10
             subst c10
             have H1:(yQ.l0 kj5 a0 (a0.size:Int) (wrap64 (x7_1+1)))=some r:=by rw [if_neg (show ¬ (false=true) by decide)] at H;exact H
             clear H
             have H:=H1
             clear H1
             have H':=yc.mk H
             clear H
             go_wp2
             go_roundg kj5
             case measure=>have:=HK1.out;have:=HJ5.out;omega
             case rel=>exact ⟨(wrap64 (x7_1+1)),(by first|rfl|(simp;done)|(simp [*];done)|(simp [yn];done)),H',⟨by have:=HK1.out;have:=HJ5.out;omega⟩,by repeat (first|exact yD.refl _|apply yD.step)⟩
       · rw [if_neg c4] at H
         exact absurd H (by simp)
     · rw [if_neg c3] at H
       exact absurd H (by simp)
   · rw [if_neg c2] at H
     have c2b0:decide (x7_1<(a0.size:Int))=false:=decide_eq_false c2
     clear c2
     obtain rfl:=Option.some.inj H
     go_wp2
     go_ret
     exact ⟨by first|rfl|(simp;done)|(simp [*];done)|(simp [yn];done),by repeat (first|exact yD.refl _|apply yD.step)⟩
end Go.Proofs.YtlmennkeggmdbaaGreatDoor
