/- Part 8 of 34 of the proof of the tied card of FnNetstatRead. -/
import Derived.Test.YtlmennkeggmdbaaGreatDoorVz
import Derived.Test.YtlmennkeggmdbaaGreatDoorV3
set_option linter.unusedVariables false
set_option linter.unusedSimpArgs false
namespace Go.Proofs.YtlmennkeggmdbaaGreatDoor
open Go.RowKit Go.Proofs.YtlmennkeggmdbaaGreatDoorW.PrintWords Go.Proofs.YtlmennkeggmdbaaGreatDoorW.PrintLast Go.Proofs.YtlmennkeggmdbaaGreatDoorW.PrintMore
attribute [local go_sem] Yt Yp YE YB Yj Yk Yu Yv
mutual
def yz.l0:Nat→ByteArray→List ByteArray→Int→Int→Int→Option (List ByteArray)
 | 0,_,_,_,_,_=>none
 | k+1,x0,x3,x4,x8,x9=>if x9<x8 then (if 0≤x9 then (if x9<(x0.size:Int) then (if (bt x0 x9)=32 then (yz.j1 k x0 x3 x4 x9 true x8 x9) else (yz.j1 k x0 x3 x4 x9 ((bt x0 x9) == 9) x8 x9)) else (none)) else (none)) else (if x4≥0 then (if 0≤x4 then (if x4≤(x0.size:Int) then (if x3.length<8796093022208 then (some (x3++[x0.extract (x4:Int).toNat x0.size])) else (none)) else (none)) else (none)) else (some x3))
def yz.j1:Nat→ByteArray→List ByteArray→Int→Int→Bool→Int→Int→Option (List ByteArray)
 | 0,_,_,_,_,_,_,_=>none
 | k+1,x0,x3,x4,x5,x6,x8,x9=>if x6=true then (yz.j2 k x0 x3 x4 x5 x6 x8 x9 (decide (x4≥0))) else (yz.j2 k x0 x3 x4 x5 x6 x8 x9 false)
def yz.j2:Nat→ByteArray→List ByteArray→Int→Int→Bool→Int→Int→Bool→Option (List ByteArray)
 | 0,_,_,_,_,_,_,_,_=>none
 | k+1,x0,x3,x4,x5,x6,x8,x9,x22=>if x22=true then (if 0≤x4 then (if x4≤x5 then (if x5≤(x0.size:Int) then (if x3.length<8796093022208 then (yz.l0 k x0 (x3++[x0.extract (x4:Int).toNat (x5:Int).toNat]) (-1) x8 (wrap64 (x9+1))) else (none)) else (none)) else (none)) else (none)) else (if x6=true then (yz.l0 k x0 x3 x4 x8 (wrap64 (x9+1))) else (if x4<0 then (yz.l0 k x0 x3 x5 x8 (wrap64 (x9+1))) else (yz.l0 k x0 x3 x4 x8 (wrap64 (x9+1)))))
end
def yz.f (k:Nat) (a0:ByteArray):Option (List ByteArray):=yz.l0 k a0 ([]:List ByteArray) (-1) (a0.size:Int) 0
theorem yz.YY:∀ k,(∀ y0 y1 y2 y3 y4,LeO (yz.l0 k y0 y1 y2 y3 y4) (yz.l0 (k+1) y0 y1 y2 y3 y4))∧(∀ y0 y1 y2 y3 y4 y5 y6,LeO (yz.j1 k y0 y1 y2 y3 y4 y5 y6) (yz.j1 (k+1) y0 y1 y2 y3 y4 y5 y6))∧(∀ y0 y1 y2 y3 y4 y5 y6 y7,LeO (yz.j2 k y0 y1 y2 y3 y4 y5 y6 y7) (yz.j2 (k+1) y0 y1 y2 y3 y4 y5 y6 y7))
 | 0=>⟨fun _ _ _ _ _ r h=>by simp [yz.l0] at h,fun _ _ _ _ _ _ _ r h=>by simp [yz.j1] at h,fun _ _ _ _ _ _ _ _ r h=>by simp [yz.j2] at h⟩
 | k+1=>by
  obtain ⟨ih0,ih1,ih2⟩:=yz.YY k
  refine ⟨?_,?_,?_⟩
  · intro y0 y1 y2 y3 y4
    unfold yz.l0
    repeat' first
    | (with_reducible exact ih0 _ _ _ _ _)
    | (with_reducible exact ih1 _ _ _ _ _ _ _)
    | (with_reducible exact ih2 _ _ _ _ _ _ _ _)
    | (with_reducible exact LeO.refl _)
    | (with_reducible exact LeO.none _)
    | (with_reducible refine LeO.ite ?_ ?_)
    | (with_reducible refine LeO.bind ?_ (fun _=>?_))
    | exact ih0 _ _ _ _ _
    | exact ih1 _ _ _ _ _ _ _
    | exact ih2 _ _ _ _ _ _ _ _
    | exact LeO.none _
    | refine LeO.ite ?_ ?_
    | refine LeO.bind ?_ (fun _=>?_)
  · intro y0 y1 y2 y3 y4 y5 y6
    unfold yz.j1
    repeat' first
    | (with_reducible exact ih0 _ _ _ _ _)
    | (with_reducible exact ih1 _ _ _ _ _ _ _)
    | (with_reducible exact ih2 _ _ _ _ _ _ _ _)
    | (with_reducible exact LeO.refl _)
    | (with_reducible exact LeO.none _)
    | (with_reducible refine LeO.ite ?_ ?_)
    | (with_reducible refine LeO.bind ?_ (fun _=>?_))
    | exact ih0 _ _ _ _ _
    | exact ih1 _ _ _ _ _ _ _
    | exact ih2 _ _ _ _ _ _ _ _
    | exact LeO.none _
    | refine LeO.ite ?_ ?_
    | refine LeO.bind ?_ (fun _=>?_)
  · intro y0 y1 y2 y3 y4 y5 y6 y7
    unfold yz.j2
    repeat' first
    | (with_reducible exact ih0 _ _ _ _ _)
    | (with_reducible exact ih1 _ _ _ _ _ _ _)
    | (with_reducible exact ih2 _ _ _ _ _ _ _ _)
    | (with_reducible exact LeO.refl _)
    | (with_reducible exact LeO.none _)
    | (with_reducible refine LeO.ite ?_ ?_)
    | (with_reducible refine LeO.bind ?_ (fun _=>?_))
    | exact ih0 _ _ _ _ _
    | exact ih1 _ _ _ _ _ _ _
    | exact ih2 _ _ _ _ _ _ _ _
    | exact LeO.none _
    | refine LeO.ite ?_ ?_
    | refine LeO.bind ?_ (fun _=>?_)
theorem yz.mono:∀ a0 k,LeO (yz.f k a0) (yz.f (k+1) a0):=by
 intro a0 k
 obtain ⟨ih0,ih1,ih2⟩:=yz.YY k
 unfold yz.f
 repeat' first
  | (with_reducible exact ih0 _ _ _ _ _)
  | (with_reducible exact ih1 _ _ _ _ _ _ _)
  | (with_reducible exact ih2 _ _ _ _ _ _ _ _)
  | (with_reducible exact LeO.refl _)
  | (with_reducible exact LeO.none _)
  | (with_reducible refine LeO.ite ?_ ?_)
  | (with_reducible refine LeO.bind ?_ (fun _=>?_))
  | exact ih0 _ _ _ _ _
  | exact ih1 _ _ _ _ _ _ _
  | exact ih2 _ _ _ _ _ _ _ _
  | exact LeO.none _
  | refine LeO.ite ?_ ?_
  | refine LeO.bind ?_ (fun _=>?_)
set_option maxHeartbeats 8000000 in
set_option maxRecDepth 100000 in
theorem yz.calls (k:Nat) (a0:ByteArray) (r:List ByteArray) (w:World) (h:yz.f k a0=some r) :
 Calls Tryz.prog 25 #[.string a0] w fun e w'=>∃ v0_:Value,e=.returned (v0_)∧Kd.R Kd.string 9 w' w.heap.size (fun _=>True) v0_ r∧Below w.heap.size w w':=by
 have HB:=yc.mk (Below.refl w.heap.size w)
 have H:(yz.l0 k a0 ([]:List ByteArray) (-1) (a0.size:Int) 0)=some r:=h
 clear h
 have H':=yc.mk H
 clear H
 go_enter Tryz.func25,Tryz.ntmps25
 go_wp2
 go_loopg [3,4,9] k (fun kq v3 v4 v9 w'=>∃ (x3_1:List ByteArray) (x4_1:Int) (x9_1:Int),v4=.int .i64 x4_1∧v9=.int .i64 x9_1∧yc (yz.l0 kq a0 x3_1 x4_1 (a0.size:Int) x9_1=some r)∧yc (kq≤k)∧yc (Kd.R Kd.string 9 w' w.heap.size (fun _=>True) v3 x3_1)∧yc (Below w.heap.size w w'))
 case atStart=>exact ⟨(([]:List ByteArray)),((-1)),(0),(by first|rfl|(simp;done)|(simp [*];done)|(simp [yn];done)),(by first|rfl|(simp;done)|(simp [*];done)|(simp [yn];done)),H',⟨Nat.le_refl _⟩,⟨by first|exact Kd.qm _ _ _ _ _|exact Kd.yae _ _ _ _ _|exact Kd.QV _ _ _ _ _|exact Kd.yaf _ _ _ _ _|exact Kd.yah _ _ _ _ _⟩,⟨by repeat (first|(with_reducible first|exact HB.out|apply yl|apply ym|apply yp)|exact HB.out)⟩⟩
 case round=>
  clear H'
  obtain ⟨x3_1,x4_1,x9_1,rfl,rfl,HA,HK1,HO_3,HB⟩:=hrel
  cases gk with
  | zero=>exact absurd HA.out (by simp [yz.l0])
  | succ k1=>
   have H:=HA.out
   clear HA
   simp only [yz.l0] at H
   by_cases c2:x9_1<(a0.size:Int)
   · rw [if_pos c2] at H
     have c2b0:decide (x9_1<(a0.size:Int))=true:=decide_eq_true c2
     clear c2
     have HC3:=yc.mk H
     clear H
     go_upto_region 6 with (fail)
     go_cut [6] (fun v6 wc=>∃ (kq:Nat) (x6_2:Bool),v6=.bool x6_2∧yc (yz.j1 kq a0 x3_1 x4_1 x9_1 x6_2 (a0.size:Int) x9_1=some r)∧yc (kq≤k1)∧yc (Kd.R Kd.string 9 wc w.heap.size (fun _=>True) u3 x3_1)∧yc (Below w.heap.size w wc))
     case first=>
      have H:=HC3.out
      clear HC3
      by_cases c4:0≤x9_1
      · rw [if_pos c4] at H
        have c4b0:decide (0≤x9_1)=true:=decide_eq_true c4
        clear c4
        (first|rw [c4b0]|(simp only [yM,yP];rw [c4b0])|skip)
        by_cases c5:x9_1<(a0.size:Int)
        · rw [if_pos c5] at H
          have c5b0:decide (x9_1<(a0.size:Int))=true:=decide_eq_true c5
          clear c5
          by_cases c7:(bt a0 x9_1)=32
          · rw [if_pos c7] at H
            have c7b0:((bt a0 x9_1) == 32)=true:=beq_iff_eq.mpr c7
            have c7b1:((bt a0 x9_1) != 32)=false:=bne_eq_false_iff_eq.mpr c7
            clear c7
            have H':=yc.mk H
            clear H
            have p6:0≤(x9_1:Int):=of_decide_eq_true (by first|(with_reducible assumption)|assumption)
            have q6:x9_1<(a0.size:Int):=of_decide_eq_true (by first|(with_reducible assumption)|assumption)
            have hx6:=yaN a0 x9_1
            replace p6:=eq_true p6
            replace q6:=eq_true q6
            go_wp2
            go_meet
            case rel=>exact ⟨_,(true),(by first|rfl|(simp;done)|(simp [*];done)|(simp [yn];done)),H',⟨by have:=HK1.out;first|omega|exact Nat.le_refl _⟩,⟨by refine Zr ?_;exact HO_3.out⟩,⟨by repeat (first|(with_reducible first|exact HB.out|apply yl|apply ym|apply yp)|exact HB.out)⟩⟩
          · rw [if_neg c7] at H
            have c7b0:((bt a0 x9_1) == 32)=false:=beq_eq_false_iff_ne.mpr c7
            have c7b1:((bt a0 x9_1) != 32)=true:=bne_iff_ne.mpr c7
            have H':=yc.mk H
            clear H
            have p6:0≤(x9_1:Int):=of_decide_eq_true (by first|(with_reducible assumption)|assumption)
            have q6:x9_1<(a0.size:Int):=of_decide_eq_true (by first|(with_reducible assumption)|assumption)
            have hx6:=yaN a0 x9_1
            replace p6:=eq_true p6
            replace q6:=eq_true q6
            have p8:0≤(x9_1:Int):=of_decide_eq_true (by first|(with_reducible assumption)|assumption)
            have q8:x9_1<(a0.size:Int):=of_decide_eq_true (by first|(with_reducible assumption)|assumption)
            have hx8:=yaN a0 x9_1
            replace p8:=eq_true p8
            replace q8:=eq_true q8
            go_wp2
            go_meet
            case rel=>exact ⟨_,(((bt a0 x9_1) == 9)),(by first|rfl|(simp;done)|(simp [*];done)|(simp [yn];done)),H',⟨by have:=HK1.out;first|omega|exact Nat.le_refl _⟩,⟨by refine Zr ?_;exact HO_3.out⟩,⟨by repeat (first|(with_reducible first|exact HB.out|apply yl|apply ym|apply yp)|exact HB.out)⟩⟩
        · rw [if_neg c5] at H
          exact absurd H (by simp)
      · rw [if_neg c4] at H
        exact absurd H (by simp)
     case rest=>
      clear HC3
      try clear c2
      try clear c2b0
      try clear p2
      try clear c4
      try clear c4b0
      try clear c5
      try clear c5b0
      try clear p6
      try clear q6
      try clear hx6
      try clear c7
      try clear c7b0
      try clear c7b1
      try clear p8
      try clear q8
      try clear hx8
      try clear p6
      try clear p8
      try clear q6
      try clear q8
      obtain ⟨kq,x6_2,rfl,HA,HJ2,HO_3,HB⟩:=hcut
      cases kq with
      | zero=>exact absurd HA.out (by simp [yz.j1])
      | succ kj2=>
       have H:=HA.out
       clear HA
       simp only [yz.j1] at H
       have HC9:=yc.mk H
       clear H
       go_upto_region 7 with (fail)
       go_cut [22] (fun v22 wc=>∃ (kq:Nat) (x22_8:Bool),v22=.bool x22_8∧yc (yz.j2 kq a0 x3_1 x4_1 x9_1 x6_2 (a0.size:Int) x9_1 x22_8=some r)∧yc (kq≤kj2)∧yc (Kd.R Kd.string 9 wc w.heap.size (fun _=>True) u3 x3_1)∧yc (Below w.heap.size w wc))
       case first=>
        have H:=HC9.out
        clear HC9
        by_cases c10:x6_2=true
        · subst c10
          have H1:(yz.j2 kj2 a0 x3_1 x4_1 x9_1 true (a0.size:Int) x9_1 (decide (x4_1≥0)))=some r:=by rw [if_pos rfl] at H;exact H
          clear H
          have H:=H1
          clear H1
          have H':=yc.mk H
          clear H
          go_wp2
          go_meet
          case rel=>exact ⟨_,(decide (x4_1≥0)),(by first|rfl|(simp;done)|(simp [*];done)|(simp [yn];done)),H',⟨by have:=HK1.out;have:=HJ2.out;first|omega|exact Nat.le_refl _⟩,⟨by refine Zr ?_;exact HO_3.out⟩,⟨by repeat (first|(with_reducible first|exact HB.out|apply yl|apply ym|apply yp)|exact HB.out)⟩⟩
        · replace c10:=Bool.eq_false_iff.mpr c10
          subst c10
          have H1:(yz.j2 kj2 a0 x3_1 x4_1 x9_1 false (a0.size:Int) x9_1 false)=some r:=by rw [if_neg (show ¬ (false=true) by decide)] at H;exact H
          clear H
          have H:=H1
          clear H1
          have H':=yc.mk H
          clear H
          go_wp2
          go_meet
          case rel=>exact ⟨_,(false),(by first|rfl|(simp;done)|(simp [*];done)|(simp [yn];done)),H',⟨by have:=HK1.out;have:=HJ2.out;first|omega|exact Nat.le_refl _⟩,⟨by refine Zr ?_;exact HO_3.out⟩,⟨by repeat (first|(with_reducible first|exact HB.out|apply yl|apply ym|apply yp)|exact HB.out)⟩⟩
       case rest=>
        clear HC9
        try clear c1
        try clear c2
        try clear c2b0
        try clear p2
        try clear c4
        try clear c4b0
        try clear c5
        try clear c5b0
        try clear p6
        try clear q6
        try clear hx6
        try clear c7
        try clear c7b0
        try clear c7b1
        try clear p8
        try clear q8
        try clear hx8
        try clear c10
        try clear p2
        try clear p6
        try clear p8
        try clear q6
        try clear q8
        obtain ⟨kq,x22_8,rfl,HA,HJ8,HO_3,HB⟩:=hcut
        cases kq with
        | zero=>exact absurd HA.out (by simp [yz.j2])
        | succ kj8=>
         have H:=HA.out
         clear HA
         simp only [yz.j2] at H
         by_cases c11:x22_8=true
         · subst c11
           have H1:(if 0≤x4_1 then (if x4_1≤x9_1 then (if x9_1≤(a0.size:Int) then (if x3_1.length<8796093022208 then (yz.l0 kj8 a0 (x3_1++[a0.extract (x4_1:Int).toNat (x9_1:Int).toNat]) (-1) (a0.size:Int) (wrap64 (x9_1+1))) else (none)) else (none)) else (none)) else (none))=some r:=by rw [if_pos rfl] at H;exact H
           clear H
           have H:=H1
           clear H1
           by_cases c12:0≤x4_1
           · rw [if_pos c12] at H
             have c12b0:=eq_true c12
             have c12b1:decide (0≤x4_1)=true:=decide_eq_true c12
             clear c12
             by_cases c13:x4_1≤x9_1
             · rw [if_pos c13] at H
               have c13b0:=eq_true c13
               have c13b1:decide (x4_1≤x9_1)=true:=decide_eq_true c13
               clear c13
               by_cases c14:x9_1≤(a0.size:Int)
               · rw [if_pos c14] at H
                 have c14b0:=eq_true c14
                 have c14b1:decide (x9_1≤(a0.size:Int))=true:=decide_eq_true c14
                 clear c14
                 by_cases c15:x3_1.length<8796093022208
                 · rw [if_pos c15] at H
                   have LMc15:=yc.mk c15
                   clear c15
                   obtain ⟨y133,hy133⟩:∃ y_:List ByteArray,y_=(x3_1++[a0.extract (x4_1:Int).toNat (x9_1:Int).toNat]):=⟨_,rfl⟩
                   replace H:(yz.l0 kj8 a0 y133 (-1) (a0.size:Int) (wrap64 (x9_1+1)))=some r:=by first|(rw [hy133];with_reducible exact H)|(have H2_:=(Option.bind_some _ _).symm.trans H;rw [hy133];with_reducible exact H2_)|(have H2_:=(Option.bind_some _ _).symm.trans H;with_reducible exact H2_)|with_reducible exact H|(rw [hy133];exact H)|exact H
                   have Ny133:=yc.mk hy133
                   clear hy133
                   have H':=yc.mk H
                   clear H
                   go_wp2_with (first|((with_reducible refine Jl (b:=.append) (xs:=#[.tmp 28,.tmp 33]) rfl ?_);at_builtin;refine Kd.qy Kd.string (w0:=w) w.heap.size rfl (.tmp 28) (.tmp 33) 46 9 (.string ⟨#[]⟩) 16 rfl Tryz.underlying46 ybP rfl Zd Zo u3 x3_1 (a0.extract (x4_1:Int).toNat (x9_1:Int).toNat) [.string (a0.extract (x4_1:Int).toNat (x9_1:Int).toNat)] (fun _=>True) (fun _=>False) rfl rfl ?aP (fun _ hk=>hk.elim) ?aF ?aO ?aB ?aS ?aL ?_;(case aP=>exact rfl);(case aB=>exact Zh);(case aF=>exact (fun _ _=>trivial));(case aO=>exact (Zr HO_3.out));(case aS=>exact (yt Zh));(case aL=>have:=LMc15.out;omega);intro v134 w16 ho hb hg hat;rw [← Ny133.out] at ho;have n0_:=yc.mk (hb);have n1_:=yc.mk (ho);clear HB HO_3;have HB:=n0_;have HO135:=n1_;clear n0_ n1_;clear ho hb hg hat))
                   go_roundg kj8
                   case measure=>have:=HK1.out;have:=HJ2.out;have:=HJ8.out;omega
                   case rel=>exact ⟨(y133),((-1)),(wrap64 (x9_1+1)),(by first|rfl|(simp;done)|(simp [*];done)|(simp [yn];done)),(by first|rfl|(simp;done)|(simp [*];done)|(simp [yn];done)),H',⟨by have:=HK1.out;have:=HJ2.out;have:=HJ8.out;omega⟩,⟨by refine Zr ?_;exact HO135.out⟩,⟨by repeat (first|(with_reducible first|exact HB.out|apply yl|apply ym|apply yp)|exact HB.out)⟩⟩
                 · rw [if_neg c15] at H
                   exact absurd H (by simp)
               · rw [if_neg c14] at H
                 exact absurd H (by simp)
             · rw [if_neg c13] at H
               exact absurd H (by simp)
           · rw [if_neg c12] at H
             exact absurd H (by simp)
         · replace c11:=Bool.eq_false_iff.mpr c11
           subst c11
           have H1:(if x6_2=true then (yz.l0 kj8 a0 x3_1 x4_1 (a0.size:Int) (wrap64 (x9_1+1))) else (if x4_1<0 then (yz.l0 kj8 a0 x3_1 x9_1 (a0.size:Int) (wrap64 (x9_1+1))) else (yz.l0 kj8 a0 x3_1 x4_1 (a0.size:Int) (wrap64 (x9_1+1)))))=some r:=by rw [if_neg (show ¬ (false=true) by decide)] at H;exact H
           clear H
           have H:=H1
           clear H1
           by_cases c17:x6_2=true
           · subst c17
             have H1:(yz.l0 kj8 a0 x3_1 x4_1 (a0.size:Int) (wrap64 (x9_1+1)))=some r:=by rw [if_pos rfl] at H;exact H
             clear H
             have H:=H1
             clear H1
             have H':=yc.mk H
             clear H
             go_wp2
             go_roundg kj8
             case measure=>have:=HK1.out;have:=HJ2.out;have:=HJ8.out;omega
             case rel=>exact ⟨(x3_1),(x4_1),(wrap64 (x9_1+1)),(by first|rfl|(simp;done)|(simp [*];done)|(simp [yn];done)),(by first|rfl|(simp;done)|(simp [*];done)|(simp [yn];done)),H',⟨by have:=HK1.out;have:=HJ2.out;have:=HJ8.out;omega⟩,⟨by refine Zr ?_;exact HO_3.out⟩,⟨by repeat (first|(with_reducible first|exact HB.out|apply yl|apply ym|apply yp)|exact HB.out)⟩⟩
           · replace c17:=Bool.eq_false_iff.mpr c17
             subst c17
             have H1:(if x4_1<0 then (yz.l0 kj8 a0 x3_1 x9_1 (a0.size:Int) (wrap64 (x9_1+1))) else (yz.l0 kj8 a0 x3_1 x4_1 (a0.size:Int) (wrap64 (x9_1+1))))=some r:=by rw [if_neg (show ¬ (false=true) by decide)] at H;exact H
             clear H
             have H:=H1
             clear H1
             by_cases c18:x4_1<0
             · rw [if_pos c18] at H
               have c18b0:decide (x4_1<0)=true:=decide_eq_true c18
               clear c18
               have H':=yc.mk H
               clear H
               go_wp2
               go_roundg kj8
               case measure=>have:=HK1.out;have:=HJ2.out;have:=HJ8.out;omega
               case rel=>exact ⟨(x3_1),(x9_1),(wrap64 (x9_1+1)),(by first|rfl|(simp;done)|(simp [*];done)|(simp [yn];done)),(by first|rfl|(simp;done)|(simp [*];done)|(simp [yn];done)),H',⟨by have:=HK1.out;have:=HJ2.out;have:=HJ8.out;omega⟩,⟨by refine Zr ?_;exact HO_3.out⟩,⟨by repeat (first|(with_reducible first|exact HB.out|apply yl|apply ym|apply yp)|exact HB.out)⟩⟩
             · rw [if_neg c18] at H
               have c18b0:decide (x4_1<0)=false:=decide_eq_false c18
               clear c18
               have H':=yc.mk H
               clear H
               go_wp2
               go_roundg kj8
               case measure=>have:=HK1.out;have:=HJ2.out;have:=HJ8.out;omega
               case rel=>exact ⟨(x3_1),(x4_1),(wrap64 (x9_1+1)),(by first|rfl|(simp;done)|(simp [*];done)|(simp [yn];done)),(by first|rfl|(simp;done)|(simp [*];done)|(simp [yn];done)),H',⟨by have:=HK1.out;have:=HJ2.out;have:=HJ8.out;omega⟩,⟨by refine Zr ?_;exact HO_3.out⟩,⟨by repeat (first|(with_reducible first|exact HB.out|apply yl|apply ym|apply yp)|exact HB.out)⟩⟩
   · rw [if_neg c2] at H
     have c2b0:decide (x9_1<(a0.size:Int))=false:=decide_eq_false c2
     clear c2
     by_cases c19:x4_1≥0
     · rw [if_pos c19] at H
       have c19b0:decide (0≤x4_1)=true:=decide_eq_true c19
       clear c19
       by_cases c20:0≤x4_1
       · rw [if_pos c20] at H
         have c20b0:=eq_true c20
         have c20b1:decide (0≤x4_1)=true:=decide_eq_true c20
         clear c20
         by_cases c21:x4_1≤(a0.size:Int)
         · rw [if_pos c21] at H
           have c21b0:=eq_true c21
           have c21b1:decide (x4_1≤(a0.size:Int))=true:=decide_eq_true c21
           clear c21
           by_cases c22:x3_1.length<8796093022208
           · rw [if_pos c22] at H
             have LMc22:=yc.mk c22
             clear c22
             obtain ⟨y136,hy136⟩:∃ y_:List ByteArray,y_=(x3_1++[a0.extract (x4_1:Int).toNat a0.size]):=⟨_,rfl⟩
             replace H:(some y136)=some r:=by first|(rw [hy136];with_reducible exact H)|(have H2_:=(Option.bind_some _ _).symm.trans H;rw [hy136];with_reducible exact H2_)|(have H2_:=(Option.bind_some _ _).symm.trans H;with_reducible exact H2_)|with_reducible exact H|(rw [hy136];exact H)|exact H
             have Ny136:=yc.mk hy136
             clear hy136
             obtain rfl:=Option.some.inj H
             go_wp2_with (first|((with_reducible refine Jl (b:=.append) (xs:=#[.tmp 46,.tmp 50]) rfl ?_);at_builtin;refine Kd.qy Kd.string (w0:=w) w.heap.size rfl (.tmp 46) (.tmp 50) 46 9 (.string ⟨#[]⟩) 16 rfl Tryz.underlying46 ybP rfl Zd Zo u3 x3_1 (a0.extract (x4_1:Int).toNat a0.size) [.string (a0.extract (x4_1:Int).toNat a0.size)] (fun _=>True) (fun _=>False) rfl rfl ?aP (fun _ hk=>hk.elim) ?aF ?aO ?aB ?aS ?aL ?_;(case aP=>exact rfl);(case aB=>exact Zh);(case aF=>exact (fun _ _=>trivial));(case aO=>exact (Zr HO_3.out));(case aS=>exact (yt Zh));(case aL=>have:=LMc22.out;omega);intro v137 w23 ho hb hg hat;rw [← Ny136.out] at ho;have n0_:=yc.mk (hb);have n1_:=yc.mk (ho);clear HB HO_3;have HB:=n0_;have HO138:=n1_;clear n0_ n1_;clear ho hb hg hat))
             go_ret
             exact ⟨_,by first|rfl|(simp [yK,yL] <;> rfl)|(simp [*,yK,yL] <;> rfl),by refine Zr ?_; exact HO138.out,by repeat (first|(with_reducible first|exact HB.out|apply yl|apply ym|apply yp)|exact HB.out)⟩
           · rw [if_neg c22] at H
             exact absurd H (by simp)
         · rw [if_neg c21] at H
           exact absurd H (by simp)
       · rw [if_neg c20] at H
         exact absurd H (by simp)
     · rw [if_neg c19] at H
       have c19b0:decide (0≤x4_1)=false:=decide_eq_false c19
       clear c19
       obtain rfl:=Option.some.inj H
       go_wp2
       go_ret
       exact ⟨_,by first|rfl|(simp [yK,yL] <;> rfl)|(simp [*,yK,yL] <;> rfl),by refine Zr ?_; exact HO_3.out,by repeat (first|(with_reducible first|exact HB.out|apply yl|apply ym|apply yp)|exact HB.out)⟩
end Go.Proofs.YtlmennkeggmdbaaGreatDoor
namespace Go.Proofs.YtlmennkeggmdbaaGreatDoor
open Go.RowKit Go.Proofs.YtlmennkeggmdbaaGreatDoorW.PrintWords Go.Proofs.YtlmennkeggmdbaaGreatDoorW.PrintLast Go.Proofs.YtlmennkeggmdbaaGreatDoorW.PrintMore
attribute [local go_sem] Yt Yp YE YB Yj Yk Yu Yv
def JN.f (a0:ByteArray) (a1:ByteArray):Option (Bool):=if (a0.size:Int)≥(a1.size:Int) then (if 0≤(wrap64 ((a0.size:Int) - (a1.size:Int))) then (if (wrap64 ((a0.size:Int) - (a1.size:Int)))≤(a0.size:Int) then (some ((a0.extract ((wrap64 ((a0.size:Int) - (a1.size:Int))):Int).toNat a0.size).toList == a1.toList)) else (none)) else (none)) else (some false)
set_option maxHeartbeats 8000000 in
set_option maxRecDepth 100000 in
theorem JN.calls (a0:ByteArray) (a1:ByteArray) (r:Bool) (w:World) (h:JN.f a0 a1=some r) :
 Calls Tryz.prog 26 #[.string a0,.string a1] w fun e w'=>e=.returned (.bool r)∧yD w w':=by
 have H:(if (a0.size:Int)≥(a1.size:Int) then (if 0≤(wrap64 ((a0.size:Int) - (a1.size:Int))) then (if (wrap64 ((a0.size:Int) - (a1.size:Int)))≤(a0.size:Int) then (some ((a0.extract ((wrap64 ((a0.size:Int) - (a1.size:Int))):Int).toNat a0.size).toList == a1.toList)) else (none)) else (none)) else (some false))=some r:=h
 clear h
 by_cases c3:(a0.size:Int)≥(a1.size:Int)
 · rw [if_pos c3] at H
   have c3b0:decide ((a1.size:Int)≤(a0.size:Int))=true:=decide_eq_true c3
   have c3b1:decide (a1.size≤a0.size)=true:=decide_eq_true (Int.ofNat_le.mp c3)
   clear c3
   obtain ⟨ji4,hji4⟩:∃ j_:Int,(wrap64 ((a0.size:Int) - (a1.size:Int)))=j_:=⟨_,rfl⟩
   replace H:(if 0≤(ji4) then (if (ji4)≤(a0.size:Int) then (some ((a0.extract ((ji4):Int).toNat a0.size).toList == a1.toList)) else (none)) else (none))=some r:=by first|(rw [hji4] at H;exact H)|(simp only [hji4] at H ⊢;exact H)
   have hji4w:(IntKind.i64.wrap ((a0.size:Int) - (a1.size:Int)))=ji4:=(yM _).trans hji4
   by_cases c5:0≤(ji4)
   · rw [if_pos c5] at H
     have c5b0:=eq_true c5
     have c5b1:decide (0≤(ji4))=true:=decide_eq_true c5
     clear c5
     by_cases c6:(ji4)≤(a0.size:Int)
     · rw [if_pos c6] at H
       have c6b0:=eq_true c6
       have c6b1:decide ((ji4)≤(a0.size:Int))=true:=decide_eq_true c6
       clear c6
       obtain rfl:=Option.some.inj H
       go_enter Tryz.func26,Tryz.ntmps26
       go_wp2
       go_ret
       exact ⟨by first|rfl|(simp; done)|(simp only [← hji4] <;> (first|rfl|simp))|(simp [*]; done),by repeat (first|exact yD.refl _|apply yD.step)⟩
     · rw [if_neg c6] at H
       exact absurd H (by simp)
   · rw [if_neg c5] at H
     exact absurd H (by simp)
 · rw [if_neg c3] at H
   have c3b0:decide ((a1.size:Int)≤(a0.size:Int))=false:=decide_eq_false c3
   have c3b1:decide (a1.size≤a0.size)=false:=decide_eq_false (fun h=>c3 (Int.ofNat_le.mpr h))
   clear c3
   obtain rfl:=Option.some.inj H
   go_enter Tryz.func26,Tryz.ntmps26
   go_wp2
   go_ret
   exact ⟨by first|rfl|(simp;done)|(simp [*];done)|(simp [yn];done),by repeat (first|exact yD.refl _|apply yD.step)⟩
end Go.Proofs.YtlmennkeggmdbaaGreatDoor
