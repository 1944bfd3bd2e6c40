/- Part 10 of 34 of the proof of the tied card of FnNetstatRead. -/
import Derived.Test.YtlmennkeggmdbaaGreatDoorVz
import Derived.Test.YtlmennkeggmdbaaGreatDoorV3
import Derived.Test.YtlmennkeggmdbaaGreatDoorV9
import Derived.Test.YtlmennkeggmdbaaGreatDoorV7
import Derived.Test.YtlmennkeggmdbaaGreatDoorV8
set_option linter.unusedVariables false
set_option linter.unusedSimpArgs false
namespace Go.Proofs.YtlmennkeggmdbaaGreatDoor
open Go.RowKit Go.Proofs.YtlmennkeggmdbaaGreatDoorW.PrintWords Go.Proofs.YtlmennkeggmdbaaGreatDoorW.PrintLast Go.Proofs.YtlmennkeggmdbaaGreatDoorW.PrintMore
attribute [local go_sem] Yt Yp YE YB Yj Yk Yu Yv
mutual
def yT.j0:Nat→Int→Bool→Option (Int)
 | 0,_,_=>none
 | k+1,x0,x3=>if x3=true then (some ((x0 - 48) % 256)) else (if x0≥97 then (yT.j1 k x0 (decide (x0≤102))) else (yT.j1 k x0 false))
def yT.j1:Nat→Int→Bool→Option (Int)
 | 0,_,_=>none
 | k+1,x0,x13=>if x13=true then (some (((x0 - 97) % 256)+10)) else (if x0≥65 then (if x0≤70 then (some (((x0 - 65) % 256)+10)) else (some 99)) else (some 99))
end
def yT.f (k:Nat) (a0:Int):Option (Int):=if a0≥48 then (yT.j0 k a0 (decide (a0≤57))) else (yT.j0 k a0 false)
theorem yT.YY:∀ k,(∀ y0 y1,LeO (yT.j0 k y0 y1) (yT.j0 (k+1) y0 y1))∧(∀ y0 y1,LeO (yT.j1 k y0 y1) (yT.j1 (k+1) y0 y1))
 | 0=>⟨fun _ _ r h=>by simp [yT.j0] at h,fun _ _ r h=>by simp [yT.j1] at h⟩
 | k+1=>by
  obtain ⟨ih0,ih1⟩:=yT.YY k
  refine ⟨?_,?_⟩
  · intro y0 y1
    unfold yT.j0
    repeat' first
    | (with_reducible exact ih0 _ _)
    | (with_reducible exact ih1 _ _)
    | (with_reducible exact LeO.refl _)
    | (with_reducible exact LeO.none _)
    | (with_reducible refine LeO.ite ?_ ?_)
    | (with_reducible refine LeO.bind ?_ (fun _=>?_))
    | exact ih0 _ _
    | exact ih1 _ _
    | exact LeO.none _
    | refine LeO.ite ?_ ?_
    | refine LeO.bind ?_ (fun _=>?_)
  · intro y0 y1
    unfold yT.j1
    repeat' first
    | (with_reducible exact ih0 _ _)
    | (with_reducible exact ih1 _ _)
    | (with_reducible exact LeO.refl _)
    | (with_reducible exact LeO.none _)
    | (with_reducible refine LeO.ite ?_ ?_)
    | (with_reducible refine LeO.bind ?_ (fun _=>?_))
    | exact ih0 _ _
    | exact ih1 _ _
    | exact LeO.none _
    | refine LeO.ite ?_ ?_
    | refine LeO.bind ?_ (fun _=>?_)
theorem yT.mono:∀ a0 k,LeO (yT.f k a0) (yT.f (k+1) a0):=by
 intro a0 k
 obtain ⟨ih0,ih1⟩:=yT.YY k
 unfold yT.f
 repeat' first
  | (with_reducible exact ih0 _ _)
  | (with_reducible exact ih1 _ _)
  | (with_reducible exact LeO.refl _)
  | (with_reducible exact LeO.none _)
  | (with_reducible refine LeO.ite ?_ ?_)
  | (with_reducible refine LeO.bind ?_ (fun _=>?_))
  | exact ih0 _ _
  | exact ih1 _ _
  | exact LeO.none _
  | refine LeO.ite ?_ ?_
  | refine LeO.bind ?_ (fun _=>?_)
set_option maxHeartbeats 8000000 in
set_option maxRecDepth 100000 in
theorem yT.calls (k:Nat) (a0:Int) (r:Int) (w:World) (h:yT.f k a0=some r) :
 Calls Tryz.prog 213 #[.int .u8 a0] w fun e w'=>e=.returned (.int .u64 r)∧yD w w':=by
 have H:(if a0≥48 then (yT.j0 k a0 (decide (a0≤57))) else (yT.j0 k a0 false))=some r:=h
 clear h
 have HC2:=yc.mk H
 clear H
 go_enter Tryz.func213,Tryz.ntmps213
 go_upto_region 1 with (fail)
 go_cut [3] (fun v3 wc=>∃ (kq:Nat) (x3_1:Bool),v3=.bool x3_1∧yc (yT.j0 kq a0 x3_1=some r)∧yc (kq≤k)∧yD w wc)
 case first=>
  have H:=HC2.out
  clear HC2
  by_cases c3:a0≥48
  · rw [if_pos c3] at H
    have c3b0:decide (48≤a0)=true:=decide_eq_true c3
    clear c3
    (first|rw [c3b0]|(simp only [yM,yP];rw [c3b0])|skip)
    have H':=yc.mk H
    clear H
    go_wp2
    go_meet
    case rel=>exact ⟨_,(decide (a0≤57)),(by first|rfl|(simp;done)|(simp [*];done)|(simp [yn];done)),H',⟨by first|omega|exact Nat.le_refl _⟩,by repeat (first|exact yD.refl _|apply yD.step)⟩
  · rw [if_neg c3] at H
    have c3b0:decide (48≤a0)=false:=decide_eq_false c3
    clear c3
    (first|rw [c3b0]|(simp only [yM,yP];rw [c3b0])|skip)
    have H':=yc.mk H
    clear H
    go_wp2
    go_meet
    case rel=>exact ⟨_,(false),(by first|rfl|(simp;done)|(simp [*];done)|(simp [yn];done)),H',⟨by first|omega|exact Nat.le_refl _⟩,by repeat (first|exact yD.refl _|apply yD.step)⟩
 case rest=>
  clear HC2
  try clear c2
  try clear p2
  try clear c3
  try clear c3b0
  obtain ⟨kq,x3_1,rfl,HA,HJ1,⟨mc1,rfl⟩⟩:=hcut
  cases kq with
  | zero=>exact absurd HA.out (by simp [yT.j0])
  | succ kj1=>
   have H:=HA.out
   clear HA
   simp only [yT.j0] at H
   by_cases c4:x3_1=true
   · subst c4
     have H1:(some ((a0 - 48) % 256))=some r:=by rw [if_pos rfl] at H;exact H
     clear H
     have H:=H1
     clear H1
     obtain rfl:=Option.some.inj H
     go_wp2
     go_ret
     exact ⟨by first|rfl|(simp;done)|(simp [*];done)|(simp [yn];done),by repeat (first|exact yD.refl _|apply yD.step)⟩
   · replace c4:=Bool.eq_false_iff.mpr c4
     subst c4
     have H1:(if a0≥97 then (yT.j1 kj1 a0 (decide (a0≤102))) else (yT.j1 kj1 a0 false))=some r:=by rw [if_neg (show ¬ (false=true) by decide)] at H;exact H
     clear H
     have H:=H1
     clear H1
     have HC5:=yc.mk H
     clear H
     go_upto_region 3 with (fail)
     go_cut [13] (fun v13 wc=>∃ (kq:Nat) (x13_4:Bool),v13=.bool x13_4∧yc (yT.j1 kq a0 x13_4=some r)∧yc (kq≤kj1)∧yD w wc)
     case first=>
      have H:=HC5.out
      clear HC5
      by_cases c6:a0≥97
      · rw [if_pos c6] at H
        have c6b0:decide (97≤a0)=true:=decide_eq_true c6
        clear c6
        (first|rw [c6b0]|(simp only [yM,yP];rw [c6b0])|skip)
        have H':=yc.mk H
        clear H
        go_wp2
        go_meet
        case rel=>exact ⟨_,(decide (a0≤102)),(by first|rfl|(simp;done)|(simp [*];done)|(simp [yn];done)),H',⟨by have:=HJ1.out;first|omega|exact Nat.le_refl _⟩,by repeat (first|exact yD.refl _|apply yD.step)⟩
      · rw [if_neg c6] at H
        have c6b0:decide (97≤a0)=false:=decide_eq_false c6
        clear c6
        (first|rw [c6b0]|(simp only [yM,yP];rw [c6b0])|skip)
        have H':=yc.mk H
        clear H
        go_wp2
        go_meet
        case rel=>exact ⟨_,(false),(by first|rfl|(simp;done)|(simp [*];done)|(simp [yn];done)),H',⟨by have:=HJ1.out;first|omega|exact Nat.le_refl _⟩,by repeat (first|exact yD.refl _|apply yD.step)⟩
     case rest=>
      clear HC5
      try clear c1
      try clear c2
      try clear p2
      try clear c3
      try clear c3b0
      try clear c4
      try clear c6
      try clear c6b0
      try clear p2
      obtain ⟨kq,x13_4,rfl,HA,HJ4,⟨mc4,rfl⟩⟩:=hcut
      cases kq with
      | zero=>exact absurd HA.out (by simp [yT.j1])
      | succ kj4=>
       have H:=HA.out
       clear HA
       simp only [yT.j1] at H
       by_cases c7:x13_4=true
       · subst c7
         have H1:(some (((a0 - 97) % 256)+10))=some r:=by rw [if_pos rfl] at H;exact H
         clear H
         have H:=H1
         clear H1
         obtain rfl:=Option.some.inj H
         go_wp2
         go_ret
         exact ⟨by first|rfl|(simp;done)|(simp [*];done)|(simp [yn];done),by repeat (first|exact yD.refl _|apply yD.step)⟩
       · replace c7:=Bool.eq_false_iff.mpr c7
         subst c7
         have H1:(if a0≥65 then (if a0≤70 then (some (((a0 - 65) % 256)+10)) else (some 99)) else (some 99))=some r:=by rw [if_neg (show ¬ (false=true) by decide)] at H;exact H
         clear H
         have H:=H1
         clear H1
         by_cases c8:a0≥65
         · rw [if_pos c8] at H
           have c8b0:decide (65≤a0)=true:=decide_eq_true c8
           clear c8
           by_cases c9:a0≤70
           · rw [if_pos c9] at H
             have c9b0:decide (a0≤70)=true:=decide_eq_true c9
             clear c9
             obtain rfl:=Option.some.inj H
             go_wp2
             go_ret
             exact ⟨by first|rfl|(simp;done)|(simp [*];done)|(simp [yn];done),by repeat (first|exact yD.refl _|apply yD.step)⟩
           · rw [if_neg c9] at H
             have c9b0:decide (a0≤70)=false:=decide_eq_false c9
             clear c9
             obtain rfl:=Option.some.inj H
             go_wp2
             go_ret
             exact ⟨by first|rfl|(simp;done)|(simp [*];done)|(simp [yn];done),by repeat (first|exact yD.refl _|apply yD.step)⟩
         · rw [if_neg c8] at H
           have c8b0:decide (65≤a0)=false:=decide_eq_false c8
           clear c8
           obtain rfl:=Option.some.inj H
           go_wp2
           go_ret
           exact ⟨by first|rfl|(simp;done)|(simp [*];done)|(simp [yn];done),by repeat (first|exact yD.refl _|apply yD.step)⟩
end Go.Proofs.YtlmennkeggmdbaaGreatDoor
namespace Go.Proofs.YtlmennkeggmdbaaGreatDoor
open Go.RowKit Go.Proofs.YtlmennkeggmdbaaGreatDoorW.PrintWords Go.Proofs.YtlmennkeggmdbaaGreatDoorW.PrintLast Go.Proofs.YtlmennkeggmdbaaGreatDoorW.PrintMore
attribute [local go_sem] Yt Yp YE YB Yj Yk Yu Yv
def Ym.l0:Nat→ByteArray→Int→Int→Int→Int→Option (Int × Bool)
 | 0,_,_,_,_,_=>none
 | k+1,x0,x1,x6,x10,x11=>if x11<x10 then (if 0≤x11 then (if x11<(x0.size:Int) then ((yT.f k (bt x0 x11)).bind fun t139=>(if t139≥x1 then (some (0,false)) else (if x1=0 then (none) else (if x6 > (IntKind.u64.wrap (Int.tdiv (IntKind.u64.wrap (18446744073709551615 - t139)) x1)) then (some (0,false)) else (Ym.l0 k x0 x1 (IntKind.u64.wrap ((IntKind.u64.wrap (x6 * x1))+t139)) x10 (wrap64 (x11+1))))))) else (none)) else (none)) else (some (x6,(x0.toList != ([]:List UInt8))))
def Ym.f (k:Nat) (a0:ByteArray) (a1:Int):Option (Int × Bool):=Ym.l0 k a0 a1 0 (a0.size:Int) 0
theorem Ym.YY:∀ k,(∀ y0 y1 y2 y3 y4,LeO (Ym.l0 k y0 y1 y2 y3 y4) (Ym.l0 (k+1) y0 y1 y2 y3 y4))
 | 0=>fun _ _ _ _ _ r h=>by simp [Ym.l0] at h
 | k+1=>by
  have ih0:=Ym.YY k
  · intro y0 y1 y2 y3 y4
    unfold Ym.l0
    repeat' first
    | (with_reducible exact ih0 _ _ _ _ _)
    | (with_reducible exact yT.mono _ _)
    | (with_reducible exact LeO.refl _)
    | (with_reducible exact LeO.none _)
    | (with_reducible refine LeO.ite ?_ ?_)
    | (with_reducible refine LeO.bind ?_ (fun _=>?_))
    | exact ih0 _ _ _ _ _
    | exact yT.mono _ _
    | exact LeO.none _
    | refine LeO.ite ?_ ?_
    | refine LeO.bind ?_ (fun _=>?_)
theorem Ym.mono:∀ a0 a1 k,LeO (Ym.f k a0 a1) (Ym.f (k+1) a0 a1):=by
 intro a0 a1 k
 have ih0:=Ym.YY k
 unfold Ym.f
 repeat' first
  | (with_reducible exact ih0 _ _ _ _ _)
  | (with_reducible exact yT.mono _ _)
  | (with_reducible exact LeO.refl _)
  | (with_reducible exact LeO.none _)
  | (with_reducible refine LeO.ite ?_ ?_)
  | (with_reducible refine LeO.bind ?_ (fun _=>?_))
  | exact ih0 _ _ _ _ _
  | exact yT.mono _ _
  | exact LeO.none _
  | refine LeO.ite ?_ ?_
  | refine LeO.bind ?_ (fun _=>?_)
set_option maxHeartbeats 8000000 in
set_option maxRecDepth 100000 in
theorem Ym.calls (k:Nat) (a0:ByteArray) (a1:Int) (r1:Int) (r2:Bool) (w:World) (h:Ym.f k a0 a1=some (r1,r2)) :
 Calls Tryz.prog 206 #[.string a0,.int .u64 a1] w fun e w'=>e=.returned (.tuple #[.int .u64 r1,.bool r2])∧yD w w':=by
 have H:(Ym.l0 k a0 a1 0 (a0.size:Int) 0)=some (r1,r2):=h
 clear h
 have H':=yc.mk H
 clear H
 go_enter Tryz.func206,Tryz.ntmps206
 go_wp2
 go_loopg [6,11] k (fun kq v6 v11 w'=>∃ (x6_1:Int) (x11_1:Int),v6=.int .u64 x6_1∧v11=.int .i64 x11_1∧yc (Ym.l0 kq a0 a1 x6_1 (a0.size:Int) x11_1=some (r1,r2))∧yc (kq≤k)∧yD w w')
 case atStart=>exact ⟨(0),(0),(by first|rfl|(simp;done)|(simp [*];done)|(simp [yn];done)),(by first|rfl|(simp;done)|(simp [*];done)|(simp [yn];done)),H',⟨Nat.le_refl _⟩,by repeat (first|exact yD.refl _|apply yD.step)⟩
 case round=>
  clear H'
  try clear c2
  try clear p2
  obtain ⟨x6_1,x11_1,rfl,rfl,HA,HK1,⟨m1,rfl⟩⟩:=hrel
  cases gk with
  | zero=>exact absurd HA.out (by simp [Ym.l0])
  | succ k1=>
   have H:=HA.out
   clear HA
   simp only [Ym.l0] at H
   by_cases c3:x11_1<(a0.size:Int)
   · rw [if_pos c3] at H
     have c3b0:decide (x11_1<(a0.size:Int))=true:=decide_eq_true c3
     clear c3
     by_cases c4:0≤x11_1
     · rw [if_pos c4] at H
       have c4b0:decide (0≤x11_1)=true:=decide_eq_true c4
       clear c4
       by_cases c5:x11_1<(a0.size:Int)
       · rw [if_pos c5] at H
         have c5b0:decide (x11_1<(a0.size:Int))=true:=decide_eq_true c5
         clear c5
         replace H:=Option.bind_eq_some_iff.mp H
         obtain ⟨t139,A70,H⟩:=H
         replace H:(if t139≥a1 then (some (0,false)) else (if a1=0 then (none) else (if x6_1 > (IntKind.u64.wrap (Int.tdiv (IntKind.u64.wrap (18446744073709551615 - t139)) a1)) then (some (0,false)) else (Ym.l0 k1 a0 a1 (IntKind.u64.wrap ((IntKind.u64.wrap (x6_1 * a1))+t139)) (a0.size:Int) (wrap64 (x11_1+1))))))=some (r1,r2):=H
         have A7:=yc.mk A70
         clear A70
         by_cases c8:t139≥a1
         · rw [if_pos c8] at H
           have c8b0:decide (a1≤t139)=true:=decide_eq_true c8
           clear c8
           simp only [Option.some.injEq,Prod.mk.injEq] at H
           obtain ⟨rfl,rfl⟩:=H
           have p6:0≤(x11_1:Int):=of_decide_eq_true (by first|(with_reducible assumption)|assumption)
           have q6:x11_1<(a0.size:Int):=of_decide_eq_true (by first|(with_reducible assumption)|assumption)
           have hx6:=yaN a0 x11_1
           replace p6:=eq_true p6
           replace q6:=eq_true q6
           go_wp2_with (first|((with_reducible refine yW (f:=213) rfl ?_);refine YD (some 17) rfl rfl Tryz.func213 Zk rfl #[.int .u8 (bt a0 x11_1)] rfl (by (try simp only [List.map_toArray,List.map_cons,List.map_nil]);first|done|rfl|(simp only [List.length_drop,List.length_take];rfl)) ?_;(with_reducible refine (yT.calls k1 (bt a0 x11_1) t139 _ A7.out).mono ?_);rintro e w' ⟨rfl,⟨nd,rfl⟩⟩;refine ⟨_,rfl,?_⟩))
           go_ret2
           exact ⟨by first|rfl|(simp;done)|(simp [*];done)|(simp [yn];done),by repeat (first|exact yD.refl _|apply yD.step)⟩
         · rw [if_neg c8] at H
           have c8b0:decide (a1≤t139)=false:=decide_eq_false c8
           clear c8
           by_cases c9:a1=0
           · rw [if_pos c9] at H
             exact absurd H (by simp)
           · rw [if_neg c9] at H
             have c9b0:(a1 == 0)=false:=beq_eq_false_iff_ne.mpr c9
             have c9b1:(a1 != 0)=true:=bne_iff_ne.mpr c9
             by_cases c10:x6_1 > (IntKind.u64.wrap (Int.tdiv (IntKind.u64.wrap (18446744073709551615 - t139)) a1))
             · rw [if_pos c10] at H
               have c10b0:decide ((IntKind.u64.wrap (Int.tdiv (IntKind.u64.wrap (18446744073709551615 - t139)) a1))<x6_1)=true:=decide_eq_true c10
               clear c10
               simp only [Option.some.injEq,Prod.mk.injEq] at H
               obtain ⟨rfl,rfl⟩:=H
               have p6:0≤(x11_1:Int):=of_decide_eq_true (by first|(with_reducible assumption)|assumption)
               have q6:x11_1<(a0.size:Int):=of_decide_eq_true (by first|(with_reducible assumption)|assumption)
               have hx6:=yaN a0 x11_1
               replace p6:=eq_true p6
               replace q6:=eq_true q6
               go_wp2_with (first|((with_reducible refine yW (f:=213) rfl ?_);refine YD (some 17) rfl rfl Tryz.func213 Zk rfl #[.int .u8 (bt a0 x11_1)] rfl (by (try simp only [List.map_toArray,List.map_cons,List.map_nil]);first|done|rfl|(simp only [List.length_drop,List.length_take];rfl)) ?_;(with_reducible refine (yT.calls k1 (bt a0 x11_1) t139 _ A7.out).mono ?_);rintro e w' ⟨rfl,⟨nd,rfl⟩⟩;refine ⟨_,rfl,?_⟩))
               go_ret2
               exact ⟨by first|rfl|(simp;done)|(simp [*];done)|(simp [yn];done),by repeat (first|exact yD.refl _|apply yD.step)⟩
             · rw [if_neg c10] at H
               have c10b0:decide ((IntKind.u64.wrap (Int.tdiv (IntKind.u64.wrap (18446744073709551615 - t139)) a1))<x6_1)=false:=decide_eq_false c10
               clear c10
               have H':=yc.mk H
               clear H
               have p6:0≤(x11_1:Int):=of_decide_eq_true (by first|(with_reducible assumption)|assumption)
               have q6:x11_1<(a0.size:Int):=of_decide_eq_true (by first|(with_reducible assumption)|assumption)
               have hx6:=yaN a0 x11_1
               replace p6:=eq_true p6
               replace q6:=eq_true q6
               go_wp2_with (first|((with_reducible refine yW (f:=213) rfl ?_);refine YD (some 17) rfl rfl Tryz.func213 Zk rfl #[.int .u8 (bt a0 x11_1)] rfl (by (try simp only [List.map_toArray,List.map_cons,List.map_nil]);first|done|rfl|(simp only [List.length_drop,List.length_take];rfl)) ?_;(with_reducible refine (yT.calls k1 (bt a0 x11_1) t139 _ A7.out).mono ?_);rintro e w' ⟨rfl,⟨nd,rfl⟩⟩;refine ⟨_,rfl,?_⟩))
               go_roundg k1
               case measure=>have:=HK1.out;omega
               case rel=>exact ⟨(IntKind.u64.wrap ((IntKind.u64.wrap (x6_1 * a1))+t139)),(wrap64 (x11_1+1)),(by first|rfl|(simp;done)|(simp [*];done)|(simp [yn];done)),(by first|rfl|(simp;done)|(simp [*];done)|(simp [yn];done)),H',⟨by have:=HK1.out;omega⟩,by repeat (first|exact yD.refl _|apply yD.step)⟩
       · rw [if_neg c5] at H
         exact absurd H (by simp)
     · rw [if_neg c4] at H
       exact absurd H (by simp)
   · rw [if_neg c3] at H
     have c3b0:decide (x11_1<(a0.size:Int))=false:=decide_eq_false c3
     clear c3
     simp only [Option.some.injEq,Prod.mk.injEq] at H
     obtain ⟨rfl,rfl⟩:=H
     go_wp2
     go_ret2
     exact ⟨by first|rfl|(simp;done)|(simp [*];done)|(simp [yn];done),by repeat (first|exact yD.refl _|apply yD.step)⟩
end Go.Proofs.YtlmennkeggmdbaaGreatDoor
namespace Go.Proofs.YtlmennkeggmdbaaGreatDoor
open Go.RowKit Go.Proofs.YtlmennkeggmdbaaGreatDoorW.PrintWords Go.Proofs.YtlmennkeggmdbaaGreatDoorW.PrintLast Go.Proofs.YtlmennkeggmdbaaGreatDoorW.PrintMore
attribute [local go_sem] Yt Yp YE YB Yj Yk Yu Yv
def Jc.f (k:Nat) (a0:ByteArray):Option (Int × Bool):=(Ym.f k a0 10).bind fun bt140=>(some (bt140.1,bt140.2))
theorem Jc.mono:∀ a0 k,LeO (Jc.f k a0) (Jc.f (k+1) a0):=by
 intro a0 k
 unfold Jc.f
 repeat' first
  | (with_reducible exact Ym.mono _ _ _)
  | (with_reducible exact LeO.refl _)
  | (with_reducible exact LeO.none _)
  | (with_reducible refine LeO.ite ?_ ?_)
  | (with_reducible refine LeO.bind ?_ (fun _=>?_))
  | exact Ym.mono _ _ _
  | exact LeO.none _
  | refine LeO.ite ?_ ?_
  | refine LeO.bind ?_ (fun _=>?_)
set_option maxHeartbeats 8000000 in
set_option maxRecDepth 100000 in
theorem Jc.calls (k:Nat) (a0:ByteArray) (r1:Int) (r2:Bool) (w:World) (h:Jc.f k a0=some (r1,r2)) :
 Calls Tryz.prog 50 #[.string a0] w fun e w'=>e=.returned (.tuple #[.int .u64 r1,.bool r2])∧yD w w':=by
 have H:((Ym.f k a0 10).bind fun bt140=>(some (bt140.1,bt140.2)))=some (r1,r2):=h
 clear h
 replace H:=Option.bind_eq_some_iff.mp H
 obtain ⟨⟨t140,t141⟩,A20,H⟩:=H
 replace H:(some (t140,t141))=some (r1,r2):=H
 have A2:=yc.mk A20
 clear A20
 simp only [Option.some.injEq,Prod.mk.injEq] at H
 obtain ⟨rfl,rfl⟩:=H
 go_enter Tryz.func50,Tryz.ntmps50
 go_wp2_with (first|((with_reducible refine yW (f:=206) rfl ?_);refine YD (some 5) rfl rfl Tryz.func206 Zk rfl #[.string a0,.int .u64 10] rfl (by (try simp only [List.map_toArray,List.map_cons,List.map_nil]);first|done|rfl|(simp only [List.length_drop,List.length_take];rfl)) ?_;(with_reducible refine (Ym.calls k a0 10 t140 t141 _ A2.out).mono ?_);rintro e w' ⟨rfl,⟨nd,rfl⟩⟩;refine ⟨_,rfl,?_⟩))
 go_ret2
 exact ⟨by first|rfl|(simp;done)|(simp [*];done)|(simp [yn];done),by repeat (first|exact yD.refl _|apply yD.step)⟩
end Go.Proofs.YtlmennkeggmdbaaGreatDoor
namespace Go.Proofs.YtlmennkeggmdbaaGreatDoor
open Go.RowKit Go.Proofs.YtlmennkeggmdbaaGreatDoorW.PrintWords Go.Proofs.YtlmennkeggmdbaaGreatDoorW.PrintLast Go.Proofs.YtlmennkeggmdbaaGreatDoorW.PrintMore
attribute [local go_sem] Yt Yp YE YB Yj Yk Yu Yv
def Yz.f (k:Nat) (a0:ByteArray):Option (Int × Bool):=(JC.f a0 (⟨#[45]⟩:ByteArray)).bind fun t142=>(if t142=true then (if 1≤(a0.size:Int) then ((Jc.f k (a0.extract 1 a0.size)).bind fun bt143=>(if bt143.1 > 9223372036854775808 then (some (0,false)) else (some (wrap64 (-(wrap64 (bt143.1))),bt143.2)))) else (none)) else ((Jc.f k a0).bind fun bt145=>(if bt145.2=true then (some (wrap64 (bt145.1),decide (bt145.1<9223372036854775808))) else (some (wrap64 (bt145.1),false)))))
theorem Yz.mono:∀ a0 k,LeO (Yz.f k a0) (Yz.f (k+1) a0):=by
 intro a0 k
 unfold Yz.f
 repeat' first
  | (with_reducible exact Jc.mono _ _)
  | (with_reducible exact LeO.refl _)
  | (with_reducible exact LeO.none _)
  | (with_reducible refine LeO.ite ?_ ?_)
  | (with_reducible refine LeO.bind ?_ (fun _=>?_))
  | exact Jc.mono _ _
  | exact LeO.none _
  | refine LeO.ite ?_ ?_
  | refine LeO.bind ?_ (fun _=>?_)
set_option maxHeartbeats 8000000 in
set_option maxRecDepth 100000 in
theorem Yz.calls (k:Nat) (a0:ByteArray) (r1:Int) (r2:Bool) (w:World) (h:Yz.f k a0=some (r1,r2)) :
 Calls Tryz.prog 27 #[.string a0] w fun e w'=>e=.returned (.tuple #[.int .i64 r1,.bool r2])∧yD w w':=by
 have H:((JC.f a0 (⟨#[45]⟩:ByteArray)).bind fun t142=>(if t142=true then (if 1≤(a0.size:Int) then ((Jc.f k (a0.extract 1 a0.size)).bind fun bt143=>(if bt143.1 > 9223372036854775808 then (some (0,false)) else (some (wrap64 (-(wrap64 (bt143.1))),bt143.2)))) else (none)) else ((Jc.f k a0).bind fun bt145=>(if bt145.2=true then (some (wrap64 (bt145.1),decide (bt145.1<9223372036854775808))) else (some (wrap64 (bt145.1),false))))))=some (r1,r2):=h
 clear h
 replace H:=Option.bind_eq_some_iff.mp H
 obtain ⟨t142,A20,H⟩:=H
 replace H:(if t142=true then (if 1≤(a0.size:Int) then ((Jc.f k (a0.extract 1 a0.size)).bind fun bt143=>(if bt143.1 > 9223372036854775808 then (some (0,false)) else (some (wrap64 (-(wrap64 (bt143.1))),bt143.2)))) else (none)) else ((Jc.f k a0).bind fun bt145=>(if bt145.2=true then (some (wrap64 (bt145.1),decide (bt145.1<9223372036854775808))) else (some (wrap64 (bt145.1),false)))))=some (r1,r2):=H
 have A2:=yc.mk A20
 clear A20
 by_cases c3:t142=true
 · subst c3
   have H1:(if 1≤(a0.size:Int) then ((Jc.f k (a0.extract 1 a0.size)).bind fun bt143=>(if bt143.1 > 9223372036854775808 then (some (0,false)) else (some (wrap64 (-(wrap64 (bt143.1))),bt143.2)))) else (none))=some (r1,r2):=by rw [if_pos rfl] at H;exact H
   clear H
   have H:=H1
   clear H1
   by_cases c4:1≤(a0.size:Int)
   · rw [if_pos c4] at H
     have c4b0:=eq_true c4
     have c4b1:decide (1≤(a0.size:Int))=true:=decide_eq_true c4
     clear c4
     replace H:=Option.bind_eq_some_iff.mp H
     obtain ⟨⟨t143,t144⟩,A50,H⟩:=H
     replace H:(if t143 > 9223372036854775808 then (some (0,false)) else (some (wrap64 (-(wrap64 (t143))),t144)))=some (r1,r2):=H
     have A5:=yc.mk A50
     clear A50
     by_cases c6:t143 > 9223372036854775808
     · rw [if_pos c6] at H
       have c6b0:decide (9223372036854775808<t143)=true:=decide_eq_true c6
       clear c6
       simp only [Option.some.injEq,Prod.mk.injEq] at H
       obtain ⟨rfl,rfl⟩:=H
       go_enter Tryz.func27,Tryz.ntmps27
       go_wp2_with (first|((with_reducible refine yW (f:=49) rfl ?_);refine YD (some 9) rfl rfl Tryz.func49 Zk rfl #[.string a0,.string (⟨#[45]⟩:ByteArray)] rfl (by (try simp only [List.map_toArray,List.map_cons,List.map_nil]);first|done|rfl|(simp only [List.length_drop,List.length_take];rfl)) ?_;(with_reducible refine (JC.calls a0 (⟨#[45]⟩:ByteArray) true _ A2.out).mono ?_);rintro e w' ⟨rfl,⟨nd,rfl⟩⟩;refine ⟨_,rfl,?_⟩)|((with_reducible refine yW (f:=50) rfl ?_);refine YD (some 13) rfl rfl Tryz.func50 Zk rfl #[.string (a0.extract 1 a0.size)] rfl (by (try simp only [List.map_toArray,List.map_cons,List.map_nil]);first|done|rfl|(simp only [List.length_drop,List.length_take];rfl)) ?_;(with_reducible refine (Jc.calls k (a0.extract 1 a0.size) t143 t144 _ A5.out).mono ?_);rintro e w' ⟨rfl,⟨nd,rfl⟩⟩;refine ⟨_,rfl,?_⟩))
       go_ret2
       exact ⟨by first|rfl|(simp;done)|(simp [*];done)|(simp [yn];done),by repeat (first|exact yD.refl _|apply yD.step)⟩
     · rw [if_neg c6] at H
       have c6b0:decide (9223372036854775808<t143)=false:=decide_eq_false c6
       clear c6
       simp only [Option.some.injEq,Prod.mk.injEq] at H
       obtain ⟨rfl,rfl⟩:=H
       go_enter Tryz.func27,Tryz.ntmps27
       go_wp2_with (first|((with_reducible refine yW (f:=49) rfl ?_);refine YD (some 9) rfl rfl Tryz.func49 Zk rfl #[.string a0,.string (⟨#[45]⟩:ByteArray)] rfl (by (try simp only [List.map_toArray,List.map_cons,List.map_nil]);first|done|rfl|(simp only [List.length_drop,List.length_take];rfl)) ?_;(with_reducible refine (JC.calls a0 (⟨#[45]⟩:ByteArray) true _ A2.out).mono ?_);rintro e w' ⟨rfl,⟨nd,rfl⟩⟩;refine ⟨_,rfl,?_⟩)|((with_reducible refine yW (f:=50) rfl ?_);refine YD (some 13) rfl rfl Tryz.func50 Zk rfl #[.string (a0.extract 1 a0.size)] rfl (by (try simp only [List.map_toArray,List.map_cons,List.map_nil]);first|done|rfl|(simp only [List.length_drop,List.length_take];rfl)) ?_;(with_reducible refine (Jc.calls k (a0.extract 1 a0.size) t143 t144 _ A5.out).mono ?_);rintro e w' ⟨rfl,⟨nd,rfl⟩⟩;refine ⟨_,rfl,?_⟩))
       go_ret2
       exact ⟨by first|rfl|(simp;done)|(simp [*];done)|(simp [yn];done),by repeat (first|exact yD.refl _|apply yD.step)⟩
   · rw [if_neg c4] at H
     exact absurd H (by simp)
 · replace c3:=Bool.eq_false_iff.mpr c3
   subst c3
   have H1:((Jc.f k a0).bind fun bt145=>(if bt145.2=true then (some (wrap64 (bt145.1),decide (bt145.1<9223372036854775808))) else (some (wrap64 (bt145.1),false))))=some (r1,r2):=by rw [if_neg (show ¬ (false=true) by decide)] at H;exact H
   clear H
   have H:=H1
   clear H1
   replace H:=Option.bind_eq_some_iff.mp H
   obtain ⟨⟨t145,t146⟩,A70,H⟩:=H
   replace H:(if t146=true then (some (wrap64 (t145),decide (t145<9223372036854775808))) else (some (wrap64 (t145),false)))=some (r1,r2):=H
   have A7:=yc.mk A70
   clear A70
   by_cases c8:t146=true
   · subst c8
     have H1:(some (wrap64 (t145),decide (t145<9223372036854775808)))=some (r1,r2):=by rw [if_pos rfl] at H;exact H
     clear H
     have H:=H1
     clear H1
     simp only [Option.some.injEq,Prod.mk.injEq] at H
     obtain ⟨rfl,rfl⟩:=H
     go_enter Tryz.func27,Tryz.ntmps27
     go_wp2_with (first|((with_reducible refine yW (f:=49) rfl ?_);refine YD (some 9) rfl rfl Tryz.func49 Zk rfl #[.string a0,.string (⟨#[45]⟩:ByteArray)] rfl (by (try simp only [List.map_toArray,List.map_cons,List.map_nil]);first|done|rfl|(simp only [List.length_drop,List.length_take];rfl)) ?_;(with_reducible refine (JC.calls a0 (⟨#[45]⟩:ByteArray) false _ A2.out).mono ?_);rintro e w' ⟨rfl,⟨nd,rfl⟩⟩;refine ⟨_,rfl,?_⟩)|((with_reducible refine yW (f:=50) rfl ?_);refine YD (some 24) rfl rfl Tryz.func50 Zk rfl #[.string a0] rfl (by (try simp only [List.map_toArray,List.map_cons,List.map_nil]);first|done|rfl|(simp only [List.length_drop,List.length_take];rfl)) ?_;(with_reducible refine (Jc.calls k a0 t145 true _ A7.out).mono ?_);rintro e w' ⟨rfl,⟨nd,rfl⟩⟩;refine ⟨_,rfl,?_⟩))
     go_ret2
     exact ⟨by first|rfl|(simp;done)|(simp [*];done)|(simp [yn];done),by repeat (first|exact yD.refl _|apply yD.step)⟩
   · replace c8:=Bool.eq_false_iff.mpr c8
     subst c8
     have H1:(some (wrap64 (t145),false))=some (r1,r2):=by rw [if_neg (show ¬ (false=true) by decide)] at H;exact H
     clear H
     have H:=H1
     clear H1
     simp only [Option.some.injEq,Prod.mk.injEq] at H
     obtain ⟨rfl,rfl⟩:=H
     go_enter Tryz.func27,Tryz.ntmps27
     go_wp2_with (first|((with_reducible refine yW (f:=49) rfl ?_);refine YD (some 9) rfl rfl Tryz.func49 Zk rfl #[.string a0,.string (⟨#[45]⟩:ByteArray)] rfl (by (try simp only [List.map_toArray,List.map_cons,List.map_nil]);first|done|rfl|(simp only [List.length_drop,List.length_take];rfl)) ?_;(with_reducible refine (JC.calls a0 (⟨#[45]⟩:ByteArray) false _ A2.out).mono ?_);rintro e w' ⟨rfl,⟨nd,rfl⟩⟩;refine ⟨_,rfl,?_⟩)|((with_reducible refine yW (f:=50) rfl ?_);refine YD (some 24) rfl rfl Tryz.func50 Zk rfl #[.string a0] rfl (by (try simp only [List.map_toArray,List.map_cons,List.map_nil]);first|done|rfl|(simp only [List.length_drop,List.length_take];rfl)) ?_;(with_reducible refine (Jc.calls k a0 t145 false _ A7.out).mono ?_);rintro e w' ⟨rfl,⟨nd,rfl⟩⟩;refine ⟨_,rfl,?_⟩))
     go_ret2
     exact ⟨by first|rfl|(simp;done)|(simp [*];done)|(simp [yn];done),by repeat (first|exact yD.refl _|apply yD.step)⟩
end Go.Proofs.YtlmennkeggmdbaaGreatDoor
namespace Go.Proofs.YtlmennkeggmdbaaGreatDoor
open Go.RowKit Go.Proofs.YtlmennkeggmdbaaGreatDoorW.PrintWords Go.Proofs.YtlmennkeggmdbaaGreatDoorW.PrintLast Go.Proofs.YtlmennkeggmdbaaGreatDoorW.PrintMore
def Ev {α:Type} (g:Nat→Option α) (r:α):Prop:=∃ K,∀ k,K≤k→g k=some r
section
variable {α β:Type} {g h:Nat→Option α} {r:α}
theorem Ev.ex (h:Ev g r):∃ k,g k=some r:=h.imp fun K hk=>hk K (Nat.le_refl _)
theorem Ev.of (r:α):Ev (fun _=>some r) r:=⟨0,fun _ _=>rfl⟩
theorem Ev.succ (e:∀ k,g (k+1)=h k) (hh:Ev h r):Ev g r:=by
 obtain ⟨K,hK⟩:=hh
 refine ⟨K+1,fun k hk=>?_⟩
 obtain ⟨k',rfl⟩:∃ k',k=k'+1:=⟨k - 1,by omega⟩
 rw [e];exact hK k' Zo
theorem Ev.congr (e:∀ k,g k=h k) (hh:Ev h r):Ev g r:=by
 obtain ⟨K,hK⟩:=hh
 exact ⟨K,fun k hk=>by rw [e];exact hK k hk⟩
theorem Ev.bind {f:Nat→α→Option β} {x:α} {s:β} (h1:Ev g x) (h2:Ev (fun k=>f k x) s):Ev (fun k=>(g k).bind (f k)) s:=by
 obtain ⟨K,hK⟩:=h1
 obtain ⟨M,hM⟩:=h2
 refine ⟨max K M,fun k hk=>?_⟩
 have h1:=hK k Zo
 have h2:=hM k Zo
 simp only [h1,Option.bind_some]
 exact h2
end
theorem Ev.step {α β:Type} {g:Nat→Option α} {x:α} {G:Nat→Option β} {F:Nat→α→Option β} {r:β} (h1:Ev g x) (hG:∀ k,G (k+1)=(g k).bind (F k)) (h2:Ev (fun k=>F k x) r):Ev G r:=.succ hG (Ev.bind h1 h2)
theorem Ev.same {α β:Type} {g:Nat→Option α} {x:α} {G:Nat→Option β} {F:Nat→α→Option β} {r:β} (h1:Ev g x) (hG:∀ k,G k=(g k).bind (F k)) (h2:Ev (fun k=>F k x) r):Ev G r:=.congr hG (Ev.bind h1 h2)
theorem Yi {j:Nat} (h:j<9223372036854775807):wrap64 ((j:Int)+1)=((j+1:Nat):Int):=by
 unfold wrap64;omega
theorem lines_ev (s:ByteArray) (hN:s.size≤1000000):∀ (m j:Nat),j+m=s.size→∀ (x3:List ByteArray) (a:Nat),a≤j→x3.length≤j→(∀ l ∈ x3,l.size≤s.size) →
 ∃ r,Ev (fun k=>Ye.l0 k s x3 (a:Int) (s.size:Int) (j:Int)) r∧r.length≤s.size+1∧∀ l ∈ r,l.size≤s.size:=by
 intro m
 induction m with
 | zero=>
  intro j hj x3 a ha hl hs
  have hj':j=s.size:=by omega
  subst hj'
  by_cases haj:a<s.size
  · refine ⟨x3++[s.extract a s.size],.succ (h:=fun _=>some (x3++[s.extract a s.size])) (fun k=>?_) (.of _),by simp;omega,fun l hl=>?_⟩
    · simp only [Ye.l0]
      rw [if_neg Zo,if_pos Zo,if_pos Zo,if_pos Zo,if_pos Zo,Int.toNat_natCast]
    · rcases List.mem_append.1 hl with h|h
      · exact hs l h
      · obtain rfl:=List.mem_singleton.1 h
        simp [ByteArray.size_extract]
  · refine ⟨x3,.succ (h:=fun _=>some x3) (fun k=>?_) (.of _),by omega,hs⟩
    simp only [Ye.l0]
    rw [if_neg Zo,if_neg Zo]
 | succ m ih=>
  intro j hj x3 a ha hl hs
  by_cases hb:bt s (j:Int)=10
  · obtain ⟨r,hr,h1,h2⟩:=ih (j+1) Zo (x3++[s.extract a j]) (j+1) Zo (by simp;omega) (fun l hl=>by
     rcases List.mem_append.1 hl with h|h
     · exact hs l h
     · obtain rfl:=List.mem_singleton.1 h
       simp [ByteArray.size_extract];omega)
    refine ⟨r,.succ (fun k=>?_) hr,h1,h2⟩
    simp only [Ye.l0]
    rw [if_pos Zo,if_pos Zo,if_pos Zo,if_pos hb,if_pos Zo,if_pos Zo,if_pos Zo,if_pos Zo,Yi Zo,Int.toNat_natCast,Int.toNat_natCast]
  · obtain ⟨r,hr,h1,h2⟩:=ih (j+1) Zo x3 a Zo Zo hs
    refine ⟨r,.succ (fun k=>?_) hr,h1,h2⟩
    simp only [Ye.l0]
    rw [if_pos Zo,if_pos Zo,if_pos Zo,if_neg hb,Yi Zo]
theorem lines_f (s:ByteArray) (hN:s.size≤1000000):∃ r,Ev (fun k=>Ye.f k s) r∧r.length≤s.size+1∧∀ l ∈ r,l.size≤s.size:=by
 obtain ⟨r,h,h1,h2⟩:=lines_ev s hN s.size 0 Zo [] 0 Zo (by simp) (by simp)
 exact ⟨r,.congr (fun k=>rfl) h,h1,h2⟩
theorem plain_ev (s:ByteArray) (hN:s.size≤1000000):∀ (m j:Nat),j+m=s.size→∃ b,Ev (fun k=>yQ.l0 k s (s.size:Int) (j:Int)) b:=by
 intro m
 induction m with
 | zero=>
  intro j hj
  refine ⟨true,.succ (h:=fun _=>some true) (fun k=>?_) (.of _)⟩
  simp only [yQ.l0]
  rw [if_neg Zo]
 | succ m ih=>
  intro j hj
  obtain ⟨b,hb⟩:=ih (j+1) Zo
  have hj1:∀ x,∃ b,Ev (fun k=>yQ.j1 k s (s.size:Int) (j:Int) x) b:=fun x=>by
   cases x with
   | true=>exact ⟨false,.succ (h:=fun _=>some false) (fun k=>by simp only [yQ.j1];rfl) (.of _)⟩
   | false=>exact ⟨b,.succ (fun k=>by simp only [yQ.j1];rw [if_neg Zd,Yi Zo]) hb⟩
  have key:∃ x,∀ k,yQ.l0 (k+1) s (s.size:Int) (j:Int)=yQ.j1 k s (s.size:Int) (j:Int) x:=by
   by_cases h1:bt s (j:Int) > 126
   · exact ⟨true,fun k=>by simp only [yQ.l0];rw [if_pos Zo,if_pos Zo,if_pos Zo,if_pos h1]⟩
   · by_cases h2:bt s (j:Int)<32
     · by_cases h3:bt s (j:Int)=10
       · exact ⟨false,fun k=>by simp only [yQ.l0];rw [if_pos Zo,if_pos Zo,if_pos Zo,if_neg h1,if_pos h2,if_pos h3]⟩
       · exact ⟨_,fun k=>by simp only [yQ.l0];rw [if_pos Zo,if_pos Zo,if_pos Zo,if_neg h1,if_pos h2,if_neg h3]⟩
     · exact ⟨false,fun k=>by simp only [yQ.l0];rw [if_pos Zo,if_pos Zo,if_pos Zo,if_neg h1,if_neg h2]⟩
  obtain ⟨x,hx⟩:=key
  obtain ⟨b',hb'⟩:=hj1 x
  exact ⟨b',.succ hx hb'⟩
theorem plain_f (s:ByteArray) (hN:s.size≤1000000):∃ b,Ev (fun k=>yQ.f k s) b:=by
 obtain ⟨b,h⟩:=plain_ev s hN s.size 0 Zo
 exact ⟨b,.congr (fun k=>rfl) h⟩
theorem fields_ev (s:ByteArray) (hN:s.size≤1000000):∀ (m j:Nat),j+m=s.size→∀ (x3:List ByteArray) (a:Int),-1≤a→a≤j→x3.length≤j→(∀ l ∈ x3,l.size≤s.size) →
 ∃ r,Ev (fun k=>yz.l0 k s x3 a (s.size:Int) (j:Int)) r∧r.length≤s.size+1∧∀ l ∈ r,l.size≤s.size:=by
 intro m
 induction m with
 | zero=>
  intro j hj x3 a ha haj hl hs
  have hj':j=s.size:=by omega
  subst hj'
  by_cases h0:0≤a
  · refine ⟨x3++[s.extract a.toNat s.size],.succ (h:=fun _=>some (x3++[s.extract a.toNat s.size])) (fun k=>?_) (.of _),by simp;omega,fun l hl=>?_⟩
    · simp only [yz.l0]
      rw [if_neg Zo,if_pos Zo,if_pos Zo,if_pos Zo,if_pos Zo]
    · rcases List.mem_append.1 hl with h|h
      · exact hs l h
      · obtain rfl:=List.mem_singleton.1 h
        simp [ByteArray.size_extract]
  · refine ⟨x3,.succ (h:=fun _=>some x3) (fun k=>?_) (.of _),by omega,hs⟩
    simp only [yz.l0]
    rw [if_neg Zo,if_neg Zo]
 | succ m ih=>
  intro j hj x3 a ha haj hl hs
  have hj2:∀ x6 x22:Bool,(x22=true→0≤a)→∃ r,Ev (fun k=>yz.j2 k s x3 a (j:Int) x6 (s.size:Int) (j:Int) x22) r∧r.length≤s.size+1∧∀ l ∈ r,l.size≤s.size:=fun x6 x22 h22=>by
   cases x22 with
   | true=>
    have h0:=h22 rfl
    obtain ⟨r,hr,h1,h2⟩:=ih (j+1) Zo (x3++[s.extract a.toNat j]) (-1) Zo Zo (by simp;omega) (fun l hl=>by
     rcases List.mem_append.1 hl with h|h
     · exact hs l h
     · obtain rfl:=List.mem_singleton.1 h
       simp [ByteArray.size_extract];omega)
    refine ⟨r,.succ (fun k=>?_) hr,h1,h2⟩
    simp only [yz.j2]
    rw [if_pos trivial,if_pos Zo,if_pos Zo,if_pos Zo,if_pos Zo,Yi Zo,Int.toNat_natCast]
   | false=>
    cases x6 with
    | true=>
     obtain ⟨r,hr,h1,h2⟩:=ih (j+1) Zo x3 a Zo Zo Zo hs
     refine ⟨r,.succ (fun k=>?_) hr,h1,h2⟩
     simp only [yz.j2]
     rw [if_neg Zd,if_pos trivial,Yi Zo]
    | false=>
     by_cases h0:a<0
     · obtain ⟨r,hr,h1,h2⟩:=ih (j+1) Zo x3 (j:Int) Zo Zo Zo hs
       refine ⟨r,.succ (fun k=>?_) hr,h1,h2⟩
       simp only [yz.j2]
       rw [if_neg Zd,if_neg Zd,if_pos h0,Yi Zo]
     · obtain ⟨r,hr,h1,h2⟩:=ih (j+1) Zo x3 a Zo Zo Zo hs
       refine ⟨r,.succ (fun k=>?_) hr,h1,h2⟩
       simp only [yz.j2]
       rw [if_neg Zd,if_neg Zd,if_neg h0,Yi Zo]
  have hj1:∀ x6:Bool,∃ r,Ev (fun k=>yz.j1 k s x3 a (j:Int) x6 (s.size:Int) (j:Int)) r∧r.length≤s.size+1∧∀ l ∈ r,l.size≤s.size:=fun x6=>by
   cases x6 with
   | true=>
    obtain ⟨r,hr,h⟩:=hj2 true (decide (a≥0)) (fun h=>of_decide_eq_true h)
    exact ⟨r,.succ (fun k=>by simp only [yz.j1];rw [if_pos trivial]) hr,h⟩
   | false=>
    obtain ⟨r,hr,h⟩:=hj2 false false (fun h=>by cases h)
    exact ⟨r,.succ (fun k=>by simp only [yz.j1];rw [if_neg Zd]) hr,h⟩
  by_cases hb:bt s (j:Int)=32
  · obtain ⟨r,hr,h⟩:=hj1 true
    refine ⟨r,.succ (fun k=>?_) hr,h⟩
    simp only [yz.l0]
    rw [if_pos Zo,if_pos Zo,if_pos Zo,if_pos hb]
  · obtain ⟨r,hr,h⟩:=hj1 (bt s (j:Int) == 9)
    refine ⟨r,.succ (fun k=>?_) hr,h⟩
    simp only [yz.l0]
    rw [if_pos Zo,if_pos Zo,if_pos Zo,if_neg hb]
theorem fields_f (s:ByteArray) (hN:s.size≤1000000):∃ r,Ev (fun k=>yz.f k s) r∧r.length≤s.size+1∧∀ l ∈ r,l.size≤s.size:=by
 obtain ⟨r,h,h1⟩:=fields_ev s hN s.size 0 Zo [] (-1) Zo Zo (by simp) (by simp)
 exact ⟨r,.congr (fun k=>rfl) h,h1⟩
end Go.Proofs.YtlmennkeggmdbaaGreatDoor
