/- Part 27 of 44 of the proof of the tied card of FnXfsRead. -/
import Derived.Test.YtdcaggoicdfehaaGreatDoorVz
import Derived.Test.YtdcaggoicdfehaaGreatDoorV4
set_option linter.unusedVariables false
set_option linter.unusedSimpArgs false
namespace Go.Proofs.YtdcaggoicdfehaaGreatDoor
open Go.RowKit Go.Proofs.YtdcaggoicdfehaaGreatDoorW.PrintWords Go.Proofs.YtdcaggoicdfehaaGreatDoorW.PrintLast Go.Proofs.YtdcaggoicdfehaaGreatDoorW.PrintMore
attribute [local go_sem] YX YV Ja Jb YK YL YW YU
mutual
def yL.l0:Nat→List (S56)→Int→Int→Option (Bool)
 | 0,_,_,_=>none
 | k+1,x0,x6,x7=>if x7<x6 then (yL.l1 k x0 x7 x6 x7 x7 0) else (some true)
def yL.l1:Nat→List (S56)→Int→Int→Int→Int→Int→Option (Bool)
 | 0,_,_,_,_,_,_=>none
 | k+1,x0,x3,x6,x7,x10,x11=>if x11<x10 then (if 0≤x3 then (if x3<(x0.length:Int) then (if 0≤x11 then (if x11<(x0.length:Int) then (if ((yo x0 x3).f0).toList=((yo x0 x11).f0).toList then (some false) else (yL.l1 k x0 x3 x6 x7 x10 (wrap64 (x11+1)))) else (none)) else (none)) else (none)) else (none)) else (yL.l0 k x0 x6 (wrap64 (x7+1)))
end
def yL.f (k:Nat) (l0:List (S56)):Option (Bool):=yL.l0 k l0 (l0.length:Int) 0
theorem yL.YB:∀ k,(∀ y0 y1 y2,LeO (yL.l0 k y0 y1 y2) (yL.l0 (k+1) y0 y1 y2))∧(∀ y0 y1 y2 y3 y4 y5,LeO (yL.l1 k y0 y1 y2 y3 y4 y5) (yL.l1 (k+1) y0 y1 y2 y3 y4 y5))
 | 0=>⟨fun _ _ _ r h=>by simp [yL.l0] at h,fun _ _ _ _ _ _ r h=>by simp [yL.l1] at h⟩
 | k+1=>by
  obtain ⟨ih0,ih1⟩:=yL.YB k
  refine ⟨?_,?_⟩
  · intro y0 y1 y2
    unfold yL.l0
    repeat' first
    | (with_reducible exact ih0 _ _ _)
    | (with_reducible exact ih1 _ _ _ _ _ _)
    | (with_reducible exact LeO.refl _)
    | (with_reducible exact LeO.none _)
    | (with_reducible refine LeO.ite ?_ ?_)
    | (with_reducible refine LeO.bind ?_ (fun _=>?_))
    | exact ih0 _ _ _
    | exact ih1 _ _ _ _ _ _
    | exact LeO.none _
    | refine LeO.ite ?_ ?_
    | refine LeO.bind ?_ (fun _=>?_)
  · intro y0 y1 y2 y3 y4 y5
    unfold yL.l1
    repeat' first
    | (with_reducible exact ih0 _ _ _)
    | (with_reducible exact ih1 _ _ _ _ _ _)
    | (with_reducible exact LeO.refl _)
    | (with_reducible exact LeO.none _)
    | (with_reducible refine LeO.ite ?_ ?_)
    | (with_reducible refine LeO.bind ?_ (fun _=>?_))
    | exact ih0 _ _ _
    | exact ih1 _ _ _ _ _ _
    | exact LeO.none _
    | refine LeO.ite ?_ ?_
    | refine LeO.bind ?_ (fun _=>?_)
theorem yL.mono:∀ a0 k,LeO (yL.f k a0) (yL.f (k+1) a0):=by
 intro a0 k
 obtain ⟨ih0,ih1⟩:=yL.YB k
 unfold yL.f
 repeat' first
  | (with_reducible exact ih0 _ _ _)
  | (with_reducible exact ih1 _ _ _ _ _ _)
  | (with_reducible exact LeO.refl _)
  | (with_reducible exact LeO.none _)
  | (with_reducible refine LeO.ite ?_ ?_)
  | (with_reducible refine LeO.bind ?_ (fun _=>?_))
  | exact ih0 _ _ _
  | exact ih1 _ _ _ _ _ _
  | exact LeO.none _
  | refine LeO.ite ?_ ?_
  | refine LeO.bind ?_ (fun _=>?_)
set_option maxHeartbeats 8000000 in
set_option maxRecDepth 100000 in
theorem yL.calls (k:Nat) (A0:Option Addr) (c0:Nat) (l0:List (S56)) (r:Bool) (w:World) (hr0:Kd.C k56 w A0 l0.length l0) (hc0:l0.length≤c0) (h:yL.f k l0=some r) :
 Calls Tryz.prog 39 #[.slice A0 l0.length c0] w fun e w'=>e=.returned (.bool r)∧yV w w':=by
 have HR0:=yc.mk hr0
 have HC0:=yc.mk hc0
 clear hr0 hc0
 have H:(yL.l0 k l0 (l0.length:Int) 0)=some r:=h
 clear h
 have H':=yc.mk H
 clear H
 go_enter Tryz.func39,Tryz.ntmps39
 go_wp2
 repeat (go_quiet (fail);try go_wp2)
 go_loopg [7] k (fun kq v7 w'=>∃ (x7_1:Int),v7=.int .i64 x7_1∧yc (yL.l0 kq l0 (l0.length:Int) x7_1=some r)∧yc (kq≤k)∧yV w w')
 case atStart=>exact ⟨(0),(by first|rfl|(simp;done)|(simp [*];done)|(simp [yx];done)),H',⟨Nat.le_refl _⟩,by repeat (first|exact yV.refl _|apply yV.step)⟩
 case round=>
  clear H'
  obtain ⟨x7_1,rfl,HA,HK1,⟨m1,rfl⟩⟩:=hrel
  cases gk with
  | zero=>exact absurd HA.out (by simp [yL.l0])
  | succ k1=>
   have H:=HA.out
   clear HA
   simp only [yL.l0] at H
   by_cases c2:x7_1<(l0.length:Int)
   · rw [if_pos c2] at H
     have c2b0:decide (x7_1<(l0.length:Int))=true:=decide_eq_true c2
     clear c2
     have H':=yc.mk H
     clear H
     go_wp2
     repeat (go_quiet (fail);try go_wp2)
     go_loopg [11] k1 (fun kq v11 w'=>∃ (x11_2:Int),v11=.int .i64 x11_2∧yc (yL.l1 kq l0 x7_1 (l0.length:Int) x7_1 x7_1 x11_2=some r)∧yc (kq≤k1)∧yV w w')
     case atStart=>exact ⟨(0),(by first|rfl|(simp;done)|(simp [*];done)|(simp [yx];done)),H',⟨Nat.le_refl _⟩,by repeat (first|exact yV.refl _|apply yV.step)⟩
     case round=>
      clear H'
      try clear c2
      try clear c2b0
      try clear p2
      obtain ⟨x11_2,rfl,HA,HK2,⟨m2,rfl⟩⟩:=hrel
      cases gk with
      | zero=>exact absurd HA.out (by simp [yL.l1])
      | succ k2=>
       have H:=HA.out
       clear HA
       simp only [yL.l1] at H
       by_cases c3:x11_2<x7_1
       · rw [if_pos c3] at H
         have c3b0:decide (x11_2<x7_1)=true:=decide_eq_true c3
         clear c3
         by_cases c4:0≤x7_1
         · rw [if_pos c4] at H
           have c4b0:decide (0≤x7_1)=true:=decide_eq_true c4
           clear c4
           by_cases c5:x7_1<(l0.length:Int)
           · rw [if_pos c5] at H
             have c5b0:decide (x7_1<(l0.length:Int))=true:=decide_eq_true c5
             clear c5
             by_cases c6:0≤x11_2
             · rw [if_pos c6] at H
               have c6b0:decide (0≤x11_2)=true:=decide_eq_true c6
               clear c6
               by_cases c7:x11_2<(l0.length:Int)
               · rw [if_pos c7] at H
                 have c7b0:decide (x11_2<(l0.length:Int))=true:=decide_eq_true c7
                 clear c7
                 by_cases c8:((yo l0 x7_1).f0).toList=((yo l0 x11_2).f0).toList
                 · rw [if_pos c8] at H
                   have c8b0:(((yo l0 x7_1).f0).toList == ((yo l0 x11_2).f0).toList)=true:=beq_iff_eq.mpr c8
                   have c8b1:(((yo l0 x7_1).f0).toList != ((yo l0 x11_2).f0).toList)=false:=bne_eq_false_iff_eq.mpr c8
                   clear c8
                   obtain rfl:=Option.some.inj H
                   have p307:0≤(x7_1:Int):=of_decide_eq_true (by first|(with_reducible assumption)|assumption)
                   have q307:x7_1<(l0.length:Int):=of_decide_eq_true (by first|(with_reducible assumption)|assumption)
                   obtain ⟨ad307,A307_1,c307_1,A307_2,c307_2,e307,hx307_0,hx307_1,hx307_2,hl307_1,hi307_1,hl307_2,hi307_2⟩:=yaZ HR0.out x7_1 p307 q307
                   cases e307
                   have HR307_1:=yc.mk hi307_1
                   have HC307_1:=yc.mk hl307_1
                   clear hi307_1 hl307_1
                   have HR307_2:=yc.mk hi307_2
                   have HC307_2:=yc.mk hl307_2
                   clear hi307_2 hl307_2
                   replace p307:=eq_true p307
                   replace q307:=eq_true q307
                   have p308:0≤(x11_2:Int):=of_decide_eq_true (by first|(with_reducible assumption)|assumption)
                   have q308:x11_2<(l0.length:Int):=of_decide_eq_true (by first|(with_reducible assumption)|assumption)
                   obtain ⟨ad308,A308_1,c308_1,A308_2,c308_2,e308,hx308_0,hx308_1,hx308_2,hl308_1,hi308_1,hl308_2,hi308_2⟩:=yaZ HR0.out x11_2 p308 q308
                   obtain rfl:ad307=ad308:=(by injection e308)
                   have HR308_1:=yc.mk hi308_1
                   have HC308_1:=yc.mk hl308_1
                   clear hi308_1 hl308_1
                   have HR308_2:=yc.mk hi308_2
                   have HC308_2:=yc.mk hl308_2
                   clear hi308_2 hl308_2
                   replace p308:=eq_true p308
                   replace q308:=eq_true q308
                   go_wp2
                   repeat (go_quiet (fail);try go_wp2)
                   go_ret
                   exact ⟨by first|rfl|(simp;done)|(simp [*];done)|(simp [yx];done),by repeat (first|exact yV.refl _|apply yV.step)⟩
                 · rw [if_neg c8] at H
                   have c8b0:(((yo l0 x7_1).f0).toList == ((yo l0 x11_2).f0).toList)=false:=beq_eq_false_iff_ne.mpr c8
                   have c8b1:(((yo l0 x7_1).f0).toList != ((yo l0 x11_2).f0).toList)=true:=bne_iff_ne.mpr c8
                   have H':=yc.mk H
                   clear H
                   have p307:0≤(x7_1:Int):=of_decide_eq_true (by first|(with_reducible assumption)|assumption)
                   have q307:x7_1<(l0.length:Int):=of_decide_eq_true (by first|(with_reducible assumption)|assumption)
                   obtain ⟨ad307,A307_1,c307_1,A307_2,c307_2,e307,hx307_0,hx307_1,hx307_2,hl307_1,hi307_1,hl307_2,hi307_2⟩:=yaZ HR0.out x7_1 p307 q307
                   cases e307
                   have HR307_1:=yc.mk hi307_1
                   have HC307_1:=yc.mk hl307_1
                   clear hi307_1 hl307_1
                   have HR307_2:=yc.mk hi307_2
                   have HC307_2:=yc.mk hl307_2
                   clear hi307_2 hl307_2
                   replace p307:=eq_true p307
                   replace q307:=eq_true q307
                   have p308:0≤(x11_2:Int):=of_decide_eq_true (by first|(with_reducible assumption)|assumption)
                   have q308:x11_2<(l0.length:Int):=of_decide_eq_true (by first|(with_reducible assumption)|assumption)
                   obtain ⟨ad308,A308_1,c308_1,A308_2,c308_2,e308,hx308_0,hx308_1,hx308_2,hl308_1,hi308_1,hl308_2,hi308_2⟩:=yaZ HR0.out x11_2 p308 q308
                   obtain rfl:ad307=ad308:=(by injection e308)
                   have HR308_1:=yc.mk hi308_1
                   have HC308_1:=yc.mk hl308_1
                   clear hi308_1 hl308_1
                   have HR308_2:=yc.mk hi308_2
                   have HC308_2:=yc.mk hl308_2
                   clear hi308_2 hl308_2
                   replace p308:=eq_true p308
                   replace q308:=eq_true q308
                   go_wp2
                   repeat (go_quiet (fail);try go_wp2)
                   go_roundg k2
                   case measure=>have:=HK1.out;have:=HK2.out;omega
                   case rel=>exact ⟨(wrap64 (x11_2+1)),(by first|rfl|(simp;done)|(simp [*];done)|(simp [yx];done)),H',⟨by have:=HK1.out;have:=HK2.out;omega⟩,by repeat (first|exact yV.refl _|apply yV.step)⟩
               · rw [if_neg c7] at H
                 exact absurd H (by simp)
             · rw [if_neg c6] at H
               exact absurd H (by simp)
           · rw [if_neg c5] at H
             exact absurd H (by simp)
         · rw [if_neg c4] at H
           exact absurd H (by simp)
       · rw [if_neg c3] at H
         have c3b0:decide (x11_2<x7_1)=false:=decide_eq_false c3
         clear c3
         have H':=yc.mk H
         clear H
         go_wp2
         repeat (go_quiet (fail);try go_wp2)
         go_roundg k2
         case measure=>have:=HK1.out;have:=HK2.out;omega
         case rel=>exact ⟨(wrap64 (x7_1+1)),(by first|rfl|(simp;done)|(simp [*];done)|(simp [yx];done)),H',⟨by have:=HK1.out;have:=HK2.out;omega⟩,by repeat (first|exact yV.refl _|apply yV.step)⟩
   · rw [if_neg c2] at H
     have c2b0:decide (x7_1<(l0.length:Int))=false:=decide_eq_false c2
     clear c2
     obtain rfl:=Option.some.inj H
     go_wp2
     repeat (go_quiet (fail);try go_wp2)
     go_ret
     exact ⟨by first|rfl|(simp;done)|(simp [*];done)|(simp [yx];done),by repeat (first|exact yV.refl _|apply yV.step)⟩
end Go.Proofs.YtdcaggoicdfehaaGreatDoor
