/- Part 27 of 34 of the proof of the tied card of FnNetstatRead. -/
import Derived.Test.YtlmennkeggmdbaaGreatDoorVz
import Derived.Test.YtlmennkeggmdbaaGreatDoorV3
import Derived.Test.YtlmennkeggmdbaaGreatDoorV26
set_option linter.unusedVariables false
set_option linter.unusedSimpArgs false
namespace Go.Proofs.YtlmennkeggmdbaaGreatDoor
open Go.RowKit Go.Proofs.YtlmennkeggmdbaaGreatDoorW.PrintWords Go.Proofs.YtlmennkeggmdbaaGreatDoorW.PrintLast Go.Proofs.YtlmennkeggmdbaaGreatDoorW.PrintMore
attribute [local go_sem] Yt Yp YE YB Yj Yk Yu Yv
mutual
def ye.l0:Nat→List (S71)→List ByteArray→List (S71)→Int→Int→Option (Bool)
 | 0,_,_,_,_,_=>none
 | k+1,x0,x1,x18,x19,x20=>if x20<x19 then (if 0≤x20 then (if x20<(x18.length:Int) then (ye.l1 k x0 x1 false x18 x19 x20 x1 (x1.length:Int) 0 ((yj x18 x20).f0) ((yj x18 x20).f1) ((yj x18 x20).f2)) else (none)) else (none)) else ((yE.f k x0).bind fun t257=>(some t257))
def ye.l1:Nat→List (S71)→List ByteArray→Bool→List (S71)→Int→Int→List ByteArray→Int→Int→ByteArray→List Int→List ByteArray→Option (Bool)
 | 0,_,_,_,_,_,_,_,_,_,_,_,_=>none
 | k+1,x0,x1,x7,x18,x19,x20,x24,x25,x26,x247000,x247001,x247002=>if x26<x25 then (if 0≤x26 then (if x26<(x24.length:Int) then (if x7=true then (ye.l1 k x0 x1 true x18 x19 x20 x24 x25 (wrap64 (x26+1)) x247000 x247001 x247002) else (ye.l1 k x0 x1 ((yU ByteArray.empty x24 x26).toList == x247000.toList) x18 x19 x20 x24 x25 (wrap64 (x26+1)) x247000 x247001 x247002)) else (none)) else (none)) else (if x7=true then (if (x247002.length:Int)=0 then (ye.j2 k x0 x1 x18 x19 x20 true x247000 x247001 x247002) else (ye.j2 k x0 x1 x18 x19 x20 ((x247002.length:Int) != (x247001.length:Int)) x247000 x247001 x247002)) else (ye.j2 k x0 x1 x18 x19 x20 true x247000 x247001 x247002))
def ye.j2:Nat→List (S71)→List ByteArray→List (S71)→Int→Int→Bool→ByteArray→List Int→List ByteArray→Option (Bool)
 | 0,_,_,_,_,_,_,_,_,_=>none
 | k+1,x0,x1,x18,x19,x20,x54,x247000,x247001,x247002=>if x54=true then (some false) else (ye.l2 k x0 x1 x18 x19 x20 x247002 (x247002.length:Int) 0 x247000 x247001 x247002)
def ye.l2:Nat→List (S71)→List ByteArray→List (S71)→Int→Int→List ByteArray→Int→Int→ByteArray→List Int→List ByteArray→Option (Bool)
 | 0,_,_,_,_,_,_,_,_,_,_,_=>none
 | k+1,x0,x1,x18,x19,x20,x56,x57,x58,x247000,x247001,x247002=>if x58<x57 then (if 0≤x58 then (if x58<(x56.length:Int) then ((Y3.f x247000).bind fun t249=>(ye.l3 k x0 x1 x58 (yU ByteArray.empty x56 x58) false x18 x19 x20 x56 x57 x58 t249 (t249.length:Int) 0 x247000 x247001 x247002)) else (none)) else (none)) else (ye.l0 k x0 x1 x18 x19 (wrap64 (x20+1)))
def ye.l3:Nat→List (S71)→List ByteArray→Int→ByteArray→Bool→List (S71)→Int→Int→List ByteArray→Int→Int→List ByteArray→Int→Int→ByteArray→List Int→List ByteArray→Option (Bool)
 | 0,_,_,_,_,_,_,_,_,_,_,_,_,_,_,_,_,_=>none
 | k+1,x0,x1,x10,x11,x12,x18,x19,x20,x56,x57,x58,x65,x66,x67,x247000,x247001,x247002=>if x67<x66 then (if 0≤x67 then (if x67<(x65.length:Int) then (if x12=true then (ye.l3 k x0 x1 x10 x11 true x18 x19 x20 x56 x57 x58 x65 x66 (wrap64 (x67+1)) x247000 x247001 x247002) else (ye.l3 k x0 x1 x10 x11 ((yU ByteArray.empty x65 x67).toList == x11.toList) x18 x19 x20 x56 x57 x58 x65 x66 (wrap64 (x67+1)) x247000 x247001 x247002)) else (none)) else (none)) else (if 0≤x10 then (if x10≤(x247002.length:Int) then (ye.l4 k x0 x1 x10 x11 x12 x18 x19 x20 x56 x57 x58 (x247002.take (x10:Int).toNat) ((x247002.take (x10:Int).toNat).length:Int) 0 x247000 x247001 x247002) else (none)) else (none))
def ye.l4:Nat→List (S71)→List ByteArray→Int→ByteArray→Bool→List (S71)→Int→Int→List ByteArray→Int→Int→List ByteArray→Int→Int→ByteArray→List Int→List ByteArray→Option (Bool)
 | 0,_,_,_,_,_,_,_,_,_,_,_,_,_,_,_,_,_=>none
 | k+1,x0,x1,x10,x11,x12,x18,x19,x20,x56,x57,x58,x81,x82,x83,x247000,x247001,x247002=>if x83<x82 then (if 0≤x83 then (if x83<(x81.length:Int) then (if x12=true then (ye.l4 k x0 x1 x10 x11 ((yU ByteArray.empty x81 x83).toList != x11.toList) x18 x19 x20 x56 x57 x58 x81 x82 (wrap64 (x83+1)) x247000 x247001 x247002) else (ye.l4 k x0 x1 x10 x11 false x18 x19 x20 x56 x57 x58 x81 x82 (wrap64 (x83+1)) x247000 x247001 x247002)) else (none)) else (none)) else (if 0≤x10 then (if x10<(x247001.length:Int) then (if x12=true then (if x247000.toList=([84,99,112,69,120,116]:List UInt8) then ((Yq.f k x11).bind fun t256=>(if t256=true then (ye.j6 k x0 x1 x18 x19 x20 x56 x57 x58 true x247000 x247001 x247002) else (if (wrap64 (rd x247001 x10)) > 9007199254740992 then (ye.j6 k x0 x1 x18 x19 x20 x56 x57 x58 true x247000 x247001 x247002) else (ye.j6 k x0 x1 x18 x19 x20 x56 x57 x58 (decide ((wrap64 (rd x247001 x10))<(-9007199254740992))) x247000 x247001 x247002)))) else (if (wrap64 (rd x247001 x10)) > 9007199254740992 then (ye.j6 k x0 x1 x18 x19 x20 x56 x57 x58 true x247000 x247001 x247002) else (ye.j6 k x0 x1 x18 x19 x20 x56 x57 x58 (decide ((wrap64 (rd x247001 x10))<(-9007199254740992))) x247000 x247001 x247002))) else (ye.j6 k x0 x1 x18 x19 x20 x56 x57 x58 true x247000 x247001 x247002)) else (none)) else (none))
def ye.j6:Nat→List (S71)→List ByteArray→List (S71)→Int→Int→List ByteArray→Int→Int→Bool→ByteArray→List Int→List ByteArray→Option (Bool)
 | 0,_,_,_,_,_,_,_,_,_,_,_,_=>none
 | k+1,x0,x1,x18,x19,x20,x56,x57,x58,x118,x247000,x247001,x247002=>if x118=true then (some false) else (ye.l2 k x0 x1 x18 x19 x20 x56 x57 (wrap64 (x58+1)) x247000 x247001 x247002)
end
def ye.f (k:Nat) (l0:List (S71)) (l1:List ByteArray):Option (Bool):=ye.l0 k l0 l1 l0 (l0.length:Int) 0
theorem ye.YY:∀ k,(∀ y0 y1 y2 y3 y4,LeO (ye.l0 k y0 y1 y2 y3 y4) (ye.l0 (k+1) y0 y1 y2 y3 y4))∧(∀ y0 y1 y2 y3 y4 y5 y6 y7 y8 y9 y10 y11,LeO (ye.l1 k y0 y1 y2 y3 y4 y5 y6 y7 y8 y9 y10 y11) (ye.l1 (k+1) y0 y1 y2 y3 y4 y5 y6 y7 y8 y9 y10 y11))∧(∀ y0 y1 y2 y3 y4 y5 y6 y7 y8,LeO (ye.j2 k y0 y1 y2 y3 y4 y5 y6 y7 y8) (ye.j2 (k+1) y0 y1 y2 y3 y4 y5 y6 y7 y8))∧(∀ y0 y1 y2 y3 y4 y5 y6 y7 y8 y9 y10,LeO (ye.l2 k y0 y1 y2 y3 y4 y5 y6 y7 y8 y9 y10) (ye.l2 (k+1) y0 y1 y2 y3 y4 y5 y6 y7 y8 y9 y10))∧(∀ y0 y1 y2 y3 y4 y5 y6 y7 y8 y9 y10 y11 y12 y13 y14 y15 y16,LeO (ye.l3 k y0 y1 y2 y3 y4 y5 y6 y7 y8 y9 y10 y11 y12 y13 y14 y15 y16) (ye.l3 (k+1) y0 y1 y2 y3 y4 y5 y6 y7 y8 y9 y10 y11 y12 y13 y14 y15 y16))∧(∀ y0 y1 y2 y3 y4 y5 y6 y7 y8 y9 y10 y11 y12 y13 y14 y15 y16,LeO (ye.l4 k y0 y1 y2 y3 y4 y5 y6 y7 y8 y9 y10 y11 y12 y13 y14 y15 y16) (ye.l4 (k+1) y0 y1 y2 y3 y4 y5 y6 y7 y8 y9 y10 y11 y12 y13 y14 y15 y16))∧(∀ y0 y1 y2 y3 y4 y5 y6 y7 y8 y9 y10 y11,LeO (ye.j6 k y0 y1 y2 y3 y4 y5 y6 y7 y8 y9 y10 y11) (ye.j6 (k+1) y0 y1 y2 y3 y4 y5 y6 y7 y8 y9 y10 y11))
 | 0=>⟨fun _ _ _ _ _ r h=>by simp [ye.l0] at h,fun _ _ _ _ _ _ _ _ _ _ _ _ r h=>by simp [ye.l1] at h,fun _ _ _ _ _ _ _ _ _ r h=>by simp [ye.j2] at h,fun _ _ _ _ _ _ _ _ _ _ _ r h=>by simp [ye.l2] at h,fun _ _ _ _ _ _ _ _ _ _ _ _ _ _ _ _ _ r h=>by simp [ye.l3] at h,fun _ _ _ _ _ _ _ _ _ _ _ _ _ _ _ _ _ r h=>by simp [ye.l4] at h,fun _ _ _ _ _ _ _ _ _ _ _ _ r h=>by simp [ye.j6] at h⟩
 | k+1=>by
  obtain ⟨ih0,ih1,ih2,ih3,ih4,ih5,ih6⟩:=ye.YY k
  refine ⟨?_,?_,?_,?_,?_,?_,?_⟩
  · intro y0 y1 y2 y3 y4
    unfold ye.l0
    repeat' first
    | (with_reducible exact ih0 _ _ _ _ _)
    | (with_reducible exact ih1 _ _ _ _ _ _ _ _ _ _ _ _)
    | (with_reducible exact ih2 _ _ _ _ _ _ _ _ _)
    | (with_reducible exact ih3 _ _ _ _ _ _ _ _ _ _ _)
    | (with_reducible exact ih4 _ _ _ _ _ _ _ _ _ _ _ _ _ _ _ _ _)
    | (with_reducible exact ih5 _ _ _ _ _ _ _ _ _ _ _ _ _ _ _ _ _)
    | (with_reducible exact ih6 _ _ _ _ _ _ _ _ _ _ _ _)
    | (with_reducible exact yE.mono _ _)
    | (with_reducible exact Yq.mono _ _)
    | (with_reducible exact LeO.refl _)
    | (with_reducible exact LeO.none _)
    | (with_reducible refine LeO.ite ?_ ?_)
    | (with_reducible refine LeO.bind ?_ (fun _=>?_))
    | exact ih0 _ _ _ _ _
    | exact ih1 _ _ _ _ _ _ _ _ _ _ _ _
    | exact ih2 _ _ _ _ _ _ _ _ _
    | exact ih3 _ _ _ _ _ _ _ _ _ _ _
    | exact ih4 _ _ _ _ _ _ _ _ _ _ _ _ _ _ _ _ _
    | exact ih5 _ _ _ _ _ _ _ _ _ _ _ _ _ _ _ _ _
    | exact ih6 _ _ _ _ _ _ _ _ _ _ _ _
    | exact yE.mono _ _
    | exact Yq.mono _ _
    | exact LeO.none _
    | refine LeO.ite ?_ ?_
    | refine LeO.bind ?_ (fun _=>?_)
  · intro y0 y1 y2 y3 y4 y5 y6 y7 y8 y9 y10 y11
    unfold ye.l1
    repeat' first
    | (with_reducible exact ih0 _ _ _ _ _)
    | (with_reducible exact ih1 _ _ _ _ _ _ _ _ _ _ _ _)
    | (with_reducible exact ih2 _ _ _ _ _ _ _ _ _)
    | (with_reducible exact ih3 _ _ _ _ _ _ _ _ _ _ _)
    | (with_reducible exact ih4 _ _ _ _ _ _ _ _ _ _ _ _ _ _ _ _ _)
    | (with_reducible exact ih5 _ _ _ _ _ _ _ _ _ _ _ _ _ _ _ _ _)
    | (with_reducible exact ih6 _ _ _ _ _ _ _ _ _ _ _ _)
    | (with_reducible exact yE.mono _ _)
    | (with_reducible exact Yq.mono _ _)
    | (with_reducible exact LeO.refl _)
    | (with_reducible exact LeO.none _)
    | (with_reducible refine LeO.ite ?_ ?_)
    | (with_reducible refine LeO.bind ?_ (fun _=>?_))
    | exact ih0 _ _ _ _ _
    | exact ih1 _ _ _ _ _ _ _ _ _ _ _ _
    | exact ih2 _ _ _ _ _ _ _ _ _
    | exact ih3 _ _ _ _ _ _ _ _ _ _ _
    | exact ih4 _ _ _ _ _ _ _ _ _ _ _ _ _ _ _ _ _
    | exact ih5 _ _ _ _ _ _ _ _ _ _ _ _ _ _ _ _ _
    | exact ih6 _ _ _ _ _ _ _ _ _ _ _ _
    | exact yE.mono _ _
    | exact Yq.mono _ _
    | exact LeO.none _
    | refine LeO.ite ?_ ?_
    | refine LeO.bind ?_ (fun _=>?_)
  · intro y0 y1 y2 y3 y4 y5 y6 y7 y8
    unfold ye.j2
    repeat' first
    | (with_reducible exact ih0 _ _ _ _ _)
    | (with_reducible exact ih1 _ _ _ _ _ _ _ _ _ _ _ _)
    | (with_reducible exact ih2 _ _ _ _ _ _ _ _ _)
    | (with_reducible exact ih3 _ _ _ _ _ _ _ _ _ _ _)
    | (with_reducible exact ih4 _ _ _ _ _ _ _ _ _ _ _ _ _ _ _ _ _)
    | (with_reducible exact ih5 _ _ _ _ _ _ _ _ _ _ _ _ _ _ _ _ _)
    | (with_reducible exact ih6 _ _ _ _ _ _ _ _ _ _ _ _)
    | (with_reducible exact yE.mono _ _)
    | (with_reducible exact Yq.mono _ _)
    | (with_reducible exact LeO.refl _)
    | (with_reducible exact LeO.none _)
    | (with_reducible refine LeO.ite ?_ ?_)
    | (with_reducible refine LeO.bind ?_ (fun _=>?_))
    | exact ih0 _ _ _ _ _
    | exact ih1 _ _ _ _ _ _ _ _ _ _ _ _
    | exact ih2 _ _ _ _ _ _ _ _ _
    | exact ih3 _ _ _ _ _ _ _ _ _ _ _
    | exact ih4 _ _ _ _ _ _ _ _ _ _ _ _ _ _ _ _ _
    | exact ih5 _ _ _ _ _ _ _ _ _ _ _ _ _ _ _ _ _
    | exact ih6 _ _ _ _ _ _ _ _ _ _ _ _
    | exact yE.mono _ _
    | exact Yq.mono _ _
    | exact LeO.none _
    | refine LeO.ite ?_ ?_
    | refine LeO.bind ?_ (fun _=>?_)
  · intro y0 y1 y2 y3 y4 y5 y6 y7 y8 y9 y10
    unfold ye.l2
    repeat' first
    | (with_reducible exact ih0 _ _ _ _ _)
    | (with_reducible exact ih1 _ _ _ _ _ _ _ _ _ _ _ _)
    | (with_reducible exact ih2 _ _ _ _ _ _ _ _ _)
    | (with_reducible exact ih3 _ _ _ _ _ _ _ _ _ _ _)
    | (with_reducible exact ih4 _ _ _ _ _ _ _ _ _ _ _ _ _ _ _ _ _)
    | (with_reducible exact ih5 _ _ _ _ _ _ _ _ _ _ _ _ _ _ _ _ _)
    | (with_reducible exact ih6 _ _ _ _ _ _ _ _ _ _ _ _)
    | (with_reducible exact yE.mono _ _)
    | (with_reducible exact Yq.mono _ _)
    | (with_reducible exact LeO.refl _)
    | (with_reducible exact LeO.none _)
    | (with_reducible refine LeO.ite ?_ ?_)
    | (with_reducible refine LeO.bind ?_ (fun _=>?_))
    | exact ih0 _ _ _ _ _
    | exact ih1 _ _ _ _ _ _ _ _ _ _ _ _
    | exact ih2 _ _ _ _ _ _ _ _ _
    | exact ih3 _ _ _ _ _ _ _ _ _ _ _
    | exact ih4 _ _ _ _ _ _ _ _ _ _ _ _ _ _ _ _ _
    | exact ih5 _ _ _ _ _ _ _ _ _ _ _ _ _ _ _ _ _
    | exact ih6 _ _ _ _ _ _ _ _ _ _ _ _
    | exact yE.mono _ _
    | exact Yq.mono _ _
    | exact LeO.none _
    | refine LeO.ite ?_ ?_
    | refine LeO.bind ?_ (fun _=>?_)
  · intro y0 y1 y2 y3 y4 y5 y6 y7 y8 y9 y10 y11 y12 y13 y14 y15 y16
    unfold ye.l3
    repeat' first
    | (with_reducible exact ih0 _ _ _ _ _)
    | (with_reducible exact ih1 _ _ _ _ _ _ _ _ _ _ _ _)
    | (with_reducible exact ih2 _ _ _ _ _ _ _ _ _)
    | (with_reducible exact ih3 _ _ _ _ _ _ _ _ _ _ _)
    | (with_reducible exact ih4 _ _ _ _ _ _ _ _ _ _ _ _ _ _ _ _ _)
    | (with_reducible exact ih5 _ _ _ _ _ _ _ _ _ _ _ _ _ _ _ _ _)
    | (with_reducible exact ih6 _ _ _ _ _ _ _ _ _ _ _ _)
    | (with_reducible exact yE.mono _ _)
    | (with_reducible exact Yq.mono _ _)
    | (with_reducible exact LeO.refl _)
    | (with_reducible exact LeO.none _)
    | (with_reducible refine LeO.ite ?_ ?_)
    | (with_reducible refine LeO.bind ?_ (fun _=>?_))
    | exact ih0 _ _ _ _ _
    | exact ih1 _ _ _ _ _ _ _ _ _ _ _ _
    | exact ih2 _ _ _ _ _ _ _ _ _
    | exact ih3 _ _ _ _ _ _ _ _ _ _ _
    | exact ih4 _ _ _ _ _ _ _ _ _ _ _ _ _ _ _ _ _
    | exact ih5 _ _ _ _ _ _ _ _ _ _ _ _ _ _ _ _ _
    | exact ih6 _ _ _ _ _ _ _ _ _ _ _ _
    | exact yE.mono _ _
    | exact Yq.mono _ _
    | exact LeO.none _
    | refine LeO.ite ?_ ?_
    | refine LeO.bind ?_ (fun _=>?_)
  · intro y0 y1 y2 y3 y4 y5 y6 y7 y8 y9 y10 y11 y12 y13 y14 y15 y16
    unfold ye.l4
    repeat' first
    | (with_reducible exact ih0 _ _ _ _ _)
    | (with_reducible exact ih1 _ _ _ _ _ _ _ _ _ _ _ _)
    | (with_reducible exact ih2 _ _ _ _ _ _ _ _ _)
    | (with_reducible exact ih3 _ _ _ _ _ _ _ _ _ _ _)
    | (with_reducible exact ih4 _ _ _ _ _ _ _ _ _ _ _ _ _ _ _ _ _)
    | (with_reducible exact ih5 _ _ _ _ _ _ _ _ _ _ _ _ _ _ _ _ _)
    | (with_reducible exact ih6 _ _ _ _ _ _ _ _ _ _ _ _)
    | (with_reducible exact yE.mono _ _)
    | (with_reducible exact Yq.mono _ _)
    | (with_reducible exact LeO.refl _)
    | (with_reducible exact LeO.none _)
    | (with_reducible refine LeO.ite ?_ ?_)
    | (with_reducible refine LeO.bind ?_ (fun _=>?_))
    | exact ih0 _ _ _ _ _
    | exact ih1 _ _ _ _ _ _ _ _ _ _ _ _
    | exact ih2 _ _ _ _ _ _ _ _ _
    | exact ih3 _ _ _ _ _ _ _ _ _ _ _
    | exact ih4 _ _ _ _ _ _ _ _ _ _ _ _ _ _ _ _ _
    | exact ih5 _ _ _ _ _ _ _ _ _ _ _ _ _ _ _ _ _
    | exact ih6 _ _ _ _ _ _ _ _ _ _ _ _
    | exact yE.mono _ _
    | exact Yq.mono _ _
    | exact LeO.none _
    | refine LeO.ite ?_ ?_
    | refine LeO.bind ?_ (fun _=>?_)
  · intro y0 y1 y2 y3 y4 y5 y6 y7 y8 y9 y10 y11
    unfold ye.j6
    repeat' first
    | (with_reducible exact ih0 _ _ _ _ _)
    | (with_reducible exact ih1 _ _ _ _ _ _ _ _ _ _ _ _)
    | (with_reducible exact ih2 _ _ _ _ _ _ _ _ _)
    | (with_reducible exact ih3 _ _ _ _ _ _ _ _ _ _ _)
    | (with_reducible exact ih4 _ _ _ _ _ _ _ _ _ _ _ _ _ _ _ _ _)
    | (with_reducible exact ih5 _ _ _ _ _ _ _ _ _ _ _ _ _ _ _ _ _)
    | (with_reducible exact ih6 _ _ _ _ _ _ _ _ _ _ _ _)
    | (with_reducible exact yE.mono _ _)
    | (with_reducible exact Yq.mono _ _)
    | (with_reducible exact LeO.refl _)
    | (with_reducible exact LeO.none _)
    | (with_reducible refine LeO.ite ?_ ?_)
    | (with_reducible refine LeO.bind ?_ (fun _=>?_))
    | exact ih0 _ _ _ _ _
    | exact ih1 _ _ _ _ _ _ _ _ _ _ _ _
    | exact ih2 _ _ _ _ _ _ _ _ _
    | exact ih3 _ _ _ _ _ _ _ _ _ _ _
    | exact ih4 _ _ _ _ _ _ _ _ _ _ _ _ _ _ _ _ _
    | exact ih5 _ _ _ _ _ _ _ _ _ _ _ _ _ _ _ _ _
    | exact ih6 _ _ _ _ _ _ _ _ _ _ _ _
    | exact yE.mono _ _
    | exact Yq.mono _ _
    | exact LeO.none _
    | refine LeO.ite ?_ ?_
    | refine LeO.bind ?_ (fun _=>?_)
theorem ye.mono:∀ a0 a1 k,LeO (ye.f k a0 a1) (ye.f (k+1) a0 a1):=by
 intro a0 a1 k
 obtain ⟨ih0,ih1,ih2,ih3,ih4,ih5,ih6⟩:=ye.YY k
 unfold ye.f
 repeat' first
  | (with_reducible exact ih0 _ _ _ _ _)
  | (with_reducible exact ih1 _ _ _ _ _ _ _ _ _ _ _ _)
  | (with_reducible exact ih2 _ _ _ _ _ _ _ _ _)
  | (with_reducible exact ih3 _ _ _ _ _ _ _ _ _ _ _)
  | (with_reducible exact ih4 _ _ _ _ _ _ _ _ _ _ _ _ _ _ _ _ _)
  | (with_reducible exact ih5 _ _ _ _ _ _ _ _ _ _ _ _ _ _ _ _ _)
  | (with_reducible exact ih6 _ _ _ _ _ _ _ _ _ _ _ _)
  | (with_reducible exact yE.mono _ _)
  | (with_reducible exact Yq.mono _ _)
  | (with_reducible exact LeO.refl _)
  | (with_reducible exact LeO.none _)
  | (with_reducible refine LeO.ite ?_ ?_)
  | (with_reducible refine LeO.bind ?_ (fun _=>?_))
  | exact ih0 _ _ _ _ _
  | exact ih1 _ _ _ _ _ _ _ _ _ _ _ _
  | exact ih2 _ _ _ _ _ _ _ _ _
  | exact ih3 _ _ _ _ _ _ _ _ _ _ _
  | exact ih4 _ _ _ _ _ _ _ _ _ _ _ _ _ _ _ _ _
  | exact ih5 _ _ _ _ _ _ _ _ _ _ _ _ _ _ _ _ _
  | exact ih6 _ _ _ _ _ _ _ _ _ _ _ _
  | exact yE.mono _ _
  | exact Yq.mono _ _
  | exact LeO.none _
  | refine LeO.ite ?_ ?_
  | refine LeO.bind ?_ (fun _=>?_)
set_option maxHeartbeats 8000000 in
set_option maxRecDepth 100000 in
theorem ye.calls (k:Nat) (A0:Option Addr) (c0:Nat) (l0:List (S71)) (A1:Option Addr) (c1:Nat) (l1:List ByteArray) (r:Bool) (w:World) (hr0:Kd.C k71 w A0 l0.length l0) (hc0:l0.length≤c0) (hr1:Kd.C Kd.string w A1 l1.length l1) (hc1:l1.length≤c1) (h:ye.f k l0 l1=some r) :
 Calls Tryz.prog 13 #[.slice A0 l0.length c0,.slice A1 l1.length c1] w fun e w'=>e=.returned (.bool r)∧Below w.heap.size w w':=by
 have hu71:=Tryz.underlying71
 have HR0:=yc.mk hr0
 have HC0:=yc.mk hc0
 clear hr0 hc0
 have HR1:=yc.mk hr1
 have HC1:=yc.mk hc1
 clear hr1 hc1
 have HB:=yc.mk (Below.refl w.heap.size w)
 have H:(ye.l0 k l0 l1 l0 (l0.length:Int) 0)=some r:=h
 clear h
 have H':=yc.mk H
 clear H
 go_enter Tryz.func13,Tryz.ntmps13
 go_wp2
 go_loopg [20] k (fun kq v20 w'=>∃ (x20_1:Int),v20=.int .i64 x20_1∧yc (ye.l0 kq l0 l1 l0 (l0.length:Int) x20_1=some r)∧yc (kq≤k)∧yc (Below w.heap.size w w'))
 case atStart=>exact ⟨(0),(by first|rfl|(simp;done)|(simp [*];done)|(simp [yn];done)),H',⟨Nat.le_refl _⟩,⟨by repeat (first|(with_reducible first|exact HB.out|apply yl|apply ym|apply yp)|exact HB.out)⟩⟩
 case round=>
  clear H'
  try clear c1
  try clear p2
  obtain ⟨x20_1,rfl,HA,HK1,HB⟩:=hrel
  cases gk with
  | zero=>exact absurd HA.out (by simp [ye.l0])
  | succ k1=>
   have H:=HA.out
   clear HA
   simp only [ye.l0] at H
   by_cases c3:x20_1<(l0.length:Int)
   · rw [if_pos c3] at H
     have c3b0:decide (x20_1<(l0.length:Int))=true:=decide_eq_true c3
     clear c3
     by_cases c4:0≤x20_1
     · rw [if_pos c4] at H
       have c4b0:decide (0≤x20_1)=true:=decide_eq_true c4
       clear c4
       by_cases c5:x20_1<(l0.length:Int)
       · rw [if_pos c5] at H
         have c5b0:decide (x20_1<(l0.length:Int))=true:=decide_eq_true c5
         clear c5
         have H':=yc.mk H
         clear H
         have p245:0≤(x20_1:Int):=of_decide_eq_true (by first|(with_reducible assumption)|assumption)
         have q245:x20_1<(l0.length:Int):=of_decide_eq_true (by first|(with_reducible assumption)|assumption)
         obtain ⟨ad245,A245_1,c245_1,A245_2,c245_2,e245,hx245_0,hx245_1,hx245_2,hl245_1,hi245_1,hl245_2,hi245_2⟩:=ybo HR0.out x20_1 p245 q245
         cases e245
         replace hx245_0:=(HB.out.cell (World.block_lt_of_cell? w _ hx245_0)).trans hx245_0
         replace hx245_1:=(HB.out.cell (World.block_lt_of_cell? w _ hx245_1)).trans hx245_1
         replace hx245_2:=(HB.out.cell (World.block_lt_of_cell? w _ hx245_2)).trans hx245_2
         have HR245_1:=yc.mk hi245_1
         have HC245_1:=yc.mk hl245_1
         clear hi245_1 hl245_1
         have HR245_2:=yc.mk hi245_2
         have HC245_2:=yc.mk hl245_2
         clear hi245_2 hl245_2
         replace p245:=eq_true p245
         replace q245:=eq_true q245
         go_wp2_with (first|((with_reducible refine YX (N:=6) rfl ?_);(try (refine yaw (by rfl) ?_;dsimp only));refine YW ?hg (N:=6) ?hd (cs:=#[.string (⟨#[]⟩:ByteArray),.slice none 0 0,.slice none 0 0]) (t:=71) ?hr ?_;(case hd=>rfl);(case hg=>rfl);(case hr=>first|(go_simp;done)|(go_simp;rfl));intro gb246 hg w6 hbox hb;have n0_:=yc.mk (yw Zh hb);have n1_:=yc.mk (hbox);have n2_:=yc.mk ((by rw [hg];exact (yt Zh):w.heap.size≤gb246));have n3_:=yc.mk ((by rw [hg];exact (yt Zh):w.heap.size≤gb246));clear HB;have HB:=n0_;have BK246:=n1_;have GW246:=n2_;have GE246:=n3_;clear n0_ n1_ n2_ n3_;clear hb hbox hg;have hcz7_0:w6.cell? ⟨gb246,0,none⟩=some (.string (⟨#[]⟩:ByteArray)):=(yg BK246.out 0).trans rfl;have hcz7_1:w6.cell? ⟨gb246,1,none⟩=some (.slice none 0 0):=(yg BK246.out 1).trans rfl;have hcz7_2:w6.cell? ⟨gb246,2,none⟩=some (.slice none 0 0):=(yg BK246.out 2).trans rfl;have hfz7_0:=yf BK246.out 0;have hfz7_1:=yf BK246.out 1;have hfz7_2:=yf BK246.out 2))
         go_loopg [7,26] k1 (fun kq v7 v26 w'=>∃ (x7_2:Bool) (x26_2:Int),v7=.bool x7_2∧v26=.int .i64 x26_2∧yc (ye.l1 kq l0 l1 x7_2 l0 (l0.length:Int) x20_1 l1 (l1.length:Int) x26_2 ((yj l0 x20_1).f0) ((yj l0 x20_1).f1) ((yj l0 x20_1).f2)=some r)∧yc (kq≤k1)∧yc (w'.heap[gb246]?=some (.cells #[.string ((yj l0 x20_1).f0),(.slice A245_1 ((yj l0 x20_1).f1).length c245_1),(.slice A245_2 ((yj l0 x20_1).f2).length c245_2)] 71 (0,0)))∧yc (Below w.heap.size w w'))
         case atStart=>exact ⟨(false),(0),(by first|rfl|(simp;done)|(simp [*];done)|(simp [yn];done)),(by first|rfl|(simp;done)|(simp [*];done)|(simp [yn];done)),H',⟨Nat.le_refl _⟩,⟨by refine Zb ?_;refine yy (cs:=#[.string ((yj l0 x20_1).f0),.slice A245_1 ((yj l0 x20_1).f1).length c245_1,.slice none 0 0]) ?_ 2 _ rfl;refine Zb ?_;refine yy (cs:=#[.string ((yj l0 x20_1).f0),.slice none 0 0,.slice none 0 0]) ?_ 1 _ rfl;refine Zb ?_;refine yy (cs:=#[.string (⟨#[]⟩:ByteArray),.slice none 0 0,.slice none 0 0]) ?_ 0 _ rfl;refine Zb ?_;exact BK246.out⟩,⟨by repeat (first|(with_reducible first|exact HB.out|apply yl|apply ym|apply yp|refine yu ?_ GE246.out)|exact HB.out)⟩⟩
         case round=>
          clear H'
          try clear c1
          try clear c2
          try clear p2
          try clear q2
          try clear hx2
          try clear c3
          try clear c3b0
          try clear c4
          try clear c4b0
          try clear c5
          try clear c5b0
          try clear hcz7_0
          try clear hcz7_1
          try clear hcz7_2
          try clear hfz7_0
          try clear hfz7_1
          try clear hfz7_2
          try clear hx245_0
          try clear hx245_1
          try clear hx245_2
          try clear p2
          try clear p245
          try clear q245
          obtain ⟨x7_2,x26_2,rfl,rfl,HA,HK2,BK246,HB⟩:=hrel
          cases gk with
          | zero=>exact absurd HA.out (by simp [ye.l1])
          | succ k2=>
           have H:=HA.out
           clear HA
           simp only [ye.l1] at H
           by_cases c8:x26_2<(l1.length:Int)
           · rw [if_pos c8] at H
             have c8b0:decide (x26_2<(l1.length:Int))=true:=decide_eq_true c8
             clear c8
             by_cases c9:0≤x26_2
             · rw [if_pos c9] at H
               have c9b0:decide (0≤x26_2)=true:=decide_eq_true c9
               clear c9
               by_cases c10:x26_2<(l1.length:Int)
               · rw [if_pos c10] at H
                 have c10b0:decide (x26_2<(l1.length:Int))=true:=decide_eq_true c10
                 clear c10
                 by_cases c11:x7_2=true
                 · subst c11
                   have H1:(ye.l1 k2 l0 l1 true l0 (l0.length:Int) x20_1 l1 (l1.length:Int) (wrap64 (x26_2+1)) ((yj l0 x20_1).f0) ((yj l0 x20_1).f1) ((yj l0 x20_1).f2))=some r:=by rw [if_pos rfl] at H;exact H
                   clear H
                   have H:=H1
                   clear H1
                   have H':=yc.mk H
                   clear H
                   have p247:0≤(x26_2:Int):=of_decide_eq_true (by first|(with_reducible assumption)|assumption)
                   have q247:x26_2<(l1.length:Int):=of_decide_eq_true (by first|(with_reducible assumption)|assumption)
                   obtain ⟨ad247,e247,hx247_0⟩:=Kd.YH HR1.out x26_2 p247 q247
                   cases e247
                   replace hx247_0:=(HB.out.cell (World.block_lt_of_cell? w _ hx247_0)).trans hx247_0
                   replace p247:=eq_true p247
                   replace q247:=eq_true q247
                   go_wp2
                   go_roundg k2
                   case measure=>have:=HK1.out;have:=HK2.out;omega
                   case rel=>exact ⟨(true),(wrap64 (x26_2+1)),(by first|rfl|(simp;done)|(simp [*];done)|(simp [yn];done)),(by first|rfl|(simp;done)|(simp [*];done)|(simp [yn];done)),H',⟨by have:=HK1.out;have:=HK2.out;omega⟩,⟨by refine Zb ?_;exact BK246.out⟩,⟨by repeat (first|(with_reducible first|exact HB.out|apply yl|apply ym|apply yp|refine yu ?_ GE246.out)|exact HB.out)⟩⟩
                 · replace c11:=Bool.eq_false_iff.mpr c11
                   subst c11
                   have H1:(ye.l1 k2 l0 l1 ((yU ByteArray.empty l1 x26_2).toList == ((yj l0 x20_1).f0).toList) l0 (l0.length:Int) x20_1 l1 (l1.length:Int) (wrap64 (x26_2+1)) ((yj l0 x20_1).f0) ((yj l0 x20_1).f1) ((yj l0 x20_1).f2))=some r:=by rw [if_neg (show ¬ (false=true) by decide)] at H;exact H
                   clear H
                   have H:=H1
                   clear H1
                   have H':=yc.mk H
                   clear H
                   have p247:0≤(x26_2:Int):=of_decide_eq_true (by first|(with_reducible assumption)|assumption)
                   have q247:x26_2<(l1.length:Int):=of_decide_eq_true (by first|(with_reducible assumption)|assumption)
                   obtain ⟨ad247,e247,hx247_0⟩:=Kd.YH HR1.out x26_2 p247 q247
                   cases e247
                   replace hx247_0:=(HB.out.cell (World.block_lt_of_cell? w _ hx247_0)).trans hx247_0
                   replace p247:=eq_true p247
                   replace q247:=eq_true q247
                   have hcz12_0:wr.cell? ⟨gb246,0,none⟩=some (.string ((yj l0 x20_1).f0)):=(yg BK246.out 0).trans rfl
                   have hcz12_1:wr.cell? ⟨gb246,1,none⟩=some (.slice A245_1 ((yj l0 x20_1).f1).length c245_1):=(yg BK246.out 1).trans rfl
                   have hcz12_2:wr.cell? ⟨gb246,2,none⟩=some (.slice A245_2 ((yj l0 x20_1).f2).length c245_2):=(yg BK246.out 2).trans rfl
                   have hfz12_0:=yf BK246.out 0
                   have hfz12_1:=yf BK246.out 1
                   have hfz12_2:=yf BK246.out 2
                   go_wp2
                   go_roundg k2
                   case measure=>have:=HK1.out;have:=HK2.out;omega
                   case rel=>exact ⟨(((yU ByteArray.empty l1 x26_2).toList == ((yj l0 x20_1).f0).toList)),(wrap64 (x26_2+1)),(by first|rfl|(simp;done)|(simp [*];done)|(simp [yn];done)),(by first|rfl|(simp;done)|(simp [*];done)|(simp [yn];done)),H',⟨by have:=HK1.out;have:=HK2.out;omega⟩,⟨by refine Zb ?_;exact BK246.out⟩,⟨by repeat (first|(with_reducible first|exact HB.out|apply yl|apply ym|apply yp|refine yu ?_ GE246.out)|exact HB.out)⟩⟩
               · rw [if_neg c10] at H
                 exact absurd H (by simp)
             · rw [if_neg c9] at H
               exact absurd H (by simp)
           · rw [if_neg c8] at H
             have c8b0:decide (x26_2<(l1.length:Int))=false:=decide_eq_false c8
             clear c8
             have HC13:=yc.mk H
             clear H
             go_upto_region 10 with (fail)
             go_cut [54] (fun v54 wc=>∃ (kq:Nat) (x54_12:Bool),v54=.bool x54_12∧yc (ye.j2 kq l0 l1 l0 (l0.length:Int) x20_1 x54_12 ((yj l0 x20_1).f0) ((yj l0 x20_1).f1) ((yj l0 x20_1).f2)=some r)∧yc (kq≤k2)∧yc (wc.heap[gb246]?=some (.cells #[.string ((yj l0 x20_1).f0),(.slice A245_1 ((yj l0 x20_1).f1).length c245_1),(.slice A245_2 ((yj l0 x20_1).f2).length c245_2)] 71 (0,0)))∧yc (Below w.heap.size w wc))
             case first=>
              have H:=HC13.out
              clear HC13
              by_cases c14:x7_2=true
              · subst c14
                have H1:(if (((yj l0 x20_1).f2).length:Int)=0 then (ye.j2 k2 l0 l1 l0 (l0.length:Int) x20_1 true ((yj l0 x20_1).f0) ((yj l0 x20_1).f1) ((yj l0 x20_1).f2)) else (ye.j2 k2 l0 l1 l0 (l0.length:Int) x20_1 ((((yj l0 x20_1).f2).length:Int) != (((yj l0 x20_1).f1).length:Int)) ((yj l0 x20_1).f0) ((yj l0 x20_1).f1) ((yj l0 x20_1).f2)))=some r:=by rw [if_pos rfl] at H;exact H
                clear H
                have H:=H1
                clear H1
                by_cases c15:(((yj l0 x20_1).f2).length:Int)=0
                · rw [if_pos c15] at H
                  have c15b0:((((yj l0 x20_1).f2).length:Int) == 0)=true:=beq_iff_eq.mpr c15
                  have c15b1:((((yj l0 x20_1).f2).length:Int) != 0)=false:=bne_eq_false_iff_eq.mpr c15
                  clear c15
                  (first|rw [c15b0]|(simp only [yM,yP];rw [c15b0])|skip)
                  have H':=yc.mk H
                  clear H
                  have hcz16_0:wr.cell? ⟨gb246,0,none⟩=some (.string ((yj l0 x20_1).f0)):=(yg BK246.out 0).trans rfl
                  have hcz16_1:wr.cell? ⟨gb246,1,none⟩=some (.slice A245_1 ((yj l0 x20_1).f1).length c245_1):=(yg BK246.out 1).trans rfl
                  have hcz16_2:wr.cell? ⟨gb246,2,none⟩=some (.slice A245_2 ((yj l0 x20_1).f2).length c245_2):=(yg BK246.out 2).trans rfl
                  have hfz16_0:=yf BK246.out 0
                  have hfz16_1:=yf BK246.out 1
                  have hfz16_2:=yf BK246.out 2
                  go_wp2
                  go_meet
                  case rel=>exact ⟨_,(true),(by first|rfl|(simp;done)|(simp [*];done)|(simp [yn];done)),H',⟨by have:=HK1.out;have:=HK2.out;first|omega|exact Nat.le_refl _⟩,⟨by refine Zb ?_;exact BK246.out⟩,⟨by repeat (first|(with_reducible first|exact HB.out|apply yl|apply ym|apply yp|refine yu ?_ GE246.out)|exact HB.out)⟩⟩
                · rw [if_neg c15] at H
                  have c15b0:((((yj l0 x20_1).f2).length:Int) == 0)=false:=beq_eq_false_iff_ne.mpr c15
                  have c15b1:((((yj l0 x20_1).f2).length:Int) != 0)=true:=bne_iff_ne.mpr c15
                  have c15b2:¬ (((yj l0 x20_1).f2)=[]):=fun h_=>c15 (by rw [h_];rfl)
                  (first|rw [c15b0]|(simp only [yM,yP];rw [c15b0])|skip)
                  have H':=yc.mk H
                  clear H
                  have hcz17_0:wr.cell? ⟨gb246,0,none⟩=some (.string ((yj l0 x20_1).f0)):=(yg BK246.out 0).trans rfl
                  have hcz17_1:wr.cell? ⟨gb246,1,none⟩=some (.slice A245_1 ((yj l0 x20_1).f1).length c245_1):=(yg BK246.out 1).trans rfl
                  have hcz17_2:wr.cell? ⟨gb246,2,none⟩=some (.slice A245_2 ((yj l0 x20_1).f2).length c245_2):=(yg BK246.out 2).trans rfl
                  have hfz17_0:=yf BK246.out 0
                  have hfz17_1:=yf BK246.out 1
                  have hfz17_2:=yf BK246.out 2
                  go_wp2
                  go_meet
                  case rel=>exact ⟨_,(((((yj l0 x20_1).f2).length:Int) != (((yj l0 x20_1).f1).length:Int))),(by first|rfl|(simp;done)|(simp [*];done)|(simp [yn];done)),H',⟨by have:=HK1.out;have:=HK2.out;first|omega|exact Nat.le_refl _⟩,⟨by refine Zb ?_;exact BK246.out⟩,⟨by repeat (first|(with_reducible first|exact HB.out|apply yl|apply ym|apply yp|refine yu ?_ GE246.out)|exact HB.out)⟩⟩
              · replace c14:=Bool.eq_false_iff.mpr c14
                subst c14
                have H1:(ye.j2 k2 l0 l1 l0 (l0.length:Int) x20_1 true ((yj l0 x20_1).f0) ((yj l0 x20_1).f1) ((yj l0 x20_1).f2))=some r:=by rw [if_neg (show ¬ (false=true) by decide)] at H;exact H
                clear H
                have H:=H1
                clear H1
                have H':=yc.mk H
                clear H
                go_wp2
                go_meet
                case rel=>exact ⟨_,(true),(by first|rfl|(simp;done)|(simp [*];done)|(simp [yn];done)),H',⟨by have:=HK1.out;have:=HK2.out;first|omega|exact Nat.le_refl _⟩,⟨by refine Zb ?_;exact BK246.out⟩,⟨by repeat (first|(with_reducible first|exact HB.out|apply yl|apply ym|apply yp|refine yu ?_ GE246.out)|exact HB.out)⟩⟩
             case rest=>
              clear HC13
              try clear c1
              try clear c2
              try clear p2
              try clear q2
              try clear hx2
              try clear c3
              try clear c3b0
              try clear c4
              try clear c4b0
              try clear c5
              try clear c5b0
              try clear p6
              try clear c8
              try clear c8b0
              try clear c9
              try clear c9b0
              try clear c10
              try clear c10b0
              try clear c11
              try clear c13
              try clear c14
              try clear c15
              try clear c15b0
              try clear c15b1
              try clear c15b2
              try clear hcz12_0
              try clear hcz12_1
              try clear hcz12_2
              try clear hcz16_0
              try clear hcz16_1
              try clear hcz16_2
              try clear hcz17_0
              try clear hcz17_1
              try clear hcz17_2
              try clear hcz7_0
              try clear hcz7_1
              try clear hcz7_2
              try clear hfz12_0
              try clear hfz12_1
              try clear hfz12_2
              try clear hfz16_0
              try clear hfz16_1
              try clear hfz16_2
              try clear hfz17_0
              try clear hfz17_1
              try clear hfz17_2
              try clear hfz7_0
              try clear hfz7_1
              try clear hfz7_2
              try clear hx245_0
              try clear hx245_1
              try clear hx245_2
              try clear hx247_0
              try clear p2
              try clear p245
              try clear p247
              try clear q2
              try clear q245
              try clear q247
              obtain ⟨kq,x54_12,rfl,HA,HJ12,BK246,HB⟩:=hcut
              cases kq with
              | zero=>exact absurd HA.out (by simp [ye.j2])
              | succ kj12=>
               have H:=HA.out
               clear HA
               simp only [ye.j2] at H
               by_cases c18:x54_12=true
               · subst c18
                 have H1:(some false)=some r:=by rw [if_pos rfl] at H;exact H
                 clear H
                 have H:=H1
                 clear H1
                 obtain rfl:=Option.some.inj H
                 go_wp2
                 go_ret
                 exact ⟨by first|rfl|(simp [yK,yL] <;> rfl)|(simp [*,yK,yL] <;> rfl),by repeat (first|(with_reducible first|exact HB.out|apply yl|apply ym|apply yp|refine yu ?_ GE246.out)|exact HB.out)⟩
               · replace c18:=Bool.eq_false_iff.mpr c18
                 subst c18
                 have H1:(ye.l2 kj12 l0 l1 l0 (l0.length:Int) x20_1 ((yj l0 x20_1).f2) (((yj l0 x20_1).f2).length:Int) 0 ((yj l0 x20_1).f0) ((yj l0 x20_1).f1) ((yj l0 x20_1).f2))=some r:=by rw [if_neg (show ¬ (false=true) by decide)] at H;exact H
                 clear H
                 have H:=H1
                 clear H1
                 have H':=yc.mk H
                 clear H
                 have hcz19_0:wc.cell? ⟨gb246,0,none⟩=some (.string ((yj l0 x20_1).f0)):=(yg BK246.out 0).trans rfl
                 have hcz19_1:wc.cell? ⟨gb246,1,none⟩=some (.slice A245_1 ((yj l0 x20_1).f1).length c245_1):=(yg BK246.out 1).trans rfl
                 have hcz19_2:wc.cell? ⟨gb246,2,none⟩=some (.slice A245_2 ((yj l0 x20_1).f2).length c245_2):=(yg BK246.out 2).trans rfl
                 have hfz19_0:=yf BK246.out 0
                 have hfz19_1:=yf BK246.out 1
                 have hfz19_2:=yf BK246.out 2
                 go_wp2
                 go_loopg [58] kj12 (fun kq v58 w'=>∃ (x58_4:Int),v58=.int .i64 x58_4∧yc (ye.l2 kq l0 l1 l0 (l0.length:Int) x20_1 ((yj l0 x20_1).f2) (((yj l0 x20_1).f2).length:Int) x58_4 ((yj l0 x20_1).f0) ((yj l0 x20_1).f1) ((yj l0 x20_1).f2)=some r)∧yc (kq≤kj12)∧yc (w'.heap[gb246]?=some (.cells #[.string ((yj l0 x20_1).f0),(.slice A245_1 ((yj l0 x20_1).f1).length c245_1),(.slice A245_2 ((yj l0 x20_1).f2).length c245_2)] 71 (0,0)))∧yc (Below w.heap.size w w'))
                 case atStart=>exact ⟨(0),(by first|rfl|(simp;done)|(simp [*];done)|(simp [yn];done)),H',⟨Nat.le_refl _⟩,⟨by refine Zb ?_;exact BK246.out⟩,⟨by repeat (first|(with_reducible first|exact HB.out|apply yl|apply ym|apply yp|refine yu ?_ GE246.out)|exact HB.out)⟩⟩
                 case round=>
                  clear H'
                  try clear c1
                  try clear c2
                  try clear p2
                  try clear q2
                  try clear hx2
                  try clear c3
                  try clear c3b0
                  try clear c4
                  try clear c4b0
                  try clear c5
                  try clear c5b0
                  try clear p6
                  try clear c8
                  try clear c8b0
                  try clear c9
                  try clear c9b0
                  try clear c10
                  try clear c10b0
                  try clear c11
                  try clear c13
                  try clear c14
                  try clear c15
                  try clear c15b0
                  try clear c15b1
                  try clear c15b2
                  try clear c18
                  try clear hcz12_0
                  try clear hcz12_1
                  try clear hcz12_2
                  try clear hcz16_0
                  try clear hcz16_1
                  try clear hcz16_2
                  try clear hcz17_0
                  try clear hcz17_1
                  try clear hcz17_2
                  try clear hcz19_0
                  try clear hcz19_1
                  try clear hcz19_2
                  try clear hcz7_0
                  try clear hcz7_1
                  try clear hcz7_2
                  try clear hfz12_0
                  try clear hfz12_1
                  try clear hfz12_2
                  try clear hfz16_0
                  try clear hfz16_1
                  try clear hfz16_2
                  try clear hfz17_0
                  try clear hfz17_1
                  try clear hfz17_2
                  try clear hfz19_0
                  try clear hfz19_1
                  try clear hfz19_2
                  try clear hfz7_0
                  try clear hfz7_1
                  try clear hfz7_2
                  try clear hx245_0
                  try clear hx245_1
                  try clear hx245_2
                  try clear hx247_0
                  try clear p2
                  try clear p245
                  try clear p247
                  try clear p6
                  try clear q2
                  try clear q245
                  try clear q247
                  obtain ⟨x58_4,rfl,HA,HK4,BK246,HB⟩:=hrel
                  cases gk with
                  | zero=>exact absurd HA.out (by simp [ye.l2])
                  | succ k4=>
                   have H:=HA.out
                   clear HA
                   simp only [ye.l2] at H
                   by_cases c20:x58_4<(((yj l0 x20_1).f2).length:Int)
                   · rw [if_pos c20] at H
                     have c20b0:decide (x58_4<(((yj l0 x20_1).f2).length:Int))=true:=decide_eq_true c20
                     clear c20
                     by_cases c21:0≤x58_4
                     · rw [if_pos c21] at H
                       have c21b0:decide (0≤x58_4)=true:=decide_eq_true c21
                       clear c21
                       by_cases c22:x58_4<(((yj l0 x20_1).f2).length:Int)
                       · rw [if_pos c22] at H
                         have c22b0:decide (x58_4<(((yj l0 x20_1).f2).length:Int))=true:=decide_eq_true c22
                         clear c22
                         replace H:=Option.bind_eq_some_iff.mp H
                         obtain ⟨t249,A230,H⟩:=H
                         replace H:(ye.l3 k4 l0 l1 x58_4 (yU ByteArray.empty ((yj l0 x20_1).f2) x58_4) false l0 (l0.length:Int) x20_1 ((yj l0 x20_1).f2) (((yj l0 x20_1).f2).length:Int) x58_4 t249 (t249.length:Int) 0 ((yj l0 x20_1).f0) ((yj l0 x20_1).f1) ((yj l0 x20_1).f2))=some r:=H
                         have A23:=yc.mk A230
                         clear A230
                         have H':=yc.mk H
                         clear H
                         have p248:0≤(x58_4:Int):=of_decide_eq_true (by first|(with_reducible assumption)|assumption)
                         have q248:x58_4<(((yj l0 x20_1).f2).length:Int):=of_decide_eq_true (by first|(with_reducible assumption)|assumption)
                         obtain ⟨ad248,e248,hx248_0⟩:=Kd.YH HR245_2.out x58_4 p248 q248
                         cases e248
                         replace hx248_0:=(HB.out.cell (World.block_lt_of_cell? w _ hx248_0)).trans hx248_0
                         replace p248:=eq_true p248
                         replace q248:=eq_true q248
                         have hcz24_0:wr.cell? ⟨gb246,0,none⟩=some (.string ((yj l0 x20_1).f0)):=(yg BK246.out 0).trans rfl
                         have hcz24_1:wr.cell? ⟨gb246,1,none⟩=some (.slice A245_1 ((yj l0 x20_1).f1).length c245_1):=(yg BK246.out 1).trans rfl
                         have hcz24_2:wr.cell? ⟨gb246,2,none⟩=some (.slice (some ad248) ((yj l0 x20_1).f2).length c245_2):=(yg BK246.out 2).trans rfl
                         have hfz24_0:=yf BK246.out 0
                         have hfz24_1:=yf BK246.out 1
                         have hfz24_2:=yf BK246.out 2
                         go_wp2_with (first|((with_reducible refine yW (f:=30) rfl ?_);refine YD (some 65) rfl rfl Tryz.func30 Zk rfl #[.string ((yj l0 x20_1).f0)] rfl (by (try simp only [List.map_toArray,List.map_cons,List.map_nil]);first|done|rfl|(simp only [List.length_drop,List.length_take];rfl)) ?_;(with_reducible refine (Y3.calls ((yj l0 x20_1).f0) t249 _ A23.out).mono ?_);rintro e w25 ⟨v250,rfl,ho0,hb⟩;refine ⟨_,rfl,?_⟩;have n0_:=yc.mk (Kd.Ji ho0 (yt (Zg GE246.out)));have n1_:=yc.mk (yI (g:=gb246) (o:=.cells #[.string ((yj l0 x20_1).f0),.slice A245_1 ((yj l0 x20_1).f1).length c245_1,.slice (some ad248) ((yj l0 x20_1).f2).length c245_2] 71 (0,0)) (Zb BK246.out) hb);have n2_:=yc.mk (yw (Zg GE246.out) hb);clear BK246 HB;have HO251:=n0_;have BK246:=n1_;have HB:=n2_;clear n0_ n1_ n2_;(try clear hb);(try clear hb2);(try clear hk);(try clear hi);(try clear ho0);obtain ⟨Ao26,co26,eo26⟩:=Kd.YF HO251.out;subst eo26))
                         go_loopg [12,67] k4 (fun kq v12 v67 w'=>∃ (x12_5:Bool) (x67_5:Int),v12=.bool x12_5∧v67=.int .i64 x67_5∧yc (ye.l3 kq l0 l1 x58_4 (yU ByteArray.empty ((yj l0 x20_1).f2) x58_4) x12_5 l0 (l0.length:Int) x20_1 ((yj l0 x20_1).f2) (((yj l0 x20_1).f2).length:Int) x58_4 t249 (t249.length:Int) x67_5 ((yj l0 x20_1).f0) ((yj l0 x20_1).f1) ((yj l0 x20_1).f2)=some r)∧yc (kq≤k4)∧yc (Kd.R Kd.string 9 w' w.heap.size (fun _=>True) (.slice Ao26 t249.length co26) t249)∧yc (w'.heap[gb246]?=some (.cells #[.string ((yj l0 x20_1).f0),(.slice A245_1 ((yj l0 x20_1).f1).length c245_1),(.slice (some ad248) ((yj l0 x20_1).f2).length c245_2)] 71 (0,0)))∧yc (Below w.heap.size w w'))
                         case atStart=>exact ⟨(false),(0),(by first|rfl|(simp;done)|(simp [*];done)|(simp [yn];done)),(by first|rfl|(simp;done)|(simp [*];done)|(simp [yn];done)),H',⟨Nat.le_refl _⟩,⟨by refine Zr ?_;exact HO251.out⟩,⟨by refine Zb ?_;exact BK246.out⟩,⟨by repeat (first|(with_reducible first|exact HB.out|apply yl|apply ym|apply yp|refine yu ?_ GE246.out)|exact HB.out)⟩⟩
                         case round=>
                          clear H'
                          try clear c1
                          try clear c2
                          try clear p2
                          try clear q2
                          try clear hx2
                          try clear c3
                          try clear c3b0
                          try clear c4
                          try clear c4b0
                          try clear c5
                          try clear c5b0
                          try clear p6
                          try clear c8
                          try clear c8b0
                          try clear c9
                          try clear c9b0
                          try clear c10
                          try clear c10b0
                          try clear c11
                          try clear c13
                          try clear c14
                          try clear c15
                          try clear c15b0
                          try clear c15b1
                          try clear c15b2
                          try clear c18
                          try clear c20
                          try clear c20b0
                          try clear c21
                          try clear c21b0
                          try clear c22
                          try clear c22b0
                          try clear c24
                          try clear p24
                          try clear q24
                          try clear hx24
                          try clear hcz12_0
                          try clear hcz12_1
                          try clear hcz12_2
                          try clear hcz16_0
                          try clear hcz16_1
                          try clear hcz16_2
                          try clear hcz17_0
                          try clear hcz17_1
                          try clear hcz17_2
                          try clear hcz19_0
                          try clear hcz19_1
                          try clear hcz19_2
                          try clear hcz24_0
                          try clear hcz24_1
                          try clear hcz24_2
                          try clear hcz7_0
                          try clear hcz7_1
                          try clear hcz7_2
                          try clear hfz12_0
                          try clear hfz12_1
                          try clear hfz12_2
                          try clear hfz16_0
                          try clear hfz16_1
                          try clear hfz16_2
                          try clear hfz17_0
                          try clear hfz17_1
                          try clear hfz17_2
                          try clear hfz19_0
                          try clear hfz19_1
                          try clear hfz19_2
                          try clear hfz24_0
                          try clear hfz24_1
                          try clear hfz24_2
                          try clear hfz7_0
                          try clear hfz7_1
                          try clear hfz7_2
                          try clear hx245_0
                          try clear hx245_1
                          try clear hx245_2
                          try clear hx247_0
                          try clear hx248_0
                          try clear p2
                          try clear p245
                          try clear p247
                          try clear p248
                          try clear p6
                          try clear q2
                          try clear q245
                          try clear q247
                          try clear q248
                          obtain ⟨x12_5,x67_5,rfl,rfl,HA,HK5,HO_65,BK246,HB⟩:=hrel
                          cases gk with
                          | zero=>exact absurd HA.out (by simp [ye.l3])
                          | succ k5=>
                           have H:=HA.out
                           clear HA
                           simp only [ye.l3] at H
                           by_cases c27:x67_5<(t249.length:Int)
                           · rw [if_pos c27] at H
                             have c27b0:decide (x67_5<(t249.length:Int))=true:=decide_eq_true c27
                             clear c27
                             by_cases c28:0≤x67_5
                             · rw [if_pos c28] at H
                               have c28b0:decide (0≤x67_5)=true:=decide_eq_true c28
                               clear c28
                               by_cases c29:x67_5<(t249.length:Int)
                               · rw [if_pos c29] at H
                                 have c29b0:decide (x67_5<(t249.length:Int))=true:=decide_eq_true c29
                                 clear c29
                                 by_cases c30:x12_5=true
                                 · subst c30
                                   have H1:(ye.l3 k5 l0 l1 x58_4 (yU ByteArray.empty ((yj l0 x20_1).f2) x58_4) true l0 (l0.length:Int) x20_1 ((yj l0 x20_1).f2) (((yj l0 x20_1).f2).length:Int) x58_4 t249 (t249.length:Int) (wrap64 (x67_5+1)) ((yj l0 x20_1).f0) ((yj l0 x20_1).f1) ((yj l0 x20_1).f2))=some r:=by rw [if_pos rfl] at H;exact H
                                   clear H
                                   have H:=H1
                                   clear H1
                                   have H':=yc.mk H
                                   clear H
                                   have p252:0≤(x67_5:Int):=of_decide_eq_true (by first|(with_reducible assumption)|assumption)
                                   have q252:x67_5<(t249.length:Int):=of_decide_eq_true (by first|(with_reducible assumption)|assumption)
                                   obtain ⟨ad252,e252,hx252_0⟩:=Kd.YH (Kd.YK HO_65.out).2.2 x67_5 p252 q252
                                   cases e252
                                   replace p252:=eq_true p252
                                   replace q252:=eq_true q252
                                   go_wp2
                                   go_roundg k5
                                   case measure=>have:=HK1.out;have:=HK2.out;have:=HJ12.out;have:=HK4.out;have:=HK5.out;omega
                                   case rel=>exact ⟨(true),(wrap64 (x67_5+1)),(by first|rfl|(simp;done)|(simp [*];done)|(simp [yn];done)),(by first|rfl|(simp;done)|(simp [*];done)|(simp [yn];done)),H',⟨by have:=HK1.out;have:=HK2.out;have:=HJ12.out;have:=HK4.out;have:=HK5.out;omega⟩,⟨by refine Zr ?_;exact HO_65.out⟩,⟨by refine Zb ?_;exact BK246.out⟩,⟨by repeat (first|(with_reducible first|exact HB.out|apply yl|apply ym|apply yp|refine yu ?_ GE246.out)|exact HB.out)⟩⟩
                                 · replace c30:=Bool.eq_false_iff.mpr c30
                                   subst c30
                                   have H1:(ye.l3 k5 l0 l1 x58_4 (yU ByteArray.empty ((yj l0 x20_1).f2) x58_4) ((yU ByteArray.empty t249 x67_5).toList == (yU ByteArray.empty ((yj l0 x20_1).f2) x58_4).toList) l0 (l0.length:Int) x20_1 ((yj l0 x20_1).f2) (((yj l0 x20_1).f2).length:Int) x58_4 t249 (t249.length:Int) (wrap64 (x67_5+1)) ((yj l0 x20_1).f0) ((yj l0 x20_1).f1) ((yj l0 x20_1).f2))=some r:=by rw [if_neg (show ¬ (false=true) by decide)] at H;exact H
                                   clear H
                                   have H:=H1
                                   clear H1
                                   have H':=yc.mk H
                                   clear H
                                   have p252:0≤(x67_5:Int):=of_decide_eq_true (by first|(with_reducible assumption)|assumption)
                                   have q252:x67_5<(t249.length:Int):=of_decide_eq_true (by first|(with_reducible assumption)|assumption)
                                   obtain ⟨ad252,e252,hx252_0⟩:=Kd.YH (Kd.YK HO_65.out).2.2 x67_5 p252 q252
                                   cases e252
                                   replace p252:=eq_true p252
                                   replace q252:=eq_true q252
                                   go_wp2
                                   go_roundg k5
                                   case measure=>have:=HK1.out;have:=HK2.out;have:=HJ12.out;have:=HK4.out;have:=HK5.out;omega
                                   case rel=>exact ⟨(((yU ByteArray.empty t249 x67_5).toList == (yU ByteArray.empty ((yj l0 x20_1).f2) x58_4).toList)),(wrap64 (x67_5+1)),(by first|rfl|(simp;done)|(simp [*];done)|(simp [yn];done)),(by first|rfl|(simp;done)|(simp [*];done)|(simp [yn];done)),H',⟨by have:=HK1.out;have:=HK2.out;have:=HJ12.out;have:=HK4.out;have:=HK5.out;omega⟩,⟨by refine Zr ?_;exact HO_65.out⟩,⟨by refine Zb ?_;exact BK246.out⟩,⟨by repeat (first|(with_reducible first|exact HB.out|apply yl|apply ym|apply yp|refine yu ?_ GE246.out)|exact HB.out)⟩⟩
                               · rw [if_neg c29] at H
                                 exact absurd H (by simp)
                             · rw [if_neg c28] at H
                               exact absurd H (by simp)
                           · rw [if_neg c27] at H
                             have c27b0:decide (x67_5<(t249.length:Int))=false:=decide_eq_false c27
                             clear c27
                             by_cases c31:0≤x58_4
                             · rw [if_pos c31] at H
                               have c31b0:=eq_true c31
                               have c31b1:decide (0≤x58_4)=true:=decide_eq_true c31
                               clear c31
                               by_cases c32:x58_4≤(((yj l0 x20_1).f2).length:Int)
                               · rw [if_pos c32] at H
                                 have c32b0:=eq_true c32
                                 have c32b1:decide (x58_4≤(((yj l0 x20_1).f2).length:Int))=true:=decide_eq_true c32
                                 clear c32
                                 have H':=yc.mk H
                                 clear H
                                 have hcz33_0:wr.cell? ⟨gb246,0,none⟩=some (.string ((yj l0 x20_1).f0)):=(yg BK246.out 0).trans rfl
                                 have hcz33_1:wr.cell? ⟨gb246,1,none⟩=some (.slice A245_1 ((yj l0 x20_1).f1).length c245_1):=(yg BK246.out 1).trans rfl
                                 have hcz33_2:wr.cell? ⟨gb246,2,none⟩=some (.slice (some ad248) ((yj l0 x20_1).f2).length c245_2):=(yg BK246.out 2).trans rfl
                                 have hfz33_0:=yf BK246.out 0
                                 have hfz33_1:=yf BK246.out 1
                                 have hfz33_2:=yf BK246.out 2
                                 obtain ⟨i034,hi034,_,hsz34,_⟩:=info_parts ybP
                                 obtain ⟨hcut34,hA34,hC34⟩:=ydK (P:=Tryz.prog) Value.string (⟨#[]⟩:ByteArray) 46 9 .i64 Tryz.underlying46 hi034 hsz34 (some ad248) c245_2 ((yj l0 x20_1).f2) x58_4 (of_decide_eq_true (by first|(with_reducible assumption)|assumption)) (of_decide_eq_true (by first|(with_reducible assumption)|assumption)) HC245_2.out
                                 have HR253:=yc.mk (Kd.C_of_reads (h1:=fun _=>rfl) (hA34 _ (Kd.ybx HR245_2.out)))
                                 have HC253:=yc.mk hC34
                                 clear hA34 hC34 hi034 hsz34
                                 go_wp2
                                 have HTK:yc (max x58_4 0=((((yj l0 x20_1).f2).take (x58_4:Int).toNat).length:Int)):=⟨by have h1:=of_decide_eq_true c31b1;have h2:=of_decide_eq_true c32b1;rw [List.length_take];omega⟩
                                 go_loopg [12,83] k5 (fun kq v12 v83 w'=>∃ (x12_6:Bool) (x83_6:Int),v12=.bool x12_6∧v83=.int .i64 x83_6∧yc (ye.l4 kq l0 l1 x58_4 (yU ByteArray.empty ((yj l0 x20_1).f2) x58_4) x12_6 l0 (l0.length:Int) x20_1 ((yj l0 x20_1).f2) (((yj l0 x20_1).f2).length:Int) x58_4 (((yj l0 x20_1).f2).take (x58_4:Int).toNat) ((((yj l0 x20_1).f2).take (x58_4:Int).toNat).length:Int) x83_6 ((yj l0 x20_1).f0) ((yj l0 x20_1).f1) ((yj l0 x20_1).f2)=some r)∧yc (kq≤k5)∧yc (w'.heap[gb246]?=some (.cells #[.string ((yj l0 x20_1).f0),(.slice A245_1 ((yj l0 x20_1).f1).length c245_1),(.slice (some ad248) ((yj l0 x20_1).f2).length c245_2)] 71 (0,0)))∧yc (Below w.heap.size w w'))
                                 case atStart=>exact ⟨(x12_5),(0),(by first|rfl|(simp;done)|(simp [*];done)|(simp [yn];done)),(by first|rfl|(simp;done)|(simp [*];done)|(simp [yn];done)),H',⟨Nat.le_refl _⟩,⟨by refine Zb ?_;exact BK246.out⟩,⟨by repeat (first|(with_reducible first|exact HB.out|apply yl|apply ym|apply yp|refine yu ?_ GE246.out)|exact HB.out)⟩⟩
                                 case round=>
                                  clear H'
                                  try clear c1
                                  try clear c2
                                  try clear p2
                                  try clear q2
                                  try clear hx2
                                  try clear c3
                                  try clear c3b0
                                  try clear c4
                                  try clear c4b0
                                  try clear c5
                                  try clear c5b0
                                  try clear p6
                                  try clear c8
                                  try clear c8b0
                                  try clear c9
                                  try clear c9b0
                                  try clear c10
                                  try clear c10b0
                                  try clear c11
                                  try clear c13
                                  try clear c14
                                  try clear c15
                                  try clear c15b0
                                  try clear c15b1
                                  try clear c15b2
                                  try clear c18
                                  try clear c20
                                  try clear c20b0
                                  try clear c21
                                  try clear c21b0
                                  try clear c22
                                  try clear c22b0
                                  try clear c24
                                  try clear p24
                                  try clear q24
                                  try clear hx24
                                  try clear p25
                                  try clear q25
                                  try clear hx25
                                  try clear c27
                                  try clear c27b0
                                  try clear c28
                                  try clear c28b0
                                  try clear c29
                                  try clear c29b0
                                  try clear c30
                                  try clear c31
                                  try clear c31b0
                                  try clear c31b1
                                  try clear c32
                                  try clear c32b0
                                  try clear c32b1
                                  try clear hcz12_0
                                  try clear hcz12_1
                                  try clear hcz12_2
                                  try clear hcz16_0
                                  try clear hcz16_1
                                  try clear hcz16_2
                                  try clear hcz17_0
                                  try clear hcz17_1
                                  try clear hcz17_2
                                  try clear hcz19_0
                                  try clear hcz19_1
                                  try clear hcz19_2
                                  try clear hcz24_0
                                  try clear hcz24_1
                                  try clear hcz24_2
                                  try clear hcz33_0
                                  try clear hcz33_1
                                  try clear hcz33_2
                                  try clear hcz7_0
                                  try clear hcz7_1
                                  try clear hcz7_2
                                  try clear hfz12_0
                                  try clear hfz12_1
                                  try clear hfz12_2
                                  try clear hfz16_0
                                  try clear hfz16_1
                                  try clear hfz16_2
                                  try clear hfz17_0
                                  try clear hfz17_1
                                  try clear hfz17_2
                                  try clear hfz19_0
                                  try clear hfz19_1
                                  try clear hfz19_2
                                  try clear hfz24_0
                                  try clear hfz24_1
                                  try clear hfz24_2
                                  try clear hfz33_0
                                  try clear hfz33_1
                                  try clear hfz33_2
                                  try clear hfz7_0
                                  try clear hfz7_1
                                  try clear hfz7_2
                                  try clear hx245_0
                                  try clear hx245_1
                                  try clear hx245_2
                                  try clear hx247_0
                                  try clear hx248_0
                                  try clear hx252_0
                                  try clear p2
                                  try clear p24
                                  try clear p245
                                  try clear p247
                                  try clear p248
                                  try clear p252
                                  try clear p6
                                  try clear q2
                                  try clear q24
                                  try clear q245
                                  try clear q247
                                  try clear q248
                                  try clear q252
                                  obtain ⟨x12_6,x83_6,rfl,rfl,HA,HK6,BK246,HB⟩:=hrel
                                  cases gk with
                                  | zero=>exact absurd HA.out (by simp [ye.l4])
                                  | succ k6=>
                                   have H:=HA.out
                                   clear HA
                                   simp only [ye.l4] at H
                                   by_cases c35:x83_6<((((yj l0 x20_1).f2).take (x58_4:Int).toNat).length:Int)
                                   · rw [if_pos c35] at H
                                     have c35b0:decide (x83_6<((((yj l0 x20_1).f2).take (x58_4:Int).toNat).length:Int))=true:=decide_eq_true c35
                                     clear c35
                                     by_cases c36:0≤x83_6
                                     · rw [if_pos c36] at H
                                       have c36b0:decide (0≤x83_6)=true:=decide_eq_true c36
                                       clear c36
                                       by_cases c37:x83_6<((((yj l0 x20_1).f2).take (x58_4:Int).toNat).length:Int)
                                       · rw [if_pos c37] at H
                                         have c37b0:decide (x83_6<((((yj l0 x20_1).f2).take (x58_4:Int).toNat).length:Int))=true:=decide_eq_true c37
                                         clear c37
                                         by_cases c38:x12_6=true
                                         · subst c38
                                           have H1:(ye.l4 k6 l0 l1 x58_4 (yU ByteArray.empty ((yj l0 x20_1).f2) x58_4) ((yU ByteArray.empty (((yj l0 x20_1).f2).take (x58_4:Int).toNat) x83_6).toList != (yU ByteArray.empty ((yj l0 x20_1).f2) x58_4).toList) l0 (l0.length:Int) x20_1 ((yj l0 x20_1).f2) (((yj l0 x20_1).f2).length:Int) x58_4 (((yj l0 x20_1).f2).take (x58_4:Int).toNat) ((((yj l0 x20_1).f2).take (x58_4:Int).toNat).length:Int) (wrap64 (x83_6+1)) ((yj l0 x20_1).f0) ((yj l0 x20_1).f1) ((yj l0 x20_1).f2))=some r:=by rw [if_pos rfl] at H;exact H
                                           clear H
                                           have H:=H1
                                           clear H1
                                           have H':=yc.mk H
                                           clear H
                                           have p254:0≤(x83_6:Int):=of_decide_eq_true (by first|(with_reducible assumption)|assumption)
                                           have q254:x83_6<((((yj l0 x20_1).f2).take (x58_4:Int).toNat).length:Int):=of_decide_eq_true (by first|(with_reducible assumption)|assumption)
                                           obtain ⟨ad254,e254,hx254_0⟩:=Kd.YH HR253.out x83_6 p254 q254
                                           obtain rfl:ad248=ad254:=(by injection e254)
                                           replace hx254_0:=(HB.out.cell (World.block_lt_of_cell? w _ hx254_0)).trans hx254_0
                                           replace p254:=eq_true p254
                                           replace q254:=eq_true q254
                                           have ctk:decide (x83_6<max x58_4 0)=true:=by rw [HTK.out];exact c37b0
                                           have ctk2:(x83_6<max x58_4 0)=True:=eq_true (of_decide_eq_true ctk)
                                           go_wp2
                                           go_roundg k6
                                           case measure=>have:=HK1.out;have:=HK2.out;have:=HJ12.out;have:=HK4.out;have:=HK5.out;have:=HK6.out;omega
                                           case rel=>exact ⟨(((yU ByteArray.empty (((yj l0 x20_1).f2).take (x58_4:Int).toNat) x83_6).toList != (yU ByteArray.empty ((yj l0 x20_1).f2) x58_4).toList)),(wrap64 (x83_6+1)),(by first|rfl|(simp;done)|(simp [*];done)|(simp [yn];done)),(by first|rfl|(simp;done)|(simp [*];done)|(simp [yn];done)),H',⟨by have:=HK1.out;have:=HK2.out;have:=HJ12.out;have:=HK4.out;have:=HK5.out;have:=HK6.out;omega⟩,⟨by refine Zb ?_;exact BK246.out⟩,⟨by repeat (first|(with_reducible first|exact HB.out|apply yl|apply ym|apply yp|refine yu ?_ GE246.out)|exact HB.out)⟩⟩
                                         · replace c38:=Bool.eq_false_iff.mpr c38
                                           subst c38
                                           have H1:(ye.l4 k6 l0 l1 x58_4 (yU ByteArray.empty ((yj l0 x20_1).f2) x58_4) false l0 (l0.length:Int) x20_1 ((yj l0 x20_1).f2) (((yj l0 x20_1).f2).length:Int) x58_4 (((yj l0 x20_1).f2).take (x58_4:Int).toNat) ((((yj l0 x20_1).f2).take (x58_4:Int).toNat).length:Int) (wrap64 (x83_6+1)) ((yj l0 x20_1).f0) ((yj l0 x20_1).f1) ((yj l0 x20_1).f2))=some r:=by rw [if_neg (show ¬ (false=true) by decide)] at H;exact H
                                           clear H
                                           have H:=H1
                                           clear H1
                                           have H':=yc.mk H
                                           clear H
                                           have p254:0≤(x83_6:Int):=of_decide_eq_true (by first|(with_reducible assumption)|assumption)
                                           have q254:x83_6<((((yj l0 x20_1).f2).take (x58_4:Int).toNat).length:Int):=of_decide_eq_true (by first|(with_reducible assumption)|assumption)
                                           obtain ⟨ad254,e254,hx254_0⟩:=Kd.YH HR253.out x83_6 p254 q254
                                           obtain rfl:ad248=ad254:=(by injection e254)
                                           replace hx254_0:=(HB.out.cell (World.block_lt_of_cell? w _ hx254_0)).trans hx254_0
                                           replace p254:=eq_true p254
                                           replace q254:=eq_true q254
                                           have ctk:decide (x83_6<max x58_4 0)=true:=by rw [HTK.out];exact c37b0
                                           have ctk2:(x83_6<max x58_4 0)=True:=eq_true (of_decide_eq_true ctk)
                                           go_wp2
                                           go_roundg k6
                                           case measure=>have:=HK1.out;have:=HK2.out;have:=HJ12.out;have:=HK4.out;have:=HK5.out;have:=HK6.out;omega
                                           case rel=>exact ⟨(false),(wrap64 (x83_6+1)),(by first|rfl|(simp;done)|(simp [*];done)|(simp [yn];done)),(by first|rfl|(simp;done)|(simp [*];done)|(simp [yn];done)),H',⟨by have:=HK1.out;have:=HK2.out;have:=HJ12.out;have:=HK4.out;have:=HK5.out;have:=HK6.out;omega⟩,⟨by refine Zb ?_;exact BK246.out⟩,⟨by repeat (first|(with_reducible first|exact HB.out|apply yl|apply ym|apply yp|refine yu ?_ GE246.out)|exact HB.out)⟩⟩
                                       · rw [if_neg c37] at H
                                         exact absurd H (by simp)
                                     · rw [if_neg c36] at H
                                       exact absurd H (by simp)
                                   · rw [if_neg c35] at H
                                     have c35b0:decide (x83_6<((((yj l0 x20_1).f2).take (x58_4:Int).toNat).length:Int))=false:=decide_eq_false c35
                                     clear c35
                                     by_cases c39:0≤x58_4
                                     · rw [if_pos c39] at H
                                       have c39b0:decide (0≤x58_4)=true:=decide_eq_true c39
                                       clear c39
                                       by_cases c40:x58_4<(((yj l0 x20_1).f1).length:Int)
                                       · rw [if_pos c40] at H
                                         have c40b0:decide (x58_4<(((yj l0 x20_1).f1).length:Int))=true:=decide_eq_true c40
                                         clear c40
                                         have HC41:=yc.mk H
                                         clear H
                                         have hcz42_0:wr.cell? ⟨gb246,0,none⟩=some (.string ((yj l0 x20_1).f0)):=(yg BK246.out 0).trans rfl
                                         have hcz42_1:wr.cell? ⟨gb246,1,none⟩=some (.slice A245_1 ((yj l0 x20_1).f1).length c245_1):=(yg BK246.out 1).trans rfl
                                         have hcz42_2:wr.cell? ⟨gb246,2,none⟩=some (.slice (some ad248) ((yj l0 x20_1).f2).length c245_2):=(yg BK246.out 2).trans rfl
                                         have hfz42_0:=yf BK246.out 0
                                         have hfz42_1:=yf BK246.out 1
                                         have hfz42_2:=yf BK246.out 2
                                         have p255:0≤(x58_4:Int):=of_decide_eq_true (by first|(with_reducible assumption)|assumption)
                                         have q255:x58_4<(((yj l0 x20_1).f1).length:Int):=of_decide_eq_true (by first|(with_reducible assumption)|assumption)
                                         obtain ⟨ad255,e255,hx255_0⟩:=Kd.at_int HR245_1.out x58_4 p255 q255
                                         cases e255
                                         replace hx255_0:=(HB.out.cell (World.block_lt_of_cell? w _ hx255_0)).trans hx255_0
                                         replace p255:=eq_true p255
                                         replace q255:=eq_true q255
                                         have ctk:decide (x83_6<max x58_4 0)=false:=by rw [HTK.out];exact c35b0
                                         go_upto_region 27 with (fail)
                                         go_cut [118] (fun v118 wc=>∃ (kq:Nat) (x118_40:Bool),v118=.bool x118_40∧yc (ye.j6 kq l0 l1 l0 (l0.length:Int) x20_1 ((yj l0 x20_1).f2) (((yj l0 x20_1).f2).length:Int) x58_4 x118_40 ((yj l0 x20_1).f0) ((yj l0 x20_1).f1) ((yj l0 x20_1).f2)=some r)∧yc (kq≤k6)∧yc (wc.heap[gb246]?=some (.cells #[.string ((yj l0 x20_1).f0),(.slice (some ad255) ((yj l0 x20_1).f1).length c245_1),(.slice (some ad248) ((yj l0 x20_1).f2).length c245_2)] 71 (0,0)))∧yc (Below w.heap.size w wc))
                                         case first=>
                                          have H:=HC41.out
                                          clear HC41
                                          by_cases c43:x12_6=true
                                          · subst c43
                                            have H1:(if ((yj l0 x20_1).f0).toList=([84,99,112,69,120,116]:List UInt8) then ((Yq.f k6 (yU ByteArray.empty ((yj l0 x20_1).f2) x58_4)).bind fun t256=>(if t256=true then (ye.j6 k6 l0 l1 l0 (l0.length:Int) x20_1 ((yj l0 x20_1).f2) (((yj l0 x20_1).f2).length:Int) x58_4 true ((yj l0 x20_1).f0) ((yj l0 x20_1).f1) ((yj l0 x20_1).f2)) else (if (wrap64 (rd ((yj l0 x20_1).f1) x58_4)) > 9007199254740992 then (ye.j6 k6 l0 l1 l0 (l0.length:Int) x20_1 ((yj l0 x20_1).f2) (((yj l0 x20_1).f2).length:Int) x58_4 true ((yj l0 x20_1).f0) ((yj l0 x20_1).f1) ((yj l0 x20_1).f2)) else (ye.j6 k6 l0 l1 l0 (l0.length:Int) x20_1 ((yj l0 x20_1).f2) (((yj l0 x20_1).f2).length:Int) x58_4 (decide ((wrap64 (rd ((yj l0 x20_1).f1) x58_4))<(-9007199254740992))) ((yj l0 x20_1).f0) ((yj l0 x20_1).f1) ((yj l0 x20_1).f2))))) else (if (wrap64 (rd ((yj l0 x20_1).f1) x58_4)) > 9007199254740992 then (ye.j6 k6 l0 l1 l0 (l0.length:Int) x20_1 ((yj l0 x20_1).f2) (((yj l0 x20_1).f2).length:Int) x58_4 true ((yj l0 x20_1).f0) ((yj l0 x20_1).f1) ((yj l0 x20_1).f2)) else (ye.j6 k6 l0 l1 l0 (l0.length:Int) x20_1 ((yj l0 x20_1).f2) (((yj l0 x20_1).f2).length:Int) x58_4 (decide ((wrap64 (rd ((yj l0 x20_1).f1) x58_4))<(-9007199254740992))) ((yj l0 x20_1).f0) ((yj l0 x20_1).f1) ((yj l0 x20_1).f2))))=some r:=by rw [if_pos rfl] at H;exact H
                                            clear H
                                            have H:=H1
                                            clear H1
                                            by_cases c44:((yj l0 x20_1).f0).toList=([84,99,112,69,120,116]:List UInt8)
                                            · rw [if_pos c44] at H
                                              have c44b0:(((yj l0 x20_1).f0).toList == ([84,99,112,69,120,116]:List UInt8))=true:=beq_iff_eq.mpr c44
                                              have c44b1:(((yj l0 x20_1).f0).toList != ([84,99,112,69,120,116]:List UInt8))=false:=bne_eq_false_iff_eq.mpr c44
                                              clear c44
                                              (first|rw [c44b0]|(simp only [yM,yP];rw [c44b0])|skip)
                                              replace H:=Option.bind_eq_some_iff.mp H
                                              obtain ⟨t256,A450,H⟩:=H
                                              replace H:(if t256=true then (ye.j6 k6 l0 l1 l0 (l0.length:Int) x20_1 ((yj l0 x20_1).f2) (((yj l0 x20_1).f2).length:Int) x58_4 true ((yj l0 x20_1).f0) ((yj l0 x20_1).f1) ((yj l0 x20_1).f2)) else (if (wrap64 (rd ((yj l0 x20_1).f1) x58_4)) > 9007199254740992 then (ye.j6 k6 l0 l1 l0 (l0.length:Int) x20_1 ((yj l0 x20_1).f2) (((yj l0 x20_1).f2).length:Int) x58_4 true ((yj l0 x20_1).f0) ((yj l0 x20_1).f1) ((yj l0 x20_1).f2)) else (ye.j6 k6 l0 l1 l0 (l0.length:Int) x20_1 ((yj l0 x20_1).f2) (((yj l0 x20_1).f2).length:Int) x58_4 (decide ((wrap64 (rd ((yj l0 x20_1).f1) x58_4))<(-9007199254740992))) ((yj l0 x20_1).f0) ((yj l0 x20_1).f1) ((yj l0 x20_1).f2))))=some r:=H
                                              have A45:=yc.mk A450
                                              clear A450
                                              by_cases c46:t256=true
                                              · subst c46
                                                have H1:(ye.j6 k6 l0 l1 l0 (l0.length:Int) x20_1 ((yj l0 x20_1).f2) (((yj l0 x20_1).f2).length:Int) x58_4 true ((yj l0 x20_1).f0) ((yj l0 x20_1).f1) ((yj l0 x20_1).f2))=some r:=by rw [if_pos rfl] at H;exact H
                                                clear H
                                                have H:=H1
                                                clear H1
                                                have H':=yc.mk H
                                                clear H
                                                have hcz47_0:wr.cell? ⟨gb246,0,none⟩=some (.string ((yj l0 x20_1).f0)):=(yg BK246.out 0).trans rfl
                                                have hcz47_1:wr.cell? ⟨gb246,1,none⟩=some (.slice (some ad255) ((yj l0 x20_1).f1).length c245_1):=(yg BK246.out 1).trans rfl
                                                have hcz47_2:wr.cell? ⟨gb246,2,none⟩=some (.slice (some ad248) ((yj l0 x20_1).f2).length c245_2):=(yg BK246.out 2).trans rfl
                                                have hfz47_0:=yf BK246.out 0
                                                have hfz47_1:=yf BK246.out 1
                                                have hfz47_2:=yf BK246.out 2
                                                go_wp2_with (first|(go_at_call 31;(with_reducible refine (Yq.calls k6 (yU ByteArray.empty ((yj l0 x20_1).f2) x58_4) true _ A45.out).mono ?_);rintro e w48 ⟨rfl,hb⟩;have n0_:=yc.mk (yI (g:=gb246) (o:=.cells #[.string ((yj l0 x20_1).f0),.slice (some ad255) ((yj l0 x20_1).f1).length c245_1,.slice (some ad248) ((yj l0 x20_1).f2).length c245_2] 71 (0,0)) (Zb BK246.out) hb);have n1_:=yc.mk (yw (Zg GE246.out) hb);clear BK246 HB;have BK246:=n0_;have HB:=n1_;clear n0_ n1_;(try clear hb);(try clear hb2);(try clear hk);(try clear hi)))
                                                go_meet
                                                case rel=>exact ⟨_,(true),(by first|rfl|(simp;done)|(simp [*];done)|(simp [yn];done)),H',⟨by have:=HK1.out;have:=HK2.out;have:=HJ12.out;have:=HK4.out;have:=HK5.out;have:=HK6.out;first|omega|exact Nat.le_refl _⟩,⟨by refine Zb ?_;exact BK246.out⟩,⟨by repeat (first|(with_reducible first|exact HB.out|apply yl|apply ym|apply yp|refine yu ?_ GE246.out)|exact HB.out)⟩⟩
                                              · replace c46:=Bool.eq_false_iff.mpr c46
                                                subst c46
                                                have H1:(if (wrap64 (rd ((yj l0 x20_1).f1) x58_4)) > 9007199254740992 then (ye.j6 k6 l0 l1 l0 (l0.length:Int) x20_1 ((yj l0 x20_1).f2) (((yj l0 x20_1).f2).length:Int) x58_4 true ((yj l0 x20_1).f0) ((yj l0 x20_1).f1) ((yj l0 x20_1).f2)) else (ye.j6 k6 l0 l1 l0 (l0.length:Int) x20_1 ((yj l0 x20_1).f2) (((yj l0 x20_1).f2).length:Int) x58_4 (decide ((wrap64 (rd ((yj l0 x20_1).f1) x58_4))<(-9007199254740992))) ((yj l0 x20_1).f0) ((yj l0 x20_1).f1) ((yj l0 x20_1).f2)))=some r:=by rw [if_neg (show ¬ (false=true) by decide)] at H;exact H
                                                clear H
                                                have H:=H1
                                                clear H1
                                                by_cases c49:(wrap64 (rd ((yj l0 x20_1).f1) x58_4)) > 9007199254740992
                                                · rw [if_pos c49] at H
                                                  have c49b0:decide (9007199254740992<(wrap64 (rd ((yj l0 x20_1).f1) x58_4)))=true:=decide_eq_true c49
                                                  clear c49
                                                  have H':=yc.mk H
                                                  clear H
                                                  have hcz50_0:wr.cell? ⟨gb246,0,none⟩=some (.string ((yj l0 x20_1).f0)):=(yg BK246.out 0).trans rfl
                                                  have hcz50_1:wr.cell? ⟨gb246,1,none⟩=some (.slice (some ad255) ((yj l0 x20_1).f1).length c245_1):=(yg BK246.out 1).trans rfl
                                                  have hcz50_2:wr.cell? ⟨gb246,2,none⟩=some (.slice (some ad248) ((yj l0 x20_1).f2).length c245_2):=(yg BK246.out 2).trans rfl
                                                  have hfz50_0:=yf BK246.out 0
                                                  have hfz50_1:=yf BK246.out 1
                                                  have hfz50_2:=yf BK246.out 2
                                                  go_wp2_with (first|(go_at_call 31;(with_reducible refine (Yq.calls k6 (yU ByteArray.empty ((yj l0 x20_1).f2) x58_4) false _ A45.out).mono ?_);rintro e w51 ⟨rfl,hb⟩;have n0_:=yc.mk (yI (g:=gb246) (o:=.cells #[.string ((yj l0 x20_1).f0),.slice (some ad255) ((yj l0 x20_1).f1).length c245_1,.slice (some ad248) ((yj l0 x20_1).f2).length c245_2] 71 (0,0)) (Zb BK246.out) hb);have n1_:=yc.mk (yw (Zg GE246.out) hb);clear BK246 HB;have BK246:=n0_;have HB:=n1_;clear n0_ n1_;(try clear hb);(try clear hb2);(try clear hk);(try clear hi)))
                                                  go_meet
                                                  case rel=>exact ⟨_,(true),(by first|rfl|(simp;done)|(simp [*];done)|(simp [yn];done)),H',⟨by have:=HK1.out;have:=HK2.out;have:=HJ12.out;have:=HK4.out;have:=HK5.out;have:=HK6.out;first|omega|exact Nat.le_refl _⟩,⟨by refine Zb ?_;exact BK246.out⟩,⟨by repeat (first|(with_reducible first|exact HB.out|apply yl|apply ym|apply yp|refine yu ?_ GE246.out)|exact HB.out)⟩⟩
                                                · rw [if_neg c49] at H
                                                  have c49b0:decide (9007199254740992<(wrap64 (rd ((yj l0 x20_1).f1) x58_4)))=false:=decide_eq_false c49
                                                  clear c49
                                                  have H':=yc.mk H
                                                  clear H
                                                  have hcz52_0:wr.cell? ⟨gb246,0,none⟩=some (.string ((yj l0 x20_1).f0)):=(yg BK246.out 0).trans rfl
                                                  have hcz52_1:wr.cell? ⟨gb246,1,none⟩=some (.slice (some ad255) ((yj l0 x20_1).f1).length c245_1):=(yg BK246.out 1).trans rfl
                                                  have hcz52_2:wr.cell? ⟨gb246,2,none⟩=some (.slice (some ad248) ((yj l0 x20_1).f2).length c245_2):=(yg BK246.out 2).trans rfl
                                                  have hfz52_0:=yf BK246.out 0
                                                  have hfz52_1:=yf BK246.out 1
                                                  have hfz52_2:=yf BK246.out 2
                                                  go_wp2_with (first|(go_at_call 31;(with_reducible refine (Yq.calls k6 (yU ByteArray.empty ((yj l0 x20_1).f2) x58_4) false _ A45.out).mono ?_);rintro e w53 ⟨rfl,hb⟩;have n0_:=yc.mk (yI (g:=gb246) (o:=.cells #[.string ((yj l0 x20_1).f0),.slice (some ad255) ((yj l0 x20_1).f1).length c245_1,.slice (some ad248) ((yj l0 x20_1).f2).length c245_2] 71 (0,0)) (Zb BK246.out) hb);have n1_:=yc.mk (yw (Zg GE246.out) hb);clear BK246 HB;have BK246:=n0_;have HB:=n1_;clear n0_ n1_;(try clear hb);(try clear hb2);(try clear hk);(try clear hi)))
                                                  go_meet
                                                  case rel=>exact ⟨_,(decide ((wrap64 (rd ((yj l0 x20_1).f1) x58_4))<(-9007199254740992))),(by first|rfl|(simp;done)|(simp [*];done)|(simp [yn];done)),H',⟨by have:=HK1.out;have:=HK2.out;have:=HJ12.out;have:=HK4.out;have:=HK5.out;have:=HK6.out;first|omega|exact Nat.le_refl _⟩,⟨by refine Zb ?_;exact BK246.out⟩,⟨by repeat (first|(with_reducible first|exact HB.out|apply yl|apply ym|apply yp|refine yu ?_ GE246.out)|exact HB.out)⟩⟩
                                            · rw [if_neg c44] at H
                                              have c44b0:(((yj l0 x20_1).f0).toList == ([84,99,112,69,120,116]:List UInt8))=false:=beq_eq_false_iff_ne.mpr c44
                                              have c44b1:(((yj l0 x20_1).f0).toList != ([84,99,112,69,120,116]:List UInt8))=true:=bne_iff_ne.mpr c44
                                              (first|rw [c44b0]|(simp only [yM,yP];rw [c44b0])|skip)
                                              by_cases c54:(wrap64 (rd ((yj l0 x20_1).f1) x58_4)) > 9007199254740992
                                              · rw [if_pos c54] at H
                                                have c54b0:decide (9007199254740992<(wrap64 (rd ((yj l0 x20_1).f1) x58_4)))=true:=decide_eq_true c54
                                                clear c54
                                                have H':=yc.mk H
                                                clear H
                                                have hcz55_0:wr.cell? ⟨gb246,0,none⟩=some (.string ((yj l0 x20_1).f0)):=(yg BK246.out 0).trans rfl
                                                have hcz55_1:wr.cell? ⟨gb246,1,none⟩=some (.slice (some ad255) ((yj l0 x20_1).f1).length c245_1):=(yg BK246.out 1).trans rfl
                                                have hcz55_2:wr.cell? ⟨gb246,2,none⟩=some (.slice (some ad248) ((yj l0 x20_1).f2).length c245_2):=(yg BK246.out 2).trans rfl
                                                have hfz55_0:=yf BK246.out 0
                                                have hfz55_1:=yf BK246.out 1
                                                have hfz55_2:=yf BK246.out 2
                                                go_wp2
                                                go_meet
                                                case rel=>exact ⟨_,(true),(by first|rfl|(simp;done)|(simp [*];done)|(simp [yn];done)),H',⟨by have:=HK1.out;have:=HK2.out;have:=HJ12.out;have:=HK4.out;have:=HK5.out;have:=HK6.out;first|omega|exact Nat.le_refl _⟩,⟨by refine Zb ?_;exact BK246.out⟩,⟨by repeat (first|(with_reducible first|exact HB.out|apply yl|apply ym|apply yp|refine yu ?_ GE246.out)|exact HB.out)⟩⟩
                                              · rw [if_neg c54] at H
                                                have c54b0:decide (9007199254740992<(wrap64 (rd ((yj l0 x20_1).f1) x58_4)))=false:=decide_eq_false c54
                                                clear c54
                                                have H':=yc.mk H
                                                clear H
                                                have hcz56_0:wr.cell? ⟨gb246,0,none⟩=some (.string ((yj l0 x20_1).f0)):=(yg BK246.out 0).trans rfl
                                                have hcz56_1:wr.cell? ⟨gb246,1,none⟩=some (.slice (some ad255) ((yj l0 x20_1).f1).length c245_1):=(yg BK246.out 1).trans rfl
                                                have hcz56_2:wr.cell? ⟨gb246,2,none⟩=some (.slice (some ad248) ((yj l0 x20_1).f2).length c245_2):=(yg BK246.out 2).trans rfl
                                                have hfz56_0:=yf BK246.out 0
                                                have hfz56_1:=yf BK246.out 1
                                                have hfz56_2:=yf BK246.out 2
                                                go_wp2
                                                go_meet
                                                case rel=>exact ⟨_,(decide ((wrap64 (rd ((yj l0 x20_1).f1) x58_4))<(-9007199254740992))),(by first|rfl|(simp;done)|(simp [*];done)|(simp [yn];done)),H',⟨by have:=HK1.out;have:=HK2.out;have:=HJ12.out;have:=HK4.out;have:=HK5.out;have:=HK6.out;first|omega|exact Nat.le_refl _⟩,⟨by refine Zb ?_;exact BK246.out⟩,⟨by repeat (first|(with_reducible first|exact HB.out|apply yl|apply ym|apply yp|refine yu ?_ GE246.out)|exact HB.out)⟩⟩
                                          · replace c43:=Bool.eq_false_iff.mpr c43
                                            subst c43
                                            have H1:(ye.j6 k6 l0 l1 l0 (l0.length:Int) x20_1 ((yj l0 x20_1).f2) (((yj l0 x20_1).f2).length:Int) x58_4 true ((yj l0 x20_1).f0) ((yj l0 x20_1).f1) ((yj l0 x20_1).f2))=some r:=by rw [if_neg (show ¬ (false=true) by decide)] at H;exact H
                                            clear H
                                            have H:=H1
                                            clear H1
                                            have H':=yc.mk H
                                            clear H
                                            go_wp2
                                            go_meet
                                            case rel=>exact ⟨_,(true),(by first|rfl|(simp;done)|(simp [*];done)|(simp [yn];done)),H',⟨by have:=HK1.out;have:=HK2.out;have:=HJ12.out;have:=HK4.out;have:=HK5.out;have:=HK6.out;first|omega|exact Nat.le_refl _⟩,⟨by refine Zb ?_;exact BK246.out⟩,⟨by repeat (first|(with_reducible first|exact HB.out|apply yl|apply ym|apply yp|refine yu ?_ GE246.out)|exact HB.out)⟩⟩
                                         case rest=>
                                          clear HC41
                                          try clear c1
                                          try clear c2
                                          try clear p2
                                          try clear q2
                                          try clear hx2
                                          try clear c3
                                          try clear c3b0
                                          try clear c4
                                          try clear c4b0
                                          try clear c5
                                          try clear c5b0
                                          try clear p6
                                          try clear c8
                                          try clear c8b0
                                          try clear c9
                                          try clear c9b0
                                          try clear c10
                                          try clear c10b0
                                          try clear c11
                                          try clear c13
                                          try clear c14
                                          try clear c15
                                          try clear c15b0
                                          try clear c15b1
                                          try clear c15b2
                                          try clear c18
                                          try clear c20
                                          try clear c20b0
                                          try clear c21
                                          try clear c21b0
                                          try clear c22
                                          try clear c22b0
                                          try clear c24
                                          try clear p24
                                          try clear q24
                                          try clear hx24
                                          try clear p25
                                          try clear q25
                                          try clear hx25
                                          try clear c27
                                          try clear c27b0
                                          try clear c28
                                          try clear c28b0
                                          try clear c29
                                          try clear c29b0
                                          try clear c30
                                          try clear c31
                                          try clear c31b0
                                          try clear c31b1
                                          try clear c32
                                          try clear c32b0
                                          try clear c32b1
                                          try clear c35
                                          try clear c35b0
                                          try clear c36
                                          try clear c36b0
                                          try clear c37
                                          try clear c37b0
                                          try clear c38
                                          try clear c39
                                          try clear c39b0
                                          try clear c40
                                          try clear c40b0
                                          try clear c43
                                          try clear c44
                                          try clear c44b0
                                          try clear c44b1
                                          try clear c46
                                          try clear c49
                                          try clear c49b0
                                          try clear c54
                                          try clear c54b0
                                          try clear hcz12_0
                                          try clear hcz12_1
                                          try clear hcz12_2
                                          try clear hcz16_0
                                          try clear hcz16_1
                                          try clear hcz16_2
                                          try clear hcz17_0
                                          try clear hcz17_1
                                          try clear hcz17_2
                                          try clear hcz19_0
                                          try clear hcz19_1
                                          try clear hcz19_2
                                          try clear hcz24_0
                                          try clear hcz24_1
                                          try clear hcz24_2
                                          try clear hcz33_0
                                          try clear hcz33_1
                                          try clear hcz33_2
                                          try clear hcz42_0
                                          try clear hcz42_1
                                          try clear hcz42_2
                                          try clear hcz47_0
                                          try clear hcz47_1
                                          try clear hcz47_2
                                          try clear hcz50_0
                                          try clear hcz50_1
                                          try clear hcz50_2
                                          try clear hcz52_0
                                          try clear hcz52_1
                                          try clear hcz52_2
                                          try clear hcz55_0
                                          try clear hcz55_1
                                          try clear hcz55_2
                                          try clear hcz56_0
                                          try clear hcz56_1
                                          try clear hcz56_2
                                          try clear hcz7_0
                                          try clear hcz7_1
                                          try clear hcz7_2
                                          try clear hfz12_0
                                          try clear hfz12_1
                                          try clear hfz12_2
                                          try clear hfz16_0
                                          try clear hfz16_1
                                          try clear hfz16_2
                                          try clear hfz17_0
                                          try clear hfz17_1
                                          try clear hfz17_2
                                          try clear hfz19_0
                                          try clear hfz19_1
                                          try clear hfz19_2
                                          try clear hfz24_0
                                          try clear hfz24_1
                                          try clear hfz24_2
                                          try clear hfz33_0
                                          try clear hfz33_1
                                          try clear hfz33_2
                                          try clear hfz42_0
                                          try clear hfz42_1
                                          try clear hfz42_2
                                          try clear hfz47_0
                                          try clear hfz47_1
                                          try clear hfz47_2
                                          try clear hfz50_0
                                          try clear hfz50_1
                                          try clear hfz50_2
                                          try clear hfz52_0
                                          try clear hfz52_1
                                          try clear hfz52_2
                                          try clear hfz55_0
                                          try clear hfz55_1
                                          try clear hfz55_2
                                          try clear hfz56_0
                                          try clear hfz56_1
                                          try clear hfz56_2
                                          try clear hfz7_0
                                          try clear hfz7_1
                                          try clear hfz7_2
                                          try clear hx245_0
                                          try clear hx245_1
                                          try clear hx245_2
                                          try clear hx247_0
                                          try clear hx248_0
                                          try clear hx252_0
                                          try clear hx254_0
                                          try clear hx255_0
                                          try clear p2
                                          try clear p24
                                          try clear p245
                                          try clear p247
                                          try clear p248
                                          try clear p25
                                          try clear p252
                                          try clear p254
                                          try clear p255
                                          try clear p6
                                          try clear q2
                                          try clear q24
                                          try clear q245
                                          try clear q247
                                          try clear q248
                                          try clear q25
                                          try clear q252
                                          try clear q254
                                          try clear q255
                                          obtain ⟨kq,x118_40,rfl,HA,HJ40,BK246,HB⟩:=hcut
                                          cases kq with
                                          | zero=>exact absurd HA.out (by simp [ye.j6])
                                          | succ kj40=>
                                           have H:=HA.out
                                           clear HA
                                           simp only [ye.j6] at H
                                           by_cases c57:x118_40=true
                                           · subst c57
                                             have H1:(some false)=some r:=by rw [if_pos rfl] at H;exact H
                                             clear H
                                             have H:=H1
                                             clear H1
                                             obtain rfl:=Option.some.inj H
                                             go_wp2
                                             go_ret
                                             exact ⟨by first|rfl|(simp [yK,yL] <;> rfl)|(simp [*,yK,yL] <;> rfl),by repeat (first|(with_reducible first|exact HB.out|apply yl|apply ym|apply yp|refine yu ?_ GE246.out)|exact HB.out)⟩
                                           · replace c57:=Bool.eq_false_iff.mpr c57
                                             subst c57
                                             have H1:(ye.l2 kj40 l0 l1 l0 (l0.length:Int) x20_1 ((yj l0 x20_1).f2) (((yj l0 x20_1).f2).length:Int) (wrap64 (x58_4+1)) ((yj l0 x20_1).f0) ((yj l0 x20_1).f1) ((yj l0 x20_1).f2))=some r:=by rw [if_neg (show ¬ (false=true) by decide)] at H;exact H
                                             clear H
                                             have H:=H1
                                             clear H1
                                             have H':=yc.mk H
                                             clear H
                                             go_wp2
                                             go_roundg kj40
                                             case measure=>have:=HK1.out;have:=HK2.out;have:=HJ12.out;have:=HK4.out;have:=HK5.out;have:=HK6.out;have:=HJ40.out;omega
                                             case rel=>exact ⟨(wrap64 (x58_4+1)),(by first|rfl|(simp;done)|(simp [*];done)|(simp [yn];done)),H',⟨by have:=HK1.out;have:=HK2.out;have:=HJ12.out;have:=HK4.out;have:=HK5.out;have:=HK6.out;have:=HJ40.out;omega⟩,⟨by refine Zb ?_;exact BK246.out⟩,⟨by repeat (first|(with_reducible first|exact HB.out|apply yl|apply ym|apply yp|refine yu ?_ GE246.out)|exact HB.out)⟩⟩
                                       · rw [if_neg c40] at H
                                         exact absurd H (by simp)
                                     · rw [if_neg c39] at H
                                       exact absurd H (by simp)
                               · rw [if_neg c32] at H
                                 exact absurd H (by simp)
                             · rw [if_neg c31] at H
                               exact absurd H (by simp)
                       · rw [if_neg c22] at H
                         exact absurd H (by simp)
                     · rw [if_neg c21] at H
                       exact absurd H (by simp)
                   · rw [if_neg c20] at H
                     have c20b0:decide (x58_4<(((yj l0 x20_1).f2).length:Int))=false:=decide_eq_false c20
                     clear c20
                     have H':=yc.mk H
                     clear H
                     go_wp2
                     go_roundg k4
                     case measure=>have:=HK1.out;have:=HK2.out;have:=HJ12.out;have:=HK4.out;omega
                     case rel=>exact ⟨(wrap64 (x20_1+1)),(by first|rfl|(simp;done)|(simp [*];done)|(simp [yn];done)),H',⟨by have:=HK1.out;have:=HK2.out;have:=HJ12.out;have:=HK4.out;omega⟩,⟨by repeat (first|(with_reducible first|exact HB.out|apply yl|apply ym|apply yp|refine yu ?_ GE246.out)|exact HB.out)⟩⟩
       · rw [if_neg c5] at H
         exact absurd H (by simp)
     · rw [if_neg c4] at H
       exact absurd H (by simp)
   · rw [if_neg c3] at H
     have c3b0:decide (x20_1<(l0.length:Int))=false:=decide_eq_false c3
     clear c3
     replace H:=Option.bind_eq_some_iff.mp H
     obtain ⟨t257,A580,H⟩:=H
     replace H:(some t257)=some r:=H
     have A58:=yc.mk A580
     clear A580
     obtain rfl:=Option.some.inj H
     go_wp2_with (first|((with_reducible refine yW (f:=32) rfl ?_);refine YD (some 122) rfl rfl Tryz.func32 Zk rfl #[.slice A0 l0.length c0] rfl (by (try simp only [List.map_toArray,List.map_cons,List.map_nil]);first|done|rfl|(simp only [List.length_drop,List.length_take];rfl)) ?_;(with_reducible refine (yE.calls k1 _ _ l0 t257 _ ?side1 ?side2 A58.out).mono ?_);(case side1=>repeat (first|exact (Kd.qj HR0.out HB.out)|(with_reducible refine Kd.qG ?_ _)|(with_reducible refine Kd.qH ?_ _)|(with_reducible refine Kd.Qv ?_)));(case side2=>exact HC0.out);rintro e w' ⟨rfl,⟨nd,rfl⟩⟩;refine ⟨_,rfl,?_⟩))
     go_ret
     exact ⟨by first|rfl|(simp [yK,yL] <;> rfl)|(simp [*,yK,yL] <;> rfl),by repeat (first|(with_reducible first|exact HB.out|apply yl|apply ym|apply yp)|exact HB.out)⟩
end Go.Proofs.YtlmennkeggmdbaaGreatDoor
