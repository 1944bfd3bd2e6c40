/- Part 25 of 34 of the proof of the tied card of FnNetstatRead. -/
import Derived.Test.YtlmennkeggmdbaaGreatDoorVz
import Derived.Test.YtlmennkeggmdbaaGreatDoorV3
import Derived.Test.YtlmennkeggmdbaaGreatDoorV7
import Derived.Test.YtlmennkeggmdbaaGreatDoorV8
import Derived.Test.YtlmennkeggmdbaaGreatDoorV10
import Derived.Test.YtlmennkeggmdbaaGreatDoorV9
import Derived.Test.YtlmennkeggmdbaaGreatDoorV24
set_option linter.unusedVariables false
set_option linter.unusedSimpArgs false
namespace Go.Proofs.YtlmennkeggmdbaaGreatDoor
open Go.RowKit Go.Proofs.YtlmennkeggmdbaaGreatDoorW.PrintWords Go.Proofs.YtlmennkeggmdbaaGreatDoorW.PrintLast Go.Proofs.YtlmennkeggmdbaaGreatDoorW.PrintMore
attribute [local go_sem] Yt Yp YE YB Yj Yk Yu Yv
mutual
def yh.j0:Nat→ByteArray→List ByteArray→Bool→Option ((List (S71)) × Bool)
 | 0,_,_,_=>none
 | k+1,x0,x4,x24=>if x24=true then (some (([]:List (S71)),false)) else (yh.l0 k x0 x4 ([]:List (S71)) 0)
def yh.l0:Nat→ByteArray→List ByteArray→List (S71)→Int→Option ((List (S71)) × Bool)
 | 0,_,_,_,_=>none
 | k+1,x0,x4,x5,x6=>if x6<(x4.length:Int) then (if 0≤x6 then ((yz.f k (yU ByteArray.empty x4 x6)).bind fun t167=>(if 0≤(wrap64 (x6+1)) then (if (wrap64 (x6+1))<(x4.length:Int) then ((yz.f k (yU ByteArray.empty x4 (wrap64 (x6+1)))).bind fun t171=>(if (t167.length:Int)<2 then (yh.j2 k x0 x4 x5 x6 t167 t171 true) else (if (t167.length:Int)=(t171.length:Int) then (if 0<(t167.length:Int) then (if 0<(t171.length:Int) then (if (yU ByteArray.empty t167 0).toList=(yU ByteArray.empty t171 0).toList then ((JN.f (yU ByteArray.empty t167 0) (⟨#[58]⟩:ByteArray)).bind fun t177=>(yh.j2 k x0 x4 x5 x6 t167 t171 (!t177))) else (yh.j2 k x0 x4 x5 x6 t167 t171 true)) else (none)) else (none)) else (yh.j2 k x0 x4 x5 x6 t167 t171 true)))) else (none)) else (none))) else (none)) else ((yA.f k x5).bind fun t201=>(some (x5,(t201.toList == x0.toList))))
def yh.j2:Nat→ByteArray→List ByteArray→List (S71)→Int→List ByteArray→List ByteArray→Bool→Option ((List (S71)) × Bool)
 | 0,_,_,_,_,_,_,_=>none
 | k+1,x0,x4,x5,x6,x7,x8,x67=>if x67=true then (some (([]:List (S71)),false)) else (if 0<(x7.length:Int) then (if 0≤(wrap64 (((yU ByteArray.empty x7 0).size:Int) - 1)) then (if (wrap64 (((yU ByteArray.empty x7 0).size:Int) - 1))≤((yU ByteArray.empty x7 0).size:Int) then (if 1≤(x7.length:Int) then (if 1≤(x8.length:Int) then ((some (x8.drop 1:List ByteArray)).bind fun y186=>(yh.l1 k x0 x4 x5 x6 y186 (y186.length:Int) 0 ((yU ByteArray.empty x7 0).extract 0 ((wrap64 (((yU ByteArray.empty x7 0).size:Int) - 1)):Int).toNat) ([]:List Int) (x7.drop 1))) else (none)) else (none)) else (none)) else (none)) else (none))
def yh.l1:Nat→ByteArray→List ByteArray→List (S71)→Int→List ByteArray→Int→Int→ByteArray→List Int→List ByteArray→Option ((List (S71)) × Bool)
 | 0,_,_,_,_,_,_,_,_,_,_=>none
 | k+1,x0,x4,x5,x6,x81,x82,x83,x186000,x186001,x186002=>if x83<x82 then (if 0≤x83 then (if x83<(x81.length:Int) then ((Yz.f k (yU ByteArray.empty x81 x83)).bind fun bt195=>(if bt195.2=true then ((yO.f k bt195.1).bind fun t197=>(if t197.toList=(yU ByteArray.empty x81 x83).toList then (if x186001.length<17592186044416 then (yh.l1 k x0 x4 x5 x6 x81 x82 (wrap64 (x83+1)) x186000 (x186001++[IntKind.u64.wrap (bt195.1)]) x186002) else (none)) else (some (([]:List (S71)),false)))) else (some (([]:List (S71)),false)))) else (none)) else (none)) else (if x5.length<2199023255552 then (yh.l0 k x0 x4 (x5++[(⟨x186000,x186001,x186002⟩:S71)]) (wrap64 (x6+2))) else (none))
end
def yh.f (k:Nat) (a0:ByteArray):Option ((List (S71)) × Bool):=(Ye.f k a0).bind fun t162=>((yQ.f k a0).bind fun t165=>(if t165=true then (yh.j0 k a0 t162 (((t162.length:Int) % 2) != 0)) else (yh.j0 k a0 t162 true)))
theorem yh.YY:∀ k,(∀ y0 y1 y2,LeO (yh.j0 k y0 y1 y2) (yh.j0 (k+1) y0 y1 y2))∧(∀ y0 y1 y2 y3,LeO (yh.l0 k y0 y1 y2 y3) (yh.l0 (k+1) y0 y1 y2 y3))∧(∀ y0 y1 y2 y3 y4 y5 y6,LeO (yh.j2 k y0 y1 y2 y3 y4 y5 y6) (yh.j2 (k+1) y0 y1 y2 y3 y4 y5 y6))∧(∀ y0 y1 y2 y3 y4 y5 y6 y7 y8 y9,LeO (yh.l1 k y0 y1 y2 y3 y4 y5 y6 y7 y8 y9) (yh.l1 (k+1) y0 y1 y2 y3 y4 y5 y6 y7 y8 y9))
 | 0=>⟨fun _ _ _ r h=>by simp [yh.j0] at h,fun _ _ _ _ r h=>by simp [yh.l0] at h,fun _ _ _ _ _ _ _ r h=>by simp [yh.j2] at h,fun _ _ _ _ _ _ _ _ _ _ r h=>by simp [yh.l1] at h⟩
 | k+1=>by
  obtain ⟨ih0,ih1,ih2,ih3⟩:=yh.YY k
  refine ⟨?_,?_,?_,?_⟩
  · intro y0 y1 y2
    unfold yh.j0
    repeat' first
    | (with_reducible exact ih0 _ _ _)
    | (with_reducible exact ih1 _ _ _ _)
    | (with_reducible exact ih2 _ _ _ _ _ _ _)
    | (with_reducible exact ih3 _ _ _ _ _ _ _ _ _ _)
    | (with_reducible exact yz.mono _ _)
    | (with_reducible exact Ye.mono _ _)
    | (with_reducible exact yQ.mono _ _)
    | (with_reducible exact Yz.mono _ _)
    | (with_reducible exact yO.mono _ _)
    | (with_reducible exact yA.mono _ _)
    | (with_reducible exact LeO.refl _)
    | (with_reducible exact LeO.none _)
    | (with_reducible refine LeO.ite ?_ ?_)
    | (with_reducible refine LeO.bind ?_ (fun _=>?_))
    | exact ih0 _ _ _
    | exact ih1 _ _ _ _
    | exact ih2 _ _ _ _ _ _ _
    | exact ih3 _ _ _ _ _ _ _ _ _ _
    | exact yz.mono _ _
    | exact Ye.mono _ _
    | exact yQ.mono _ _
    | exact Yz.mono _ _
    | exact yO.mono _ _
    | exact yA.mono _ _
    | exact LeO.none _
    | refine LeO.ite ?_ ?_
    | refine LeO.bind ?_ (fun _=>?_)
  · intro y0 y1 y2 y3
    unfold yh.l0
    repeat' first
    | (with_reducible exact ih0 _ _ _)
    | (with_reducible exact ih1 _ _ _ _)
    | (with_reducible exact ih2 _ _ _ _ _ _ _)
    | (with_reducible exact ih3 _ _ _ _ _ _ _ _ _ _)
    | (with_reducible exact yz.mono _ _)
    | (with_reducible exact Ye.mono _ _)
    | (with_reducible exact yQ.mono _ _)
    | (with_reducible exact Yz.mono _ _)
    | (with_reducible exact yO.mono _ _)
    | (with_reducible exact yA.mono _ _)
    | (with_reducible exact LeO.refl _)
    | (with_reducible exact LeO.none _)
    | (with_reducible refine LeO.ite ?_ ?_)
    | (with_reducible refine LeO.bind ?_ (fun _=>?_))
    | exact ih0 _ _ _
    | exact ih1 _ _ _ _
    | exact ih2 _ _ _ _ _ _ _
    | exact ih3 _ _ _ _ _ _ _ _ _ _
    | exact yz.mono _ _
    | exact Ye.mono _ _
    | exact yQ.mono _ _
    | exact Yz.mono _ _
    | exact yO.mono _ _
    | exact yA.mono _ _
    | exact LeO.none _
    | refine LeO.ite ?_ ?_
    | refine LeO.bind ?_ (fun _=>?_)
  · intro y0 y1 y2 y3 y4 y5 y6
    unfold yh.j2
    repeat' first
    | (with_reducible exact ih0 _ _ _)
    | (with_reducible exact ih1 _ _ _ _)
    | (with_reducible exact ih2 _ _ _ _ _ _ _)
    | (with_reducible exact ih3 _ _ _ _ _ _ _ _ _ _)
    | (with_reducible exact yz.mono _ _)
    | (with_reducible exact Ye.mono _ _)
    | (with_reducible exact yQ.mono _ _)
    | (with_reducible exact Yz.mono _ _)
    | (with_reducible exact yO.mono _ _)
    | (with_reducible exact yA.mono _ _)
    | (with_reducible exact LeO.refl _)
    | (with_reducible exact LeO.none _)
    | (with_reducible refine LeO.ite ?_ ?_)
    | (with_reducible refine LeO.bind ?_ (fun _=>?_))
    | exact ih0 _ _ _
    | exact ih1 _ _ _ _
    | exact ih2 _ _ _ _ _ _ _
    | exact ih3 _ _ _ _ _ _ _ _ _ _
    | exact yz.mono _ _
    | exact Ye.mono _ _
    | exact yQ.mono _ _
    | exact Yz.mono _ _
    | exact yO.mono _ _
    | exact yA.mono _ _
    | exact LeO.none _
    | refine LeO.ite ?_ ?_
    | refine LeO.bind ?_ (fun _=>?_)
  · intro y0 y1 y2 y3 y4 y5 y6 y7 y8 y9
    unfold yh.l1
    repeat' first
    | (with_reducible exact ih0 _ _ _)
    | (with_reducible exact ih1 _ _ _ _)
    | (with_reducible exact ih2 _ _ _ _ _ _ _)
    | (with_reducible exact ih3 _ _ _ _ _ _ _ _ _ _)
    | (with_reducible exact yz.mono _ _)
    | (with_reducible exact Ye.mono _ _)
    | (with_reducible exact yQ.mono _ _)
    | (with_reducible exact Yz.mono _ _)
    | (with_reducible exact yO.mono _ _)
    | (with_reducible exact yA.mono _ _)
    | (with_reducible exact LeO.refl _)
    | (with_reducible exact LeO.none _)
    | (with_reducible refine LeO.ite ?_ ?_)
    | (with_reducible refine LeO.bind ?_ (fun _=>?_))
    | exact ih0 _ _ _
    | exact ih1 _ _ _ _
    | exact ih2 _ _ _ _ _ _ _
    | exact ih3 _ _ _ _ _ _ _ _ _ _
    | exact yz.mono _ _
    | exact Ye.mono _ _
    | exact yQ.mono _ _
    | exact Yz.mono _ _
    | exact yO.mono _ _
    | exact yA.mono _ _
    | exact LeO.none _
    | refine LeO.ite ?_ ?_
    | refine LeO.bind ?_ (fun _=>?_)
theorem yh.mono:∀ a0 k,LeO (yh.f k a0) (yh.f (k+1) a0):=by
 intro a0 k
 obtain ⟨ih0,ih1,ih2,ih3⟩:=yh.YY k
 unfold yh.f
 repeat' first
  | (with_reducible exact ih0 _ _ _)
  | (with_reducible exact ih1 _ _ _ _)
  | (with_reducible exact ih2 _ _ _ _ _ _ _)
  | (with_reducible exact ih3 _ _ _ _ _ _ _ _ _ _)
  | (with_reducible exact yz.mono _ _)
  | (with_reducible exact Ye.mono _ _)
  | (with_reducible exact yQ.mono _ _)
  | (with_reducible exact Yz.mono _ _)
  | (with_reducible exact yO.mono _ _)
  | (with_reducible exact yA.mono _ _)
  | (with_reducible exact LeO.refl _)
  | (with_reducible exact LeO.none _)
  | (with_reducible refine LeO.ite ?_ ?_)
  | (with_reducible refine LeO.bind ?_ (fun _=>?_))
  | exact ih0 _ _ _
  | exact ih1 _ _ _ _
  | exact ih2 _ _ _ _ _ _ _
  | exact ih3 _ _ _ _ _ _ _ _ _ _
  | exact yz.mono _ _
  | exact Ye.mono _ _
  | exact yQ.mono _ _
  | exact Yz.mono _ _
  | exact yO.mono _ _
  | exact yA.mono _ _
  | exact LeO.none _
  | refine LeO.ite ?_ ?_
  | refine LeO.bind ?_ (fun _=>?_)
def yh.T8:Bool × List (List Nat × List Nat):=(true,[([],[]),([],[]),([0,1],[0,1]),([2],[2]),([3],[3]),([],[]),([],[]),([6],[6]),([5,7],[5,7]),([8],[8]),([9,4],[9]),([4,10,0,1,2,3,4],[4]),([10,11,0,1,2,3,4,5,6,7,8,9,10,11],[10])])
def yh.B8:List Nat:=[0,0,3,7,15,0,0,64,224,480,1023,2047,4095]
theorem yh.tab8:JM .any (opsOf Tryz.f11 8)=yh.T8:=by kernel_rfl
theorem yh.bits8:qd yh.T8.2 yh.B8=true:=by kernel_rfl
def yh.T9:Bool × List (List Nat × List Nat):=(true,[([],[]),([0],[0]),([1],[1]),([2],[2]),([3],[3]),([4,3],[3,4]),([3],[3]),([6,3],[3,6]),([5,7,3],[3,5,7]),([3,8],[3,8]),([9,3],[9]),([10],[10]),([11,10],[10,11]),([12,10],[10,12]),([10],[10]),([14,10],[10,14]),([15,10],[10,15]),([13,16,10],[10,13,16]),([10,17],[10,17]),([18,10],[18]),([19],[19]),([20,19],[19,20]),([21,19],[19,21]),([22,19,19],[19,22]),([23,19],[19,23]),([19,24],[19,24])])
def yh.B9:List Nat:=[0,1,3,7,15,31,15,79,255,511,1023,2047,4095,8191,2047,18431,51199,131071,262143,524287,1048575,2097151,4194303,8388607,16777215,33554431]
theorem yh.tab9:JM .any (opsOf Tryz.f11 9)=yh.T9:=by kernel_rfl
theorem yh.bits9:qd yh.T9.2 yh.B9=true:=by kernel_rfl
def yh.T11:Bool × List (List Nat × List Nat):=(true,[([],[]),([0],[0]),([1],[1]),([],[]),([3],[3]),([4],[4]),([5],[5]),([6],[6]),([2,7],[2,7]),([],[]),([9],[9]),([8,10],[8,10]),([],[]),([12,11,0,1,2,3,4,5,6,7,8,9,10,11,12],[11,12])])
def yh.B11:List Nat:=[0,1,3,0,8,24,56,120,255,0,512,2047,0,8191]
theorem yh.tab11:JM .any (opsOf Tryz.f11 11)=yh.T11:=by kernel_rfl
theorem yh.bits11:qd yh.T11.2 yh.B11=true:=by kernel_rfl
set_option maxHeartbeats 8000000 in
set_option maxRecDepth 100000 in
theorem yh.calls (k:Nat) (a0:ByteArray) (r1:List (S71)) (r2:Bool) (w:World) (h:yh.f k a0=some (r1,r2)) :
 Calls Tryz.prog 11 #[.string a0] w fun e w'=>∃ v0_:Value,e=.returned (.tuple #[v0_,.bool r2])∧Kd.N k71 71 w' w.heap.size (fun k_=>(w.heap.size≤k_)) v0_ r1∧Below w.heap.size w w':=by
 have hu71:=Tryz.underlying71
 have HB:=yc.mk (Below.refl w.heap.size w)
 have H:((Ye.f k a0).bind fun t162=>((yQ.f k a0).bind fun t165=>(if t165=true then (yh.j0 k a0 t162 (((t162.length:Int) % 2) != 0)) else (yh.j0 k a0 t162 true))))=some (r1,r2):=h
 clear h
 replace H:=Option.bind_eq_some_iff.mp H
 obtain ⟨t162,A20,H⟩:=H
 replace H:((yQ.f k a0).bind fun t165=>(if t165=true then (yh.j0 k a0 t162 (((t162.length:Int) % 2) != 0)) else (yh.j0 k a0 t162 true)))=some (r1,r2):=H
 have A2:=yc.mk A20
 clear A20
 have HC3:=yc.mk H
 clear H
 go_enter Tryz.func11,Tryz.ntmps11
 go_upto_region 2 with (first|((with_reducible refine yW (f:=23) rfl ?_);refine YD (some 15) rfl rfl Tryz.func23 Zk rfl #[.string a0] rfl (by (try simp only [List.map_toArray,List.map_cons,List.map_nil]);first|done|rfl|(simp only [List.length_drop,List.length_take];rfl)) ?_;(with_reducible refine (Ye.calls k a0 t162 _ A2.out).mono ?_);rintro e w4 ⟨v163,rfl,ho0,hb⟩;refine ⟨_,rfl,?_⟩;have n0_:=yc.mk (Kd.Ji (Kd.yaJ (M:=fun k_=>(w.heap.size≤k_)) ho0 (yt Zh) (fun k_ h_=>h_)) (yt Zh));have n1_:=yc.mk (yw Zh hb);clear HB;have HO164:=n0_;have HB:=n1_;clear n0_ n1_;(try clear hb);(try clear hb2);(try clear hk);(try clear hi);(try clear ho0)))
 (try simp only [Act.put,List.setIfInBounds_toArray,List.set_cons_zero,List.set_cons_succ])
 go_cut [24] (fun v24 wc=>∃ (kq:Nat) (x24_2:Bool),v24=.bool x24_2∧yc (yh.j0 kq a0 t162 x24_2=some (r1,r2))∧yc (kq≤k)∧yc (Kd.R Kd.string 9 wc w.heap.size (fun k_=>(w.heap.size≤k_)) v163 t162)∧yc (Below w.heap.size w wc))
 case first=>
  have H:=HC3.out
  clear HC3
  replace H:=Option.bind_eq_some_iff.mp H
  obtain ⟨t165,A50,H⟩:=H
  replace H:(if t165=true then (yh.j0 k a0 t162 (((t162.length:Int) % 2) != 0)) else (yh.j0 k a0 t162 true))=some (r1,r2):=H
  have A5:=yc.mk A50
  clear A50
  by_cases c6:t165=true
  · subst c6
    have H1:(yh.j0 k a0 t162 (((t162.length:Int) % 2) != 0))=some (r1,r2):=by rw [if_pos rfl] at H;exact H
    clear H
    have H:=H1
    clear H1
    have H':=yc.mk H
    clear H
    go_wp2_with (first|((with_reducible refine yW (f:=24) rfl ?_);refine YD (some 17) rfl rfl Tryz.func24 Zk rfl #[.string a0] rfl (by (try simp only [List.map_toArray,List.map_cons,List.map_nil]);first|done|rfl|(simp only [List.length_drop,List.length_take];rfl)) ?_;(with_reducible refine (yQ.calls k a0 true _ A5.out).mono ?_);rintro e w' ⟨rfl,⟨nd,rfl⟩⟩;refine ⟨_,rfl,?_⟩;obtain ⟨Ao7,co7,eo7⟩:=Kd.YF HO164.out;subst eo7))
    go_meet
    case rel=>exact ⟨_,((((t162.length:Int) % 2) != 0)),(by first|rfl|(simp;done)|(simp [*];done)|(simp [yn];done)),H',⟨by first|omega|exact Nat.le_refl _⟩,⟨by refine Zr ?_;exact Kd.Yr HO164.out (fun _ hk=>hk.1)⟩,⟨by repeat (first|(with_reducible first|exact HB.out|apply yl|apply ym|apply yp)|exact HB.out)⟩⟩
  · replace c6:=Bool.eq_false_iff.mpr c6
    subst c6
    have H1:(yh.j0 k a0 t162 true)=some (r1,r2):=by rw [if_neg (show ¬ (false=true) by decide)] at H;exact H
    clear H
    have H:=H1
    clear H1
    have H':=yc.mk H
    clear H
    go_wp2_with (first|((with_reducible refine yW (f:=24) rfl ?_);refine YD (some 17) rfl rfl Tryz.func24 Zk rfl #[.string a0] rfl (by (try simp only [List.map_toArray,List.map_cons,List.map_nil]);first|done|rfl|(simp only [List.length_drop,List.length_take];rfl)) ?_;(with_reducible refine (yQ.calls k a0 false _ A5.out).mono ?_);rintro e w' ⟨rfl,⟨nd,rfl⟩⟩;refine ⟨_,rfl,?_⟩))
    go_meet
    case rel=>exact ⟨_,(true),(by first|rfl|(simp;done)|(simp [*];done)|(simp [yn];done)),H',⟨by first|omega|exact Nat.le_refl _⟩,⟨by refine Zr ?_;exact Kd.Yr HO164.out (fun _ hk=>hk.1)⟩,⟨by repeat (first|(with_reducible first|exact HB.out|apply yl|apply ym|apply yp)|exact HB.out)⟩⟩
 case rest=>
  clear HC3
  try clear c1
  try clear c2
  try clear p2
  try clear c6
  obtain ⟨kq,x24_2,rfl,HA,HJ2,HO_4,HB⟩:=hcut
  cases kq with
  | zero=>exact absurd HA.out (by simp [yh.j0])
  | succ kj2=>
   have H:=HA.out
   clear HA
   simp only [yh.j0] at H
   by_cases c8:x24_2=true
   · subst c8
     have H1:(some (([]:List (S71)),false))=some (r1,r2):=by rw [if_pos rfl] at H;exact H
     clear H
     have H:=H1
     clear H1
     simp only [Option.some.injEq,Prod.mk.injEq] at H
     obtain ⟨rfl,rfl⟩:=H
     go_wp2
     go_ret2
     exact ⟨_,by first|rfl|(simp [yK,yL] <;> rfl)|(simp [*,yK,yL] <;> rfl),by first|exact Kd.yah _ _ _ _ _|exact Kd.yae _ _ _ _ _|exact Kd.QV _ _ _ _ _|exact Kd.yaf _ _ _ _ _|exact Kd.qm _ _ _ _ _,by repeat (first|(with_reducible first|exact HB.out|apply yl|apply ym|apply yp)|exact HB.out)⟩
   · replace c8:=Bool.eq_false_iff.mpr c8
     subst c8
     have H1:(yh.l0 kj2 a0 t162 ([]:List (S71)) 0)=some (r1,r2):=by rw [if_neg (show ¬ (false=true) by decide)] at H;exact H
     clear H
     have H:=H1
     clear H1
     have H':=yc.mk H
     clear H
     go_wp2
     go_loopg [5,6] kj2 (fun kq v5 v6 w'=>∃ (x5_2:List (S71)) (x6_2:Int),v6=.int .i64 x6_2∧yc (yh.l0 kq a0 t162 x5_2 x6_2=some (r1,r2))∧yc (kq≤kj2)∧yc (Kd.R Kd.string 9 w' w.heap.size (fun k_=>(w.heap.size≤k_)) v163 t162)∧yc (Kd.N k71 71 w' w.heap.size (fun k_=>(w.heap.size≤k_)∧some k_≠(v163:Value).ownBlock) v5 x5_2)∧yc (Below w.heap.size w w'))
     case atStart=>exact ⟨(([]:List (S71))),(0),(by first|rfl|(simp;done)|(simp [*];done)|(simp [yn];done)),H',⟨Nat.le_refl _⟩,⟨by refine Zr ?_;exact HO_4.out⟩,⟨by first|exact Kd.yah _ _ _ _ _|exact Kd.yae _ _ _ _ _|exact Kd.QV _ _ _ _ _|exact Kd.yaf _ _ _ _ _|exact Kd.qm _ _ _ _ _⟩,⟨by repeat (first|(with_reducible first|exact HB.out|apply yl|apply ym|apply yp)|exact HB.out)⟩⟩
     case round=>
      clear H'
      try clear c1
      try clear c2
      try clear p2
      try clear c6
      try clear c8
      try clear p2
      obtain ⟨x5_2,x6_2,rfl,HA,HK2,HO_4,HO_5,HB⟩:=hrel
      cases gk with
      | zero=>exact absurd HA.out (by simp [yh.l0])
      | succ k2=>
       have H:=HA.out
       clear HA
       simp only [yh.l0] at H
       by_cases c9:x6_2<(t162.length:Int)
       · rw [if_pos c9] at H
         have c9b0:decide (x6_2<(t162.length:Int))=true:=decide_eq_true c9
         clear c9
         by_cases c10:0≤x6_2
         · rw [if_pos c10] at H
           have c10b0:decide (0≤x6_2)=true:=decide_eq_true c10
           clear c10
           replace H:=Option.bind_eq_some_iff.mp H
           obtain ⟨t167,A110,H⟩:=H
           replace H:(if 0≤(wrap64 (x6_2+1)) then (if (wrap64 (x6_2+1))<(t162.length:Int) then ((yz.f k2 (yU ByteArray.empty t162 (wrap64 (x6_2+1)))).bind fun t171=>(if (t167.length:Int)<2 then (yh.j2 k2 a0 t162 x5_2 x6_2 t167 t171 true) else (if (t167.length:Int)=(t171.length:Int) then (if 0<(t167.length:Int) then (if 0<(t171.length:Int) then (if (yU ByteArray.empty t167 0).toList=(yU ByteArray.empty t171 0).toList then ((JN.f (yU ByteArray.empty t167 0) (⟨#[58]⟩:ByteArray)).bind fun t177=>(yh.j2 k2 a0 t162 x5_2 x6_2 t167 t171 (!t177))) else (yh.j2 k2 a0 t162 x5_2 x6_2 t167 t171 true)) else (none)) else (none)) else (yh.j2 k2 a0 t162 x5_2 x6_2 t167 t171 true)))) else (none)) else (none))=some (r1,r2):=H
           have A11:=yc.mk A110
           clear A110
           obtain ⟨ji12,hji12⟩:∃ j_:Int,(wrap64 (x6_2+1))=j_:=⟨_,rfl⟩
           replace H:(if 0≤(ji12) then (if (ji12)<(t162.length:Int) then ((yz.f k2 (yU ByteArray.empty t162 (ji12))).bind fun t171=>(if (t167.length:Int)<2 then (yh.j2 k2 a0 t162 x5_2 x6_2 t167 t171 true) else (if (t167.length:Int)=(t171.length:Int) then (if 0<(t167.length:Int) then (if 0<(t171.length:Int) then (if (yU ByteArray.empty t167 0).toList=(yU ByteArray.empty t171 0).toList then ((JN.f (yU ByteArray.empty t167 0) (⟨#[58]⟩:ByteArray)).bind fun t177=>(yh.j2 k2 a0 t162 x5_2 x6_2 t167 t171 (!t177))) else (yh.j2 k2 a0 t162 x5_2 x6_2 t167 t171 true)) else (none)) else (none)) else (yh.j2 k2 a0 t162 x5_2 x6_2 t167 t171 true)))) else (none)) else (none))=some (r1,r2):=by first|(rw [hji12] at H;exact H)|(simp only [hji12] at H ⊢;exact H)
           (try rw [hji12] at A11)
           have hji12w:(IntKind.i64.wrap (x6_2+1))=ji12:=(yM _).trans hji12
           by_cases c13:0≤(ji12)
           · rw [if_pos c13] at H
             have c13b0:decide (0≤(ji12))=true:=decide_eq_true c13
             clear c13
             by_cases c14:(ji12)<(t162.length:Int)
             · rw [if_pos c14] at H
               have c14b0:decide ((ji12)<(t162.length:Int))=true:=decide_eq_true c14
               clear c14
               replace H:=Option.bind_eq_some_iff.mp H
               obtain ⟨t171,A150,H⟩:=H
               replace H:(if (t167.length:Int)<2 then (yh.j2 k2 a0 t162 x5_2 x6_2 t167 t171 true) else (if (t167.length:Int)=(t171.length:Int) then (if 0<(t167.length:Int) then (if 0<(t171.length:Int) then (if (yU ByteArray.empty t167 0).toList=(yU ByteArray.empty t171 0).toList then ((JN.f (yU ByteArray.empty t167 0) (⟨#[58]⟩:ByteArray)).bind fun t177=>(yh.j2 k2 a0 t162 x5_2 x6_2 t167 t171 (!t177))) else (yh.j2 k2 a0 t162 x5_2 x6_2 t167 t171 true)) else (none)) else (none)) else (yh.j2 k2 a0 t162 x5_2 x6_2 t167 t171 true)))=some (r1,r2):=H
               have A15:=yc.mk A150
               clear A150
               have HC16:=yc.mk H
               clear H
               obtain ⟨Ao17,co17,eo17⟩:=Kd.YF HO_4.out
               subst eo17
               try go_wp2
               have n0_:=yc.mk (Kd.qh HO_4.out)
               have n1_:=yc.mk (Kd.yb7 HO_5.out)
               have n2_:=yc.mk (yp HB.out)
               clear HO_4
               clear HO_5
               clear HB
               have HO_4:=n0_
               have HO_5:=n1_
               have HB:=n2_
               clear n0_ n1_ n2_
               have p166:0≤(x6_2:Int):=of_decide_eq_true (by first|(with_reducible assumption)|assumption)
               have q166:x6_2<(t162.length:Int):=of_decide_eq_true (by first|(with_reducible assumption)|assumption)
               obtain ⟨ad166,e166,hx166_0⟩:=Kd.YH (Kd.YK HO_4.out).2.2 x6_2 p166 q166
               cases e166
               replace p166:=eq_true p166
               replace q166:=eq_true q166
               have p170:0≤((ji12):Int):=of_decide_eq_true (by first|(with_reducible assumption)|assumption)
               have q170:(ji12)<(t162.length:Int):=of_decide_eq_true (by first|(with_reducible assumption)|assumption)
               obtain ⟨ad170,e170,hx170_0⟩:=Kd.YH (Kd.YK HO_4.out).2.2 (ji12) p170 q170
               obtain rfl:ad166=ad170:=(by injection e170)
               replace p170:=eq_true p170
               replace q170:=eq_true q170
               refine QQ (n:=13) (S:=fun w'=>w'.cell? (ad166.add (x6_2).toNat)=some (.string (yU ByteArray.empty t162 x6_2))∧w'.cell? (ad166.add ((ji12)).toNat)=some (.string (yU ByteArray.empty t162 (ji12)))) (ds:=[]) #[false,false,false,false,false,false,false,false,false,false,false,false,false] Zk rfl rfl ⟨hx166_0,hx170_0⟩ (fun hHeld=>?_);refine qP yh.tab8 yh.bits8 (fun HT_ HW_=>?_)
               generalize wr.drew=w18 at HO_4 HO_5 HB hx166_0 hx170_0 hHeld ⊢
               refine Ya (i:=0) (N:=some 31) (v:=?_) (a':=?_) #[true,false,false,false,false,false,false,false,false,false,false,false,false] rfl rfl (yN HT_.out Zk) (fun _ _ _ h=>h) (Or.inl ⟨by rfl,?_⟩) ?_ ?_
               rotate_left
               · intro w'
                 go_simp
                 with_reducible rfl
               rotate_left
               · simp only [Act.put,List.setIfInBounds_toArray,List.set_cons_zero,List.set_cons_succ,yM,yP]
                 rfl
               refine Ya (i:=1) (N:=some 32) (v:=?_) (a':=?_) #[true,true,false,false,false,false,false,false,false,false,false,false,false] rfl rfl (yN HT_.out Zk) (fun _ _ _ h=>h) (Or.inl ⟨by rfl,?_⟩) ?_ ?_
               rotate_left
               · intro w'
                 go_simp
                 with_reducible rfl
               rotate_left
               · simp only [Act.put,List.setIfInBounds_toArray,List.set_cons_zero,List.set_cons_succ,yM,yP]
                 rfl
               refine Ya (i:=2) (N:=some 33) (v:=?_) (a':=?_) #[true,true,true,false,false,false,false,false,false,false,false,false,false] rfl rfl (yN HT_.out Zk) (fun _ _ _ h=>h) (Or.inl ⟨by rfl,?_⟩) ?_ ?_
               rotate_left
               · intro w'
                 go_simp
                 with_reducible rfl
               rotate_left
               · simp only [Act.put,List.setIfInBounds_toArray,List.set_cons_zero,List.set_cons_succ,yM,yP]
                 rfl
               refine Ya (i:=5) (N:=some 36) (v:=?_) (a':=?_) #[true,true,true,false,false,true,false,false,false,false,false,false,false] rfl rfl (yN HT_.out Zk) (fun _ _ _ h=>h) (Or.inl ⟨by rfl,?_⟩) ?_ ?_
               rotate_left
               · intro w'
                 go_simp
                 with_reducible rfl
               rotate_left
               · simp only [Act.put,List.setIfInBounds_toArray,List.set_cons_zero,List.set_cons_succ,yM,yP]
                 rfl
               refine Ya (i:=6) (N:=some 37) (v:=?_) (a':=?_) #[true,true,true,false,false,true,true,false,false,false,false,false,false] rfl rfl (yN HT_.out Zk) (fun _ _ _ h=>h) (Or.inl ⟨by rfl,?_⟩) ?_ ?_
               rotate_left
               · intro w'
                 go_simp
                 with_reducible rfl
               rotate_left
               · simp only [Act.put,List.setIfInBounds_toArray,List.set_cons_zero,List.set_cons_succ,yM,yP]
                 rfl
               refine Ya (i:=7) (N:=some 38) (v:=?_) (a':=?_) #[true,true,true,false,false,true,true,true,false,false,false,false,false] rfl rfl (yN HT_.out Zk) (fun _ _ _ h=>h) (Or.inl ⟨by rfl,?_⟩) ?_ ?_
               rotate_left
               · intro w'
                 go_simp
                 with_reducible rfl
               rotate_left
               · simp only [Act.put,List.setIfInBounds_toArray,List.set_cons_zero,List.set_cons_succ,yM,yP]
                 rfl
               refine Ya (i:=8) (N:=some 39) (v:=?_) (a':=?_) #[true,true,true,false,false,true,true,true,true,false,false,false,false] rfl rfl (yN HT_.out Zk) (fun _ _ _ h=>h) (Or.inl ⟨by rfl,?_⟩) ?_ ?_
               rotate_left
               · intro w'
                 go_simp
                 with_reducible rfl
               rotate_left
               · simp only [Act.put,List.setIfInBounds_toArray,List.set_cons_zero,List.set_cons_succ,yM,yP]
                 rfl
               refine Q1 (i:=3) (N:=some 34) (v:=?_) (a':=?_) #[true,true,true,true,false,true,true,true,true,false,false,false,false] rfl rfl (qq HT_.out HW_.out Zk) (fun _ _ _ h=>h) (Or.inl ⟨by rfl,?_⟩) hHeld ?_ ?_
               rotate_left
               · rintro w' ⟨s0,s1⟩
                 go_simp
                 with_reducible rfl
               rotate_left
               · simp only [Act.put,List.setIfInBounds_toArray,List.set_cons_zero,List.set_cons_succ,yM,yP]
                 rfl
               refine Q1 (i:=9) (N:=some 40) (v:=?_) (a':=?_) #[true,true,true,true,false,true,true,true,true,true,false,false,false] rfl rfl (qq HT_.out HW_.out Zk) (fun _ _ _ h=>h) (Or.inl ⟨by rfl,?_⟩) hHeld ?_ ?_
               rotate_left
               · rintro w' ⟨s0,s1⟩
                 go_simp
                 with_reducible rfl
               rotate_left
               · simp only [Act.put,List.setIfInBounds_toArray,List.set_cons_zero,List.set_cons_succ,yM,yP]
                 rfl
               refine one_ (i:=4) (N:=some 35) #[true,true,true,true,true,true,true,true,true,true,false,false,false] rfl rfl (Qk HT_.out Zk) Zd (fun K hK=>?_)
               refine goes_ Tryz.func25 Zk rfl #[.string (yU ByteArray.empty t162 x6_2)] (by rfl) rfl rfl (by (try simp only [List.map_toArray,List.map_cons,List.map_nil]);first|done|rfl|(simp only [List.length_drop,List.length_take];rfl)) ?_
               with_reducible refine (yz.calls k2 (yU ByteArray.empty t162 x6_2) t167 _ A11.out).mono ?_
               rintro e w19 ⟨v168,rfl,ho0,hb⟩
               have HS0_:=(hb.cell (World.block_lt_of_cell? _ _ (hHeld.1))).trans (hHeld.1)
               have HS1_:=(hb.cell (World.block_lt_of_cell? _ _ (hHeld.2))).trans (hHeld.2)
               refine ⟨_,rfl,?_⟩
               have n0_:=yc.mk (Kd.yaI (Zr HO_4.out) (Kd.Q8 ho0) hb)
               have n1_:=yc.mk (Kd.qR (Zn HO_5.out) (Kd.Q8 ho0) hb)
               have n2_:=yc.mk (Kd.Ji (Kd.R_new' (Kd.yaJ (M:=fun k_=>(w.heap.size≤k_)) ho0 (yt Zh) (fun k_ h_=>h_)) (Kd.R_lt (Zr HO_4.out))) (yt Zh))
               have n3_:=yc.mk (yw Zh hb)
               clear HO_4
               clear HO_5
               clear HB
               have HO_4:=n0_
               have HO_5:=n1_
               have HO169:=n2_
               have HB:=n3_
               clear n0_ n1_ n2_ n3_
               (try clear hb)
               (try clear hb2)
               (try clear hk)
               (try clear hi)
               (try clear ho0)
               refine hK.out _ _ ⟨HS0_,HS1_⟩ (fun hHeld=>?_)
               clear hK K
               refine qV (a':=?_) ?_ ?_
               rotate_left
               · show Act.put _ (some 35) _=_
                 simp only [Act.put,List.setIfInBounds_toArray,List.set_cons_zero,List.set_cons_succ,yM,yP]
                 rfl
               refine one_ (i:=10) (N:=some 41) #[true,true,true,true,true,true,true,true,true,true,true,false,false] rfl rfl (Qk HT_.out Zk) Zd (fun K hK=>?_)
               refine goes_ Tryz.func25 Zk rfl #[.string (yU ByteArray.empty t162 (ji12))] (by rfl) rfl rfl (by (try simp only [List.map_toArray,List.map_cons,List.map_nil]);first|done|(simp only [hji12];rfl)|rfl|(simp only [List.length_drop,List.length_take];rfl)) ?_
               with_reducible refine (yz.calls k2 (yU ByteArray.empty t162 (ji12)) t171 _ A15.out).mono ?_
               rintro e w20 ⟨v172,rfl,ho0,hb⟩
               have HS0_:=(hb.cell (World.block_lt_of_cell? _ _ (hHeld.1))).trans (hHeld.1)
               have HS1_:=(hb.cell (World.block_lt_of_cell? _ _ (hHeld.2))).trans (hHeld.2)
               refine ⟨_,rfl,?_⟩
               have n0_:=yc.mk (Kd.yaI (Zr HO_4.out) (Kd.Q8 ho0) hb)
               have n1_:=yc.mk (Kd.qR (Zn HO_5.out) (Kd.Q8 ho0) hb)
               have n2_:=yc.mk (Kd.yaI (Zr HO169.out) (Kd.Q8 ho0) hb)
               have n3_:=yc.mk (Kd.Ji (Kd.R_new' (Kd.R_new' (Kd.yaJ (M:=fun k_=>(w.heap.size≤k_)) ho0 (yt Zh) (fun k_ h_=>h_)) (Kd.R_lt (Zr HO_4.out))) (Kd.R_lt (Zr HO169.out))) (yt Zh))
               have n4_:=yc.mk (yw Zh hb)
               clear HO_4
               clear HO_5
               clear HO169
               clear HB
               have HO_4:=n0_
               have HO_5:=n1_
               have HO169:=n2_
               have HO173:=n3_
               have HB:=n4_
               clear n0_ n1_ n2_ n3_ n4_
               (try clear hb)
               (try clear hb2)
               (try clear hk)
               (try clear hi)
               (try clear ho0)
               refine hK.out _ _ ⟨HS0_,HS1_⟩ (fun hHeld=>?_)
               clear hK K
               refine qV (a':=?_) ?_ ?_
               rotate_left
               · show Act.put _ (some 41) _=_
                 simp only [Act.put,List.setIfInBounds_toArray,List.set_cons_zero,List.set_cons_succ,yM,yP]
                 rfl
               refine Ya (i:=11) (N:=some 7) (v:=?_) (a':=?_) #[true,true,true,true,true,true,true,true,true,true,true,true,false] rfl rfl (yN HT_.out Zk) (fun _ _ _ h=>h) (Or.inl ⟨by rfl,?_⟩) ?_ ?_
               rotate_left
               · intro w'
                 go_simp
                 with_reducible rfl
               rotate_left
               · simp only [Act.put,List.setIfInBounds_toArray,List.set_cons_zero,List.set_cons_succ,yM,yP]
                 rfl
               refine Ya (i:=12) (N:=some 8) (v:=?_) (a':=?_) #[true,true,true,true,true,true,true,true,true,true,true,true,true] rfl rfl (yN HT_.out Zk) (fun _ _ _ h=>h) (Or.inl ⟨by rfl,?_⟩) ?_ ?_
               rotate_left
               · intro w'
                 go_simp
                 with_reducible rfl
               rotate_left
               · simp only [Act.put,List.setIfInBounds_toArray,List.set_cons_zero,List.set_cons_succ,yM,yP]
                 rfl
               refine done_ (QW HT_.out Zk) ?_
               go_upto_region 9 with (fail)
               go_cut [67] (fun v67 wc=>∃ (kq:Nat) (x67_15:Bool),v67=.bool x67_15∧yc (yh.j2 kq a0 t162 x5_2 x6_2 t167 t171 x67_15=some (r1,r2))∧yc (kq≤k2)∧yc (Kd.R Kd.string 9 wc w.heap.size (fun k_=>(w.heap.size≤k_)∧some k_≠(v168:Value).ownBlock∧some k_≠(v172:Value).ownBlock) (.slice (some ad166) t162.length co17) t162)∧yc (Kd.N k71 71 wc w.heap.size (fun k_=>(w.heap.size≤k_)∧some k_≠((.slice (some ad166) t162.length co17):Value).ownBlock∧some k_≠(v168:Value).ownBlock∧some k_≠(v172:Value).ownBlock) u5 x5_2)∧yc (Kd.R Kd.string 9 wc w.heap.size (fun k_=>(w.heap.size≤k_)∧some k_≠((.slice (some ad166) t162.length co17):Value).ownBlock∧some k_≠(v172:Value).ownBlock) v168 t167)∧yc (Kd.R Kd.string 9 wc w.heap.size (fun k_=>(w.heap.size≤k_)∧some k_≠((.slice (some ad166) t162.length co17):Value).ownBlock∧some k_≠(v168:Value).ownBlock) v172 t171)∧yc (Below w.heap.size w wc))
               case first=>
                have H:=HC16.out
                clear HC16
                by_cases c21:(t167.length:Int)<2
                · rw [if_pos c21] at H
                  have c21b0:decide ((t167.length:Int)<2)=true:=decide_eq_true c21
                  have c21b1:decide (t167.length<2)=true:=decide_eq_true Zo
                  clear c21
                  (first|rw [c21b0]|(simp only [yM,yP];rw [c21b0])|skip)
                  have H':=yc.mk H
                  clear H
                  try go_wp2
                  have n0_:=yc.mk (Kd.qh HO_4.out)
                  have n1_:=yc.mk (Kd.yb7 HO_5.out)
                  have n2_:=yc.mk (Kd.qh HO169.out)
                  have n3_:=yc.mk (Kd.qh HO173.out)
                  have n4_:=yc.mk (yp HB.out)
                  clear HO_4
                  clear HO_5
                  clear HO169
                  clear HO173
                  clear HB
                  have HO_4:=n0_
                  have HO_5:=n1_
                  have HO169:=n2_
                  have HO173:=n3_
                  have HB:=n4_
                  clear n0_ n1_ n2_ n3_ n4_
                  obtain ⟨Ao23,co23,eo23⟩:=Kd.YF HO169.out
                  (first|subst eo23|(injection eo23 with f1_ f2_ f3_;have f4_:=f1_.symm;have f5_:=f3_.symm;clear f1_ f2_ f3_;subst f4_;subst f5_))
                  refine QQ (n:=26) (S:=fun w'=>True) (ds:=[]) #[false,false,false,false,false,false,false,false,false,false,false,false,false,false,false,false,false,false,false,false,false,false,false,false,false,false] Zk rfl rfl trivial (fun hHeld=>?_);refine qP yh.tab9 yh.bits9 (fun HT_ HW_=>?_)
                  generalize w20.drew=w22 at HO_4 HO_5 HO169 HO173 HB hHeld ⊢
                  refine Ya (i:=0) (N:=some 42) (v:=?_) (a':=?_) #[true,false,false,false,false,false,false,false,false,false,false,false,false,false,false,false,false,false,false,false,false,false,false,false,false,false] rfl rfl (yN HT_.out Zk) (fun _ _ _ h=>h) (Or.inl ⟨by rfl,?_⟩) ?_ ?_
                  rotate_left
                  · intro w'
                    go_simp
                    with_reducible rfl
                  rotate_left
                  · simp only [Act.put,List.setIfInBounds_toArray,List.set_cons_zero,List.set_cons_succ,yM,yP]
                    rfl
                  refine Ya (i:=1) (N:=some 43) (v:=?_) (a':=?_) #[true,true,false,false,false,false,false,false,false,false,false,false,false,false,false,false,false,false,false,false,false,false,false,false,false,false] rfl rfl (yN HT_.out Zk) (fun _ _ _ h=>h) (Or.inl ⟨by rfl,?_⟩) ?_ ?_
                  rotate_left
                  · intro w'
                    go_simp
                    with_reducible rfl
                  rotate_left
                  · simp only [Act.put,List.setIfInBounds_toArray,List.set_cons_zero,List.set_cons_succ,yM,yP]
                    rfl
                  refine Ya (i:=2) (N:=some 44) (v:=?_) (a':=?_) #[true,true,true,false,false,false,false,false,false,false,false,false,false,false,false,false,false,false,false,false,false,false,false,false,false,false] rfl rfl (yN HT_.out Zk) (fun _ _ _ h=>h) (Or.inl ⟨by rfl,?_⟩) ?_ ?_
                  rotate_left
                  · intro w'
                    go_simp
                    with_reducible rfl
                  rotate_left
                  · simp only [Act.put,List.setIfInBounds_toArray,List.set_cons_zero,List.set_cons_succ,yM,yP]
                    rfl
                  refine Ya (i:=3) (N:=some 45) (v:=?_) (a':=?_) #[true,true,true,true,false,false,false,false,false,false,false,false,false,false,false,false,false,false,false,false,false,false,false,false,false,false] rfl rfl (yN HT_.out Zk) (fun _ _ _ h=>h) (Or.inl ⟨by rfl,?_⟩) ?_ ?_
                  rotate_left
                  · intro w'
                    go_simp
                    with_reducible rfl
                  rotate_left
                  · simp only [Act.put,List.setIfInBounds_toArray,List.set_cons_zero,List.set_cons_succ,yM,yP]
                    rfl
                  refine Ya (i:=4) (N:=some 46) (v:=undef) (a':=?_) #[true,true,true,true,true,false,false,false,false,false,false,false,false,false,false,false,false,false,false,false,false,false,false,false,false,false] rfl rfl (yN HT_.out Zk) (fun _ _ _ h=>h) (Or.inr ⟨by rfl,rfl⟩) ?_ ?_
                  rotate_left
                  · simp only [Act.put,List.setIfInBounds_toArray,List.set_cons_zero,List.set_cons_succ,yM,yP]
                    rfl
                  refine Ya (i:=5) (N:=some 47) (v:=undef) (a':=?_) #[true,true,true,true,true,true,false,false,false,false,false,false,false,false,false,false,false,false,false,false,false,false,false,false,false,false] rfl rfl (yN HT_.out Zk) (fun _ _ _ h=>h) (Or.inr ⟨by rfl,rfl⟩) ?_ ?_
                  rotate_left
                  · simp only [Act.put,List.setIfInBounds_toArray,List.set_cons_zero,List.set_cons_succ,yM,yP]
                    rfl
                  refine Ya (i:=6) (N:=some 48) (v:=undef) (a':=?_) #[true,true,true,true,true,true,true,false,false,false,false,false,false,false,false,false,false,false,false,false,false,false,false,false,false,false] rfl rfl (yN HT_.out Zk) (fun _ _ _ h=>h) (Or.inr ⟨by rfl,rfl⟩) ?_ ?_
                  rotate_left
                  · simp only [Act.put,List.setIfInBounds_toArray,List.set_cons_zero,List.set_cons_succ,yM,yP]
                    rfl
                  refine Ya (i:=7) (N:=some 49) (v:=undef) (a':=?_) #[true,true,true,true,true,true,true,true,false,false,false,false,false,false,false,false,false,false,false,false,false,false,false,false,false,false] rfl rfl (yN HT_.out Zk) (fun _ _ _ h=>h) (Or.inr ⟨by rfl,rfl⟩) ?_ ?_
                  rotate_left
                  · simp only [Act.put,List.setIfInBounds_toArray,List.set_cons_zero,List.set_cons_succ,yM,yP]
                    rfl
                  refine Ya (i:=8) (N:=some 50) (v:=undef) (a':=?_) #[true,true,true,true,true,true,true,true,true,false,false,false,false,false,false,false,false,false,false,false,false,false,false,false,false,false] rfl rfl (yN HT_.out Zk) (fun _ _ _ h=>h) (Or.inr ⟨by rfl,rfl⟩) ?_ ?_
                  rotate_left
                  · simp only [Act.put,List.setIfInBounds_toArray,List.set_cons_zero,List.set_cons_succ,yM,yP]
                    rfl
                  refine Ya (i:=9) (N:=some 51) (v:=?_) (a':=?_) #[true,true,true,true,true,true,true,true,true,true,false,false,false,false,false,false,false,false,false,false,false,false,false,false,false,false] rfl rfl (yN HT_.out Zk) (fun _ _ _ h=>h) (Or.inl ⟨by rfl,?_⟩) ?_ ?_
                  rotate_left
                  · intro w'
                    go_simp
                    with_reducible rfl
                  rotate_left
                  · simp only [Act.put,List.setIfInBounds_toArray,List.set_cons_zero,List.set_cons_succ,yM,yP]
                    rfl
                  refine Ya (i:=10) (N:=some 52) (v:=?_) (a':=?_) #[true,true,true,true,true,true,true,true,true,true,true,false,false,false,false,false,false,false,false,false,false,false,false,false,false,false] rfl rfl (yN HT_.out Zk) (fun _ _ _ h=>h) (Or.inl ⟨by rfl,?_⟩) ?_ ?_
                  rotate_left
                  · intro w'
                    go_simp
                    with_reducible rfl
                  rotate_left
                  · simp only [Act.put,List.setIfInBounds_toArray,List.set_cons_zero,List.set_cons_succ,yM,yP]
                    rfl
                  refine Ya (i:=11) (N:=some 53) (v:=undef) (a':=?_) #[true,true,true,true,true,true,true,true,true,true,true,true,false,false,false,false,false,false,false,false,false,false,false,false,false,false] rfl rfl (yN HT_.out Zk) (fun _ _ _ h=>h) (Or.inr ⟨by rfl,rfl⟩) ?_ ?_
                  rotate_left
                  · simp only [Act.put,List.setIfInBounds_toArray,List.set_cons_zero,List.set_cons_succ,yM,yP]
                    rfl
                  refine Ya (i:=12) (N:=some 54) (v:=undef) (a':=?_) #[true,true,true,true,true,true,true,true,true,true,true,true,true,false,false,false,false,false,false,false,false,false,false,false,false,false] rfl rfl (yN HT_.out Zk) (fun _ _ _ h=>h) (Or.inr ⟨by rfl,rfl⟩) ?_ ?_
                  rotate_left
                  · simp only [Act.put,List.setIfInBounds_toArray,List.set_cons_zero,List.set_cons_succ,yM,yP]
                    rfl
                  refine Ya (i:=13) (N:=some 55) (v:=undef) (a':=?_) #[true,true,true,true,true,true,true,true,true,true,true,true,true,true,false,false,false,false,false,false,false,false,false,false,false,false] rfl rfl (yN HT_.out Zk) (fun _ _ _ h=>h) (Or.inr ⟨by rfl,rfl⟩) ?_ ?_
                  rotate_left
                  · simp only [Act.put,List.setIfInBounds_toArray,List.set_cons_zero,List.set_cons_succ,yM,yP]
                    rfl
                  refine Ya (i:=14) (N:=some 56) (v:=undef) (a':=?_) #[true,true,true,true,true,true,true,true,true,true,true,true,true,true,true,false,false,false,false,false,false,false,false,false,false,false] rfl rfl (yN HT_.out Zk) (fun _ _ _ h=>h) (Or.inr ⟨by rfl,rfl⟩) ?_ ?_
                  rotate_left
                  · simp only [Act.put,List.setIfInBounds_toArray,List.set_cons_zero,List.set_cons_succ,yM,yP]
                    rfl
                  refine Ya (i:=15) (N:=some 57) (v:=undef) (a':=?_) #[true,true,true,true,true,true,true,true,true,true,true,true,true,true,true,true,false,false,false,false,false,false,false,false,false,false] rfl rfl (yN HT_.out Zk) (fun _ _ _ h=>h) (Or.inr ⟨by rfl,rfl⟩) ?_ ?_
                  rotate_left
                  · simp only [Act.put,List.setIfInBounds_toArray,List.set_cons_zero,List.set_cons_succ,yM,yP]
                    rfl
                  refine Ya (i:=16) (N:=some 58) (v:=undef) (a':=?_) #[true,true,true,true,true,true,true,true,true,true,true,true,true,true,true,true,true,false,false,false,false,false,false,false,false,false] rfl rfl (yN HT_.out Zk) (fun _ _ _ h=>h) (Or.inr ⟨by rfl,rfl⟩) ?_ ?_
                  rotate_left
                  · simp only [Act.put,List.setIfInBounds_toArray,List.set_cons_zero,List.set_cons_succ,yM,yP]
                    rfl
                  refine Ya (i:=17) (N:=some 59) (v:=undef) (a':=?_) #[true,true,true,true,true,true,true,true,true,true,true,true,true,true,true,true,true,true,false,false,false,false,false,false,false,false] rfl rfl (yN HT_.out Zk) (fun _ _ _ h=>h) (Or.inr ⟨by rfl,rfl⟩) ?_ ?_
                  rotate_left
                  · simp only [Act.put,List.setIfInBounds_toArray,List.set_cons_zero,List.set_cons_succ,yM,yP]
                    rfl
                  refine Ya (i:=18) (N:=some 60) (v:=?_) (a':=?_) #[true,true,true,true,true,true,true,true,true,true,true,true,true,true,true,true,true,true,true,false,false,false,false,false,false,false] rfl rfl (yN HT_.out Zk) (fun _ _ _ h=>h) (Or.inl ⟨by rfl,?_⟩) ?_ ?_
                  rotate_left
                  · intro w'
                    go_simp
                    with_reducible rfl
                  rotate_left
                  · simp only [Act.put,List.setIfInBounds_toArray,List.set_cons_zero,List.set_cons_succ,yM,yP]
                    rfl
                  refine Ya (i:=19) (N:=some 61) (v:=?_) (a':=?_) #[true,true,true,true,true,true,true,true,true,true,true,true,true,true,true,true,true,true,true,true,false,false,false,false,false,false] rfl rfl (yN HT_.out Zk) (fun _ _ _ h=>h) (Or.inl ⟨by rfl,?_⟩) ?_ ?_
                  rotate_left
                  · intro w'
                    go_simp
                    with_reducible rfl
                  rotate_left
                  · simp only [Act.put,List.setIfInBounds_toArray,List.set_cons_zero,List.set_cons_succ,yM,yP]
                    rfl
                  refine Ya (i:=20) (N:=some 62) (v:=undef) (a':=?_) #[true,true,true,true,true,true,true,true,true,true,true,true,true,true,true,true,true,true,true,true,true,false,false,false,false,false] rfl rfl (yN HT_.out Zk) (fun _ _ _ h=>h) (Or.inr ⟨by rfl,rfl⟩) ?_ ?_
                  rotate_left
                  · simp only [Act.put,List.setIfInBounds_toArray,List.set_cons_zero,List.set_cons_succ,yM,yP]
                    rfl
                  refine Ya (i:=21) (N:=some 63) (v:=undef) (a':=?_) #[true,true,true,true,true,true,true,true,true,true,true,true,true,true,true,true,true,true,true,true,true,true,false,false,false,false] rfl rfl (yN HT_.out Zk) (fun _ _ _ h=>h) (Or.inr ⟨by rfl,rfl⟩) ?_ ?_
                  rotate_left
                  · simp only [Act.put,List.setIfInBounds_toArray,List.set_cons_zero,List.set_cons_succ,yM,yP]
                    rfl
                  refine Ya (i:=22) (N:=some 64) (v:=undef) (a':=?_) #[true,true,true,true,true,true,true,true,true,true,true,true,true,true,true,true,true,true,true,true,true,true,true,false,false,false] rfl rfl (yN HT_.out Zk) (fun _ _ _ h=>h) (Or.inr ⟨by rfl,rfl⟩) ?_ ?_
                  rotate_left
                  · simp only [Act.put,List.setIfInBounds_toArray,List.set_cons_zero,List.set_cons_succ,yM,yP]
                    rfl
                  refine Ya (i:=23) (N:=some 65) (v:=undef) (a':=?_) #[true,true,true,true,true,true,true,true,true,true,true,true,true,true,true,true,true,true,true,true,true,true,true,true,false,false] rfl rfl (yN HT_.out Zk) (fun _ _ _ h=>h) (Or.inr ⟨by rfl,rfl⟩) ?_ ?_
                  rotate_left
                  · simp only [Act.put,List.setIfInBounds_toArray,List.set_cons_zero,List.set_cons_succ,yM,yP]
                    rfl
                  refine Ya (i:=24) (N:=some 66) (v:=undef) (a':=?_) #[true,true,true,true,true,true,true,true,true,true,true,true,true,true,true,true,true,true,true,true,true,true,true,true,true,false] rfl rfl (yN HT_.out Zk) (fun _ _ _ h=>h) (Or.inr ⟨by rfl,rfl⟩) ?_ ?_
                  rotate_left
                  · simp only [Act.put,List.setIfInBounds_toArray,List.set_cons_zero,List.set_cons_succ,yM,yP]
                    rfl
                  refine Ya (i:=25) (N:=some 67) (v:=?_) (a':=?_) #[true,true,true,true,true,true,true,true,true,true,true,true,true,true,true,true,true,true,true,true,true,true,true,true,true,true] rfl rfl (yN HT_.out Zk) (fun _ _ _ h=>h) (Or.inl ⟨by rfl,?_⟩) ?_ ?_
                  rotate_left
                  · intro w'
                    go_simp
                    with_reducible rfl
                  rotate_left
                  · simp only [Act.put,List.setIfInBounds_toArray,List.set_cons_zero,List.set_cons_succ,yM,yP]
                    rfl
                  refine done_ (QW HT_.out Zk) ?_
                  try go_wp2
                  go_meet
                  case rel=>exact ⟨_,(true),(by first|rfl|(simp;done)|(simp [*];done)|(simp [yn];done)),H',⟨by have:=HJ2.out;have:=HK2.out;first|omega|exact Nat.le_refl _⟩,⟨by refine Zr ?_;exact Kd.Yr HO_4.out (fun _ hk=>⟨hk.1.1,⟨hk.1.2,hk.2⟩⟩)⟩,⟨by refine Zn ?_;exact Kd.YC HO_5.out (fun _ hk=>⟨hk.1.1.1,⟨hk.1.1.2,⟨hk.1.2,hk.2⟩⟩⟩)⟩,⟨by refine Zr ?_;exact Kd.Yr HO169.out (fun _ hk=>⟨hk.1.1.1,⟨hk.1.2,hk.2⟩⟩)⟩,⟨by refine Zr ?_;exact Kd.Yr HO173.out (fun _ hk=>⟨hk.1.1.1,⟨hk.1.2,hk.2⟩⟩)⟩,⟨by repeat (first|(with_reducible first|exact HB.out|apply yl|apply ym|apply yp)|exact HB.out)⟩⟩
                · rw [if_neg c21] at H
                  have c21b0:decide ((t167.length:Int)<2)=false:=decide_eq_false c21
                  have c21b1:decide (t167.length<2)=false:=decide_eq_false Zo
                  clear c21
                  (first|rw [c21b0]|(simp only [yM,yP];rw [c21b0])|skip)
                  by_cases c24:(t167.length:Int)=(t171.length:Int)
                  · rw [if_pos c24] at H
                    have c24b0:((t167.length:Int) == (t171.length:Int))=true:=beq_iff_eq.mpr c24
                    have c24b1:((t167.length:Int) != (t171.length:Int))=false:=bne_eq_false_iff_eq.mpr c24
                    have c24b2:(t167.length == t171.length)=true:=by first|simpa using c24|(simp at c24 ⊢;omega)
                    clear c24
                    by_cases c25:0<(t167.length:Int)
                    · rw [if_pos c25] at H
                      have c25b0:decide (0<(t167.length:Int))=true:=decide_eq_true c25
                      have c25b1:decide (0<t167.length)=true:=decide_eq_true Zo
                      clear c25
                      by_cases c26:0<(t171.length:Int)
                      · rw [if_pos c26] at H
                        have c26b0:decide (0<(t171.length:Int))=true:=decide_eq_true c26
                        have c26b1:decide (0<t171.length)=true:=decide_eq_true Zo
                        clear c26
                        by_cases c27:(yU ByteArray.empty t167 0).toList=(yU ByteArray.empty t171 0).toList
                        · rw [if_pos c27] at H
                          have c27b0:((yU ByteArray.empty t167 0).toList == (yU ByteArray.empty t171 0).toList)=true:=beq_iff_eq.mpr c27
                          have c27b1:((yU ByteArray.empty t167 0).toList != (yU ByteArray.empty t171 0).toList)=false:=bne_eq_false_iff_eq.mpr c27
                          clear c27
                          replace H:=Option.bind_eq_some_iff.mp H
                          obtain ⟨t177,A280,H⟩:=H
                          replace H:(yh.j2 k2 a0 t162 x5_2 x6_2 t167 t171 (!t177))=some (r1,r2):=H
                          have A28:=yc.mk A280
                          clear A280
                          have H':=yc.mk H
                          clear H
                          try go_wp2
                          have n0_:=yc.mk (Kd.qh HO_4.out)
                          have n1_:=yc.mk (Kd.yb7 HO_5.out)
                          have n2_:=yc.mk (Kd.qh HO169.out)
                          have n3_:=yc.mk (Kd.qh HO173.out)
                          have n4_:=yc.mk (yp HB.out)
                          clear HO_4
                          clear HO_5
                          clear HO169
                          clear HO173
                          clear HB
                          have HO_4:=n0_
                          have HO_5:=n1_
                          have HO169:=n2_
                          have HO173:=n3_
                          have HB:=n4_
                          clear n0_ n1_ n2_ n3_ n4_
                          obtain ⟨Ao30,co30,eo30⟩:=Kd.YF HO169.out
                          (first|subst eo30|(injection eo30 with f1_ f2_ f3_;have f4_:=f1_.symm;have f5_:=f3_.symm;clear f1_ f2_ f3_;subst f4_;subst f5_))
                          obtain ⟨Ao31,co31,eo31⟩:=Kd.YF HO173.out
                          (first|subst eo31|(injection eo31 with f1_ f2_ f3_;have f4_:=f1_.symm;have f5_:=f3_.symm;clear f1_ f2_ f3_;subst f4_;subst f5_))
                          have p174:0≤(0:Int):=Zo
                          have q174:0<(t167.length:Int):=of_decide_eq_true (by first|(with_reducible assumption)|assumption)
                          obtain ⟨ad174,e174,hx174_0⟩:=Kd.YH (Kd.YK HO169.out).2.2 0 p174 q174
                          cases e174
                          have qi174:(0<t167.length)=True:=eq_true Zo
                          (try rw [show ((0:Int)).toNat=0 from rfl] at hx174_0)
                          (try rw [Addr.add_zero'] at hx174_0)
                          replace p174:=eq_true p174
                          replace q174:=eq_true q174
                          have p175:0≤(0:Int):=Zo
                          have q175:0<(t171.length:Int):=of_decide_eq_true (by first|(with_reducible assumption)|assumption)
                          obtain ⟨ad175,e175,hx175_0⟩:=Kd.YH (Kd.YK HO173.out).2.2 0 p175 q175
                          cases e175
                          have qi175:(0<t171.length)=True:=eq_true Zo
                          (try rw [show ((0:Int)).toNat=0 from rfl] at hx175_0)
                          (try rw [Addr.add_zero'] at hx175_0)
                          replace p175:=eq_true p175
                          replace q175:=eq_true q175
                          have p176:0≤(0:Int):=Zo
                          have q176:0<(t167.length:Int):=of_decide_eq_true (by first|(with_reducible assumption)|assumption)
                          obtain ⟨ad176,e176,hx176_0⟩:=Kd.YH (Kd.YK HO169.out).2.2 0 p176 q176
                          obtain rfl:ad174=ad176:=(by injection e176)
                          have qi176:(0<t167.length)=True:=eq_true Zo
                          (try rw [show ((0:Int)).toNat=0 from rfl] at hx176_0)
                          (try rw [Addr.add_zero'] at hx176_0)
                          replace p176:=eq_true p176
                          replace q176:=eq_true q176
                          refine QQ (n:=26) (S:=fun w'=>w'.cell? ad174=some (.string (yU ByteArray.empty t167 0))∧w'.cell? ad175=some (.string (yU ByteArray.empty t171 0))∧w'.cell? ad174=some (.string (yU ByteArray.empty t167 0))) (ds:=[]) #[false,false,false,false,false,false,false,false,false,false,false,false,false,false,false,false,false,false,false,false,false,false,false,false,false,false] Zk rfl rfl ⟨hx174_0,hx175_0,hx176_0⟩ (fun hHeld=>?_);refine qP yh.tab9 yh.bits9 (fun HT_ HW_=>?_)
                          generalize w20.drew=w29 at HO_4 HO_5 HO169 HO173 HB hx174_0 hx175_0 hx176_0 hHeld ⊢
                          refine Ya (i:=0) (N:=some 42) (v:=?_) (a':=?_) #[true,false,false,false,false,false,false,false,false,false,false,false,false,false,false,false,false,false,false,false,false,false,false,false,false,false] rfl rfl (yN HT_.out Zk) (fun _ _ _ h=>h) (Or.inl ⟨by rfl,?_⟩) ?_ ?_
                          rotate_left
                          · intro w'
                            go_simp
                            with_reducible rfl
                          rotate_left
                          · simp only [Act.put,List.setIfInBounds_toArray,List.set_cons_zero,List.set_cons_succ,yM,yP]
                            rfl
                          refine Ya (i:=1) (N:=some 43) (v:=?_) (a':=?_) #[true,true,false,false,false,false,false,false,false,false,false,false,false,false,false,false,false,false,false,false,false,false,false,false,false,false] rfl rfl (yN HT_.out Zk) (fun _ _ _ h=>h) (Or.inl ⟨by rfl,?_⟩) ?_ ?_
                          rotate_left
                          · intro w'
                            go_simp
                            with_reducible rfl
                          rotate_left
                          · simp only [Act.put,List.setIfInBounds_toArray,List.set_cons_zero,List.set_cons_succ,yM,yP]
                            rfl
                          refine Ya (i:=2) (N:=some 44) (v:=?_) (a':=?_) #[true,true,true,false,false,false,false,false,false,false,false,false,false,false,false,false,false,false,false,false,false,false,false,false,false,false] rfl rfl (yN HT_.out Zk) (fun _ _ _ h=>h) (Or.inl ⟨by rfl,?_⟩) ?_ ?_
                          rotate_left
                          · intro w'
                            go_simp
                            with_reducible rfl
                          rotate_left
                          · simp only [Act.put,List.setIfInBounds_toArray,List.set_cons_zero,List.set_cons_succ,yM,yP]
                            rfl
                          refine Ya (i:=3) (N:=some 45) (v:=?_) (a':=?_) #[true,true,true,true,false,false,false,false,false,false,false,false,false,false,false,false,false,false,false,false,false,false,false,false,false,false] rfl rfl (yN HT_.out Zk) (fun _ _ _ h=>h) (Or.inl ⟨by rfl,?_⟩) ?_ ?_
                          rotate_left
                          · intro w'
                            go_simp
                            with_reducible rfl
                          rotate_left
                          · simp only [Act.put,List.setIfInBounds_toArray,List.set_cons_zero,List.set_cons_succ,yM,yP]
                            rfl
                          refine Ya (i:=4) (N:=some 46) (v:=?_) (a':=?_) #[true,true,true,true,true,false,false,false,false,false,false,false,false,false,false,false,false,false,false,false,false,false,false,false,false,false] rfl rfl (yN HT_.out Zk) (fun _ _ _ h=>h) (Or.inl ⟨by rfl,?_⟩) ?_ ?_
                          rotate_left
                          · intro w'
                            go_simp
                            with_reducible rfl
                          rotate_left
                          · simp only [Act.put,List.setIfInBounds_toArray,List.set_cons_zero,List.set_cons_succ,yM,yP]
                            rfl
                          refine Ya (i:=5) (N:=some 47) (v:=?_) (a':=?_) #[true,true,true,true,true,true,false,false,false,false,false,false,false,false,false,false,false,false,false,false,false,false,false,false,false,false] rfl rfl (yN HT_.out Zk) (fun _ _ _ h=>h) (Or.inl ⟨by rfl,?_⟩) ?_ ?_
                          rotate_left
                          · intro w'
                            go_simp
                            with_reducible rfl
                          rotate_left
                          · simp only [Act.put,List.setIfInBounds_toArray,List.set_cons_zero,List.set_cons_succ,yM,yP]
                            rfl
                          refine Ya (i:=6) (N:=some 48) (v:=?_) (a':=?_) #[true,true,true,true,true,true,true,false,false,false,false,false,false,false,false,false,false,false,false,false,false,false,false,false,false,false] rfl rfl (yN HT_.out Zk) (fun _ _ _ h=>h) (Or.inl ⟨by rfl,?_⟩) ?_ ?_
                          rotate_left
                          · intro w'
                            go_simp
                            with_reducible rfl
                          rotate_left
                          · simp only [Act.put,List.setIfInBounds_toArray,List.set_cons_zero,List.set_cons_succ,yM,yP]
                            rfl
                          refine Ya (i:=7) (N:=some 49) (v:=?_) (a':=?_) #[true,true,true,true,true,true,true,true,false,false,false,false,false,false,false,false,false,false,false,false,false,false,false,false,false,false] rfl rfl (yN HT_.out Zk) (fun _ _ _ h=>h) (Or.inl ⟨by rfl,?_⟩) ?_ ?_
                          rotate_left
                          · intro w'
                            go_simp
                            with_reducible rfl
                          rotate_left
                          · simp only [Act.put,List.setIfInBounds_toArray,List.set_cons_zero,List.set_cons_succ,yM,yP]
                            rfl
                          refine Ya (i:=8) (N:=some 50) (v:=?_) (a':=?_) #[true,true,true,true,true,true,true,true,true,false,false,false,false,false,false,false,false,false,false,false,false,false,false,false,false,false] rfl rfl (yN HT_.out Zk) (fun _ _ _ h=>h) (Or.inl ⟨by rfl,?_⟩) ?_ ?_
                          rotate_left
                          · intro w'
                            go_simp
                            with_reducible rfl
                          rotate_left
                          · simp only [Act.put,List.setIfInBounds_toArray,List.set_cons_zero,List.set_cons_succ,yM,yP]
                            rfl
                          refine Ya (i:=9) (N:=some 51) (v:=?_) (a':=?_) #[true,true,true,true,true,true,true,true,true,true,false,false,false,false,false,false,false,false,false,false,false,false,false,false,false,false] rfl rfl (yN HT_.out Zk) (fun _ _ _ h=>h) (Or.inl ⟨by rfl,?_⟩) ?_ ?_
                          rotate_left
                          · intro w'
                            go_simp
                            with_reducible rfl
                          rotate_left
                          · simp only [Act.put,List.setIfInBounds_toArray,List.set_cons_zero,List.set_cons_succ,yM,yP]
                            rfl
                          refine Ya (i:=10) (N:=some 52) (v:=?_) (a':=?_) #[true,true,true,true,true,true,true,true,true,true,true,false,false,false,false,false,false,false,false,false,false,false,false,false,false,false] rfl rfl (yN HT_.out Zk) (fun _ _ _ h=>h) (Or.inl ⟨by rfl,?_⟩) ?_ ?_
                          rotate_left
                          · intro w'
                            go_simp
                            with_reducible rfl
                          rotate_left
                          · simp only [Act.put,List.setIfInBounds_toArray,List.set_cons_zero,List.set_cons_succ,yM,yP]
                            rfl
                          refine Ya (i:=11) (N:=some 53) (v:=?_) (a':=?_) #[true,true,true,true,true,true,true,true,true,true,true,true,false,false,false,false,false,false,false,false,false,false,false,false,false,false] rfl rfl (yN HT_.out Zk) (fun _ _ _ h=>h) (Or.inl ⟨by rfl,?_⟩) ?_ ?_
                          rotate_left
                          · intro w'
                            go_simp
                            with_reducible rfl
                          rotate_left
                          · simp only [Act.put,List.setIfInBounds_toArray,List.set_cons_zero,List.set_cons_succ,yM,yP]
                            rfl
                          refine Ya (i:=12) (N:=some 54) (v:=?_) (a':=?_) #[true,true,true,true,true,true,true,true,true,true,true,true,true,false,false,false,false,false,false,false,false,false,false,false,false,false] rfl rfl (yN HT_.out Zk) (fun _ _ _ h=>h) (Or.inl ⟨by rfl,?_⟩) ?_ ?_
                          rotate_left
                          · intro w'
                            go_simp
                            with_reducible rfl
                          rotate_left
                          · simp only [Act.put,List.setIfInBounds_toArray,List.set_cons_zero,List.set_cons_succ,yM,yP]
                            rfl
                          refine Ya (i:=14) (N:=some 56) (v:=?_) (a':=?_) #[true,true,true,true,true,true,true,true,true,true,true,true,true,false,true,false,false,false,false,false,false,false,false,false,false,false] rfl rfl (yN HT_.out Zk) (fun _ _ _ h=>h) (Or.inl ⟨by rfl,?_⟩) ?_ ?_
                          rotate_left
                          · intro w'
                            go_simp
                            with_reducible rfl
                          rotate_left
                          · simp only [Act.put,List.setIfInBounds_toArray,List.set_cons_zero,List.set_cons_succ,yM,yP]
                            rfl
                          refine Ya (i:=15) (N:=some 57) (v:=?_) (a':=?_) #[true,true,true,true,true,true,true,true,true,true,true,true,true,false,true,true,false,false,false,false,false,false,false,false,false,false] rfl rfl (yN HT_.out Zk) (fun _ _ _ h=>h) (Or.inl ⟨by rfl,?_⟩) ?_ ?_
                          rotate_left
                          · intro w'
                            go_simp
                            with_reducible rfl
                          rotate_left
                          · simp only [Act.put,List.setIfInBounds_toArray,List.set_cons_zero,List.set_cons_succ,yM,yP]
                            rfl
                          refine Q1 (i:=13) (N:=some 55) (v:=?_) (a':=?_) #[true,true,true,true,true,true,true,true,true,true,true,true,true,true,true,true,false,false,false,false,false,false,false,false,false,false] rfl rfl (qq HT_.out HW_.out Zk) (fun _ _ _ h=>h) (Or.inl ⟨by rfl,?_⟩) hHeld ?_ ?_
                          rotate_left
                          · rintro w' ⟨s0,s1,s2⟩
                            go_simp
                            with_reducible rfl
                          rotate_left
                          · simp only [Act.put,List.setIfInBounds_toArray,List.set_cons_zero,List.set_cons_succ,yM,yP]
                            rfl
                          refine Q1 (i:=16) (N:=some 58) (v:=?_) (a':=?_) #[true,true,true,true,true,true,true,true,true,true,true,true,true,true,true,true,true,false,false,false,false,false,false,false,false,false] rfl rfl (qq HT_.out HW_.out Zk) (fun _ _ _ h=>h) (Or.inl ⟨by rfl,?_⟩) hHeld ?_ ?_
                          rotate_left
                          · rintro w' ⟨s0,s1,s2⟩
                            go_simp
                            with_reducible rfl
                          rotate_left
                          · simp only [Act.put,List.setIfInBounds_toArray,List.set_cons_zero,List.set_cons_succ,yM,yP]
                            rfl
                          refine Ya (i:=17) (N:=some 59) (v:=?_) (a':=?_) #[true,true,true,true,true,true,true,true,true,true,true,true,true,true,true,true,true,true,false,false,false,false,false,false,false,false] rfl rfl (yN HT_.out Zk) (fun _ _ _ h=>h) (Or.inl ⟨by rfl,?_⟩) ?_ ?_
                          rotate_left
                          · intro w'
                            go_simp
                            with_reducible rfl
                          rotate_left
                          · simp only [Act.put,List.setIfInBounds_toArray,List.set_cons_zero,List.set_cons_succ,yM,yP]
                            rfl
                          refine Ya (i:=18) (N:=some 60) (v:=?_) (a':=?_) #[true,true,true,true,true,true,true,true,true,true,true,true,true,true,true,true,true,true,true,false,false,false,false,false,false,false] rfl rfl (yN HT_.out Zk) (fun _ _ _ h=>h) (Or.inl ⟨by rfl,?_⟩) ?_ ?_
                          rotate_left
                          · intro w'
                            go_simp
                            with_reducible rfl
                          rotate_left
                          · simp only [Act.put,List.setIfInBounds_toArray,List.set_cons_zero,List.set_cons_succ,yM,yP]
                            rfl
                          refine Ya (i:=19) (N:=some 61) (v:=?_) (a':=?_) #[true,true,true,true,true,true,true,true,true,true,true,true,true,true,true,true,true,true,true,true,false,false,false,false,false,false] rfl rfl (yN HT_.out Zk) (fun _ _ _ h=>h) (Or.inl ⟨by rfl,?_⟩) ?_ ?_
                          rotate_left
                          · intro w'
                            go_simp
                            with_reducible rfl
                          rotate_left
                          · simp only [Act.put,List.setIfInBounds_toArray,List.set_cons_zero,List.set_cons_succ,yM,yP]
                            rfl
                          refine Ya (i:=20) (N:=some 62) (v:=?_) (a':=?_) #[true,true,true,true,true,true,true,true,true,true,true,true,true,true,true,true,true,true,true,true,true,false,false,false,false,false] rfl rfl (yN HT_.out Zk) (fun _ _ _ h=>h) (Or.inl ⟨by rfl,?_⟩) ?_ ?_
                          rotate_left
                          · intro w'
                            go_simp
                            with_reducible rfl
                          rotate_left
                          · simp only [Act.put,List.setIfInBounds_toArray,List.set_cons_zero,List.set_cons_succ,yM,yP]
                            rfl
                          refine Ya (i:=21) (N:=some 63) (v:=?_) (a':=?_) #[true,true,true,true,true,true,true,true,true,true,true,true,true,true,true,true,true,true,true,true,true,true,false,false,false,false] rfl rfl (yN HT_.out Zk) (fun _ _ _ h=>h) (Or.inl ⟨by rfl,?_⟩) ?_ ?_
                          rotate_left
                          · intro w'
                            go_simp
                            with_reducible rfl
                          rotate_left
                          · simp only [Act.put,List.setIfInBounds_toArray,List.set_cons_zero,List.set_cons_succ,yM,yP]
                            rfl
                          refine Q1 (i:=22) (N:=some 64) (v:=?_) (a':=?_) #[true,true,true,true,true,true,true,true,true,true,true,true,true,true,true,true,true,true,true,true,true,true,true,false,false,false] rfl rfl (qq HT_.out HW_.out Zk) (fun _ _ _ h=>h) (Or.inl ⟨by rfl,?_⟩) hHeld ?_ ?_
                          rotate_left
                          · rintro w' ⟨s0,s1,s2⟩
                            go_simp
                            with_reducible rfl
                          rotate_left
                          · simp only [Act.put,List.setIfInBounds_toArray,List.set_cons_zero,List.set_cons_succ,yM,yP]
                            rfl
                          refine one_ (i:=23) (N:=some 65) #[true,true,true,true,true,true,true,true,true,true,true,true,true,true,true,true,true,true,true,true,true,true,true,true,false,false] rfl rfl (Qk HT_.out Zk) Zd (fun K hK=>?_)
                          refine goes_ Tryz.func26 Zk rfl #[.string (yU ByteArray.empty t167 0),.string (⟨#[58]⟩:ByteArray)] (by rfl) rfl rfl (by (try simp only [List.map_toArray,List.map_cons,List.map_nil]);first|done|rfl|(simp only [List.length_drop,List.length_take];rfl)) ?_
                          with_reducible refine (JN.calls (yU ByteArray.empty t167 0) (⟨#[58]⟩:ByteArray) t177 _ A28.out).mono ?_
                          rintro e w' ⟨rfl,⟨nd,rfl⟩⟩
                          refine ⟨_,rfl,?_⟩
                          refine hK.out _ _ ⟨hHeld.1,hHeld.2.1,hHeld.2.2⟩ (fun hHeld=>?_)
                          clear hK K
                          refine qV (a':=?_) ?_ ?_
                          rotate_left
                          · show Act.put _ (some 65) _=_
                            simp only [Act.put,List.setIfInBounds_toArray,List.set_cons_zero,List.set_cons_succ,yM,yP]
                            rfl
                          refine Ya (i:=24) (N:=some 66) (v:=?_) (a':=?_) #[true,true,true,true,true,true,true,true,true,true,true,true,true,true,true,true,true,true,true,true,true,true,true,true,true,false] rfl rfl (yN HT_.out Zk) (fun _ _ _ h=>h) (Or.inl ⟨by rfl,?_⟩) ?_ ?_
                          rotate_left
                          · intro w'
                            go_simp
                            with_reducible rfl
                          rotate_left
                          · simp only [Act.put,List.setIfInBounds_toArray,List.set_cons_zero,List.set_cons_succ,yM,yP]
                            rfl
                          refine Ya (i:=25) (N:=some 67) (v:=?_) (a':=?_) #[true,true,true,true,true,true,true,true,true,true,true,true,true,true,true,true,true,true,true,true,true,true,true,true,true,true] rfl rfl (yN HT_.out Zk) (fun _ _ _ h=>h) (Or.inl ⟨by rfl,?_⟩) ?_ ?_
                          rotate_left
                          · intro w'
                            go_simp
                            with_reducible rfl
                          rotate_left
                          · simp only [Act.put,List.setIfInBounds_toArray,List.set_cons_zero,List.set_cons_succ,yM,yP]
                            rfl
                          refine done_ (QW HT_.out Zk) ?_
                          try go_wp2
                          go_meet
                          case rel=>exact ⟨_,(!t177),(by first|rfl|(simp;done)|(simp [*];done)|(simp [yn];done)),H',⟨by have:=HJ2.out;have:=HK2.out;first|omega|exact Nat.le_refl _⟩,⟨by refine Zr ?_;exact Kd.Yr HO_4.out (fun _ hk=>⟨hk.1.1,⟨hk.1.2,hk.2⟩⟩)⟩,⟨by refine Zn ?_;exact Kd.YC HO_5.out (fun _ hk=>⟨hk.1.1.1,⟨hk.1.1.2,⟨hk.1.2,hk.2⟩⟩⟩)⟩,⟨by refine Zr ?_;exact Kd.Yr HO169.out (fun _ hk=>⟨hk.1.1.1,⟨hk.1.2,hk.2⟩⟩)⟩,⟨by refine Zr ?_;exact Kd.Yr HO173.out (fun _ hk=>⟨hk.1.1.1,⟨hk.1.2,hk.2⟩⟩)⟩,⟨by repeat (first|(with_reducible first|exact HB.out|apply yl|apply ym|apply yp)|exact HB.out)⟩⟩
                        · rw [if_neg c27] at H
                          have c27b0:((yU ByteArray.empty t167 0).toList == (yU ByteArray.empty t171 0).toList)=false:=beq_eq_false_iff_ne.mpr c27
                          have c27b1:((yU ByteArray.empty t167 0).toList != (yU ByteArray.empty t171 0).toList)=true:=bne_iff_ne.mpr c27
                          have H':=yc.mk H
                          clear H
                          try go_wp2
                          have n0_:=yc.mk (Kd.qh HO_4.out)
                          have n1_:=yc.mk (Kd.yb7 HO_5.out)
                          have n2_:=yc.mk (Kd.qh HO169.out)
                          have n3_:=yc.mk (Kd.qh HO173.out)
                          have n4_:=yc.mk (yp HB.out)
                          clear HO_4
                          clear HO_5
                          clear HO169
                          clear HO173
                          clear HB
                          have HO_4:=n0_
                          have HO_5:=n1_
                          have HO169:=n2_
                          have HO173:=n3_
                          have HB:=n4_
                          clear n0_ n1_ n2_ n3_ n4_
                          obtain ⟨Ao33,co33,eo33⟩:=Kd.YF HO169.out
                          (first|subst eo33|(injection eo33 with f1_ f2_ f3_;have f4_:=f1_.symm;have f5_:=f3_.symm;clear f1_ f2_ f3_;subst f4_;subst f5_))
                          obtain ⟨Ao34,co34,eo34⟩:=Kd.YF HO173.out
                          (first|subst eo34|(injection eo34 with f1_ f2_ f3_;have f4_:=f1_.symm;have f5_:=f3_.symm;clear f1_ f2_ f3_;subst f4_;subst f5_))
                          have p174:0≤(0:Int):=Zo
                          have q174:0<(t167.length:Int):=of_decide_eq_true (by first|(with_reducible assumption)|assumption)
                          obtain ⟨ad174,e174,hx174_0⟩:=Kd.YH (Kd.YK HO169.out).2.2 0 p174 q174
                          cases e174
                          have qi174:(0<t167.length)=True:=eq_true Zo
                          (try rw [show ((0:Int)).toNat=0 from rfl] at hx174_0)
                          (try rw [Addr.add_zero'] at hx174_0)
                          replace p174:=eq_true p174
                          replace q174:=eq_true q174
                          have p175:0≤(0:Int):=Zo
                          have q175:0<(t171.length:Int):=of_decide_eq_true (by first|(with_reducible assumption)|assumption)
                          obtain ⟨ad175,e175,hx175_0⟩:=Kd.YH (Kd.YK HO173.out).2.2 0 p175 q175
                          cases e175
                          have qi175:(0<t171.length)=True:=eq_true Zo
                          (try rw [show ((0:Int)).toNat=0 from rfl] at hx175_0)
                          (try rw [Addr.add_zero'] at hx175_0)
                          replace p175:=eq_true p175
                          replace q175:=eq_true q175
                          refine QQ (n:=26) (S:=fun w'=>w'.cell? ad174=some (.string (yU ByteArray.empty t167 0))∧w'.cell? ad175=some (.string (yU ByteArray.empty t171 0))) (ds:=[]) #[false,false,false,false,false,false,false,false,false,false,false,false,false,false,false,false,false,false,false,false,false,false,false,false,false,false] Zk rfl rfl ⟨hx174_0,hx175_0⟩ (fun hHeld=>?_);refine qP yh.tab9 yh.bits9 (fun HT_ HW_=>?_)
                          generalize w20.drew=w32 at HO_4 HO_5 HO169 HO173 HB hx174_0 hx175_0 hHeld ⊢
                          refine Ya (i:=0) (N:=some 42) (v:=?_) (a':=?_) #[true,false,false,false,false,false,false,false,false,false,false,false,false,false,false,false,false,false,false,false,false,false,false,false,false,false] rfl rfl (yN HT_.out Zk) (fun _ _ _ h=>h) (Or.inl ⟨by rfl,?_⟩) ?_ ?_
                          rotate_left
                          · intro w'
                            go_simp
                            with_reducible rfl
                          rotate_left
                          · simp only [Act.put,List.setIfInBounds_toArray,List.set_cons_zero,List.set_cons_succ,yM,yP]
                            rfl
                          refine Ya (i:=1) (N:=some 43) (v:=?_) (a':=?_) #[true,true,false,false,false,false,false,false,false,false,false,false,false,false,false,false,false,false,false,false,false,false,false,false,false,false] rfl rfl (yN HT_.out Zk) (fun _ _ _ h=>h) (Or.inl ⟨by rfl,?_⟩) ?_ ?_
                          rotate_left
                          · intro w'
                            go_simp
                            with_reducible rfl
                          rotate_left
                          · simp only [Act.put,List.setIfInBounds_toArray,List.set_cons_zero,List.set_cons_succ,yM,yP]
                            rfl
                          refine Ya (i:=2) (N:=some 44) (v:=?_) (a':=?_) #[true,true,true,false,false,false,false,false,false,false,false,false,false,false,false,false,false,false,false,false,false,false,false,false,false,false] rfl rfl (yN HT_.out Zk) (fun _ _ _ h=>h) (Or.inl ⟨by rfl,?_⟩) ?_ ?_
                          rotate_left
                          · intro w'
                            go_simp
                            with_reducible rfl
                          rotate_left
                          · simp only [Act.put,List.setIfInBounds_toArray,List.set_cons_zero,List.set_cons_succ,yM,yP]
                            rfl
                          refine Ya (i:=3) (N:=some 45) (v:=?_) (a':=?_) #[true,true,true,true,false,false,false,false,false,false,false,false,false,false,false,false,false,false,false,false,false,false,false,false,false,false] rfl rfl (yN HT_.out Zk) (fun _ _ _ h=>h) (Or.inl ⟨by rfl,?_⟩) ?_ ?_
                          rotate_left
                          · intro w'
                            go_simp
                            with_reducible rfl
                          rotate_left
                          · simp only [Act.put,List.setIfInBounds_toArray,List.set_cons_zero,List.set_cons_succ,yM,yP]
                            rfl
                          refine Ya (i:=4) (N:=some 46) (v:=?_) (a':=?_) #[true,true,true,true,true,false,false,false,false,false,false,false,false,false,false,false,false,false,false,false,false,false,false,false,false,false] rfl rfl (yN HT_.out Zk) (fun _ _ _ h=>h) (Or.inl ⟨by rfl,?_⟩) ?_ ?_
                          rotate_left
                          · intro w'
                            go_simp
                            with_reducible rfl
                          rotate_left
                          · simp only [Act.put,List.setIfInBounds_toArray,List.set_cons_zero,List.set_cons_succ,yM,yP]
                            rfl
                          refine Ya (i:=5) (N:=some 47) (v:=?_) (a':=?_) #[true,true,true,true,true,true,false,false,false,false,false,false,false,false,false,false,false,false,false,false,false,false,false,false,false,false] rfl rfl (yN HT_.out Zk) (fun _ _ _ h=>h) (Or.inl ⟨by rfl,?_⟩) ?_ ?_
                          rotate_left
                          · intro w'
                            go_simp
                            with_reducible rfl
                          rotate_left
                          · simp only [Act.put,List.setIfInBounds_toArray,List.set_cons_zero,List.set_cons_succ,yM,yP]
                            rfl
                          refine Ya (i:=6) (N:=some 48) (v:=?_) (a':=?_) #[true,true,true,true,true,true,true,false,false,false,false,false,false,false,false,false,false,false,false,false,false,false,false,false,false,false] rfl rfl (yN HT_.out Zk) (fun _ _ _ h=>h) (Or.inl ⟨by rfl,?_⟩) ?_ ?_
                          rotate_left
                          · intro w'
                            go_simp
                            with_reducible rfl
                          rotate_left
                          · simp only [Act.put,List.setIfInBounds_toArray,List.set_cons_zero,List.set_cons_succ,yM,yP]
                            rfl
                          refine Ya (i:=7) (N:=some 49) (v:=?_) (a':=?_) #[true,true,true,true,true,true,true,true,false,false,false,false,false,false,false,false,false,false,false,false,false,false,false,false,false,false] rfl rfl (yN HT_.out Zk) (fun _ _ _ h=>h) (Or.inl ⟨by rfl,?_⟩) ?_ ?_
                          rotate_left
                          · intro w'
                            go_simp
                            with_reducible rfl
                          rotate_left
                          · simp only [Act.put,List.setIfInBounds_toArray,List.set_cons_zero,List.set_cons_succ,yM,yP]
                            rfl
                          refine Ya (i:=8) (N:=some 50) (v:=?_) (a':=?_) #[true,true,true,true,true,true,true,true,true,false,false,false,false,false,false,false,false,false,false,false,false,false,false,false,false,false] rfl rfl (yN HT_.out Zk) (fun _ _ _ h=>h) (Or.inl ⟨by rfl,?_⟩) ?_ ?_
                          rotate_left
                          · intro w'
                            go_simp
                            with_reducible rfl
                          rotate_left
                          · simp only [Act.put,List.setIfInBounds_toArray,List.set_cons_zero,List.set_cons_succ,yM,yP]
                            rfl
                          refine Ya (i:=9) (N:=some 51) (v:=?_) (a':=?_) #[true,true,true,true,true,true,true,true,true,true,false,false,false,false,false,false,false,false,false,false,false,false,false,false,false,false] rfl rfl (yN HT_.out Zk) (fun _ _ _ h=>h) (Or.inl ⟨by rfl,?_⟩) ?_ ?_
                          rotate_left
                          · intro w'
                            go_simp
                            with_reducible rfl
                          rotate_left
                          · simp only [Act.put,List.setIfInBounds_toArray,List.set_cons_zero,List.set_cons_succ,yM,yP]
                            rfl
                          refine Ya (i:=10) (N:=some 52) (v:=?_) (a':=?_) #[true,true,true,true,true,true,true,true,true,true,true,false,false,false,false,false,false,false,false,false,false,false,false,false,false,false] rfl rfl (yN HT_.out Zk) (fun _ _ _ h=>h) (Or.inl ⟨by rfl,?_⟩) ?_ ?_
                          rotate_left
                          · intro w'
                            go_simp
                            with_reducible rfl
                          rotate_left
                          · simp only [Act.put,List.setIfInBounds_toArray,List.set_cons_zero,List.set_cons_succ,yM,yP]
                            rfl
                          refine Ya (i:=11) (N:=some 53) (v:=?_) (a':=?_) #[true,true,true,true,true,true,true,true,true,true,true,true,false,false,false,false,false,false,false,false,false,false,false,false,false,false] rfl rfl (yN HT_.out Zk) (fun _ _ _ h=>h) (Or.inl ⟨by rfl,?_⟩) ?_ ?_
                          rotate_left
                          · intro w'
                            go_simp
                            with_reducible rfl
                          rotate_left
                          · simp only [Act.put,List.setIfInBounds_toArray,List.set_cons_zero,List.set_cons_succ,yM,yP]
                            rfl
                          refine Ya (i:=12) (N:=some 54) (v:=?_) (a':=?_) #[true,true,true,true,true,true,true,true,true,true,true,true,true,false,false,false,false,false,false,false,false,false,false,false,false,false] rfl rfl (yN HT_.out Zk) (fun _ _ _ h=>h) (Or.inl ⟨by rfl,?_⟩) ?_ ?_
                          rotate_left
                          · intro w'
                            go_simp
                            with_reducible rfl
                          rotate_left
                          · simp only [Act.put,List.setIfInBounds_toArray,List.set_cons_zero,List.set_cons_succ,yM,yP]
                            rfl
                          refine Ya (i:=14) (N:=some 56) (v:=?_) (a':=?_) #[true,true,true,true,true,true,true,true,true,true,true,true,true,false,true,false,false,false,false,false,false,false,false,false,false,false] rfl rfl (yN HT_.out Zk) (fun _ _ _ h=>h) (Or.inl ⟨by rfl,?_⟩) ?_ ?_
                          rotate_left
                          · intro w'
                            go_simp
                            with_reducible rfl
                          rotate_left
                          · simp only [Act.put,List.setIfInBounds_toArray,List.set_cons_zero,List.set_cons_succ,yM,yP]
                            rfl
                          refine Ya (i:=15) (N:=some 57) (v:=?_) (a':=?_) #[true,true,true,true,true,true,true,true,true,true,true,true,true,false,true,true,false,false,false,false,false,false,false,false,false,false] rfl rfl (yN HT_.out Zk) (fun _ _ _ h=>h) (Or.inl ⟨by rfl,?_⟩) ?_ ?_
                          rotate_left
                          · intro w'
                            go_simp
                            with_reducible rfl
                          rotate_left
                          · simp only [Act.put,List.setIfInBounds_toArray,List.set_cons_zero,List.set_cons_succ,yM,yP]
                            rfl
                          refine Q1 (i:=13) (N:=some 55) (v:=?_) (a':=?_) #[true,true,true,true,true,true,true,true,true,true,true,true,true,true,true,true,false,false,false,false,false,false,false,false,false,false] rfl rfl (qq HT_.out HW_.out Zk) (fun _ _ _ h=>h) (Or.inl ⟨by rfl,?_⟩) hHeld ?_ ?_
                          rotate_left
                          · rintro w' ⟨s0,s1⟩
                            go_simp
                            with_reducible rfl
                          rotate_left
                          · simp only [Act.put,List.setIfInBounds_toArray,List.set_cons_zero,List.set_cons_succ,yM,yP]
                            rfl
                          refine Q1 (i:=16) (N:=some 58) (v:=?_) (a':=?_) #[true,true,true,true,true,true,true,true,true,true,true,true,true,true,true,true,true,false,false,false,false,false,false,false,false,false] rfl rfl (qq HT_.out HW_.out Zk) (fun _ _ _ h=>h) (Or.inl ⟨by rfl,?_⟩) hHeld ?_ ?_
                          rotate_left
                          · rintro w' ⟨s0,s1⟩
                            go_simp
                            with_reducible rfl
                          rotate_left
                          · simp only [Act.put,List.setIfInBounds_toArray,List.set_cons_zero,List.set_cons_succ,yM,yP]
                            rfl
                          refine Ya (i:=17) (N:=some 59) (v:=?_) (a':=?_) #[true,true,true,true,true,true,true,true,true,true,true,true,true,true,true,true,true,true,false,false,false,false,false,false,false,false] rfl rfl (yN HT_.out Zk) (fun _ _ _ h=>h) (Or.inl ⟨by rfl,?_⟩) ?_ ?_
                          rotate_left
                          · intro w'
                            go_simp
                            with_reducible rfl
                          rotate_left
                          · simp only [Act.put,List.setIfInBounds_toArray,List.set_cons_zero,List.set_cons_succ,yM,yP]
                            rfl
                          refine Ya (i:=18) (N:=some 60) (v:=?_) (a':=?_) #[true,true,true,true,true,true,true,true,true,true,true,true,true,true,true,true,true,true,true,false,false,false,false,false,false,false] rfl rfl (yN HT_.out Zk) (fun _ _ _ h=>h) (Or.inl ⟨by rfl,?_⟩) ?_ ?_
                          rotate_left
                          · intro w'
                            go_simp
                            with_reducible rfl
                          rotate_left
                          · simp only [Act.put,List.setIfInBounds_toArray,List.set_cons_zero,List.set_cons_succ,yM,yP]
                            rfl
                          refine Ya (i:=19) (N:=some 61) (v:=?_) (a':=?_) #[true,true,true,true,true,true,true,true,true,true,true,true,true,true,true,true,true,true,true,true,false,false,false,false,false,false] rfl rfl (yN HT_.out Zk) (fun _ _ _ h=>h) (Or.inl ⟨by rfl,?_⟩) ?_ ?_
                          rotate_left
                          · intro w'
                            go_simp
                            with_reducible rfl
                          rotate_left
                          · simp only [Act.put,List.setIfInBounds_toArray,List.set_cons_zero,List.set_cons_succ,yM,yP]
                            rfl
                          refine Ya (i:=20) (N:=some 62) (v:=undef) (a':=?_) #[true,true,true,true,true,true,true,true,true,true,true,true,true,true,true,true,true,true,true,true,true,false,false,false,false,false] rfl rfl (yN HT_.out Zk) (fun _ _ _ h=>h) (Or.inr ⟨by rfl,rfl⟩) ?_ ?_
                          rotate_left
                          · simp only [Act.put,List.setIfInBounds_toArray,List.set_cons_zero,List.set_cons_succ,yM,yP]
                            rfl
                          refine Ya (i:=21) (N:=some 63) (v:=undef) (a':=?_) #[true,true,true,true,true,true,true,true,true,true,true,true,true,true,true,true,true,true,true,true,true,true,false,false,false,false] rfl rfl (yN HT_.out Zk) (fun _ _ _ h=>h) (Or.inr ⟨by rfl,rfl⟩) ?_ ?_
                          rotate_left
                          · simp only [Act.put,List.setIfInBounds_toArray,List.set_cons_zero,List.set_cons_succ,yM,yP]
                            rfl
                          refine Ya (i:=22) (N:=some 64) (v:=undef) (a':=?_) #[true,true,true,true,true,true,true,true,true,true,true,true,true,true,true,true,true,true,true,true,true,true,true,false,false,false] rfl rfl (yN HT_.out Zk) (fun _ _ _ h=>h) (Or.inr ⟨by rfl,rfl⟩) ?_ ?_
                          rotate_left
                          · simp only [Act.put,List.setIfInBounds_toArray,List.set_cons_zero,List.set_cons_succ,yM,yP]
                            rfl
                          refine Ya (i:=23) (N:=some 65) (v:=undef) (a':=?_) #[true,true,true,true,true,true,true,true,true,true,true,true,true,true,true,true,true,true,true,true,true,true,true,true,false,false] rfl rfl (yN HT_.out Zk) (fun _ _ _ h=>h) (Or.inr ⟨by rfl,rfl⟩) ?_ ?_
                          rotate_left
                          · simp only [Act.put,List.setIfInBounds_toArray,List.set_cons_zero,List.set_cons_succ,yM,yP]
                            rfl
                          refine Ya (i:=24) (N:=some 66) (v:=undef) (a':=?_) #[true,true,true,true,true,true,true,true,true,true,true,true,true,true,true,true,true,true,true,true,true,true,true,true,true,false] rfl rfl (yN HT_.out Zk) (fun _ _ _ h=>h) (Or.inr ⟨by rfl,rfl⟩) ?_ ?_
                          rotate_left
                          · simp only [Act.put,List.setIfInBounds_toArray,List.set_cons_zero,List.set_cons_succ,yM,yP]
                            rfl
                          refine Ya (i:=25) (N:=some 67) (v:=?_) (a':=?_) #[true,true,true,true,true,true,true,true,true,true,true,true,true,true,true,true,true,true,true,true,true,true,true,true,true,true] rfl rfl (yN HT_.out Zk) (fun _ _ _ h=>h) (Or.inl ⟨by rfl,?_⟩) ?_ ?_
                          rotate_left
                          · intro w'
                            go_simp
                            with_reducible rfl
                          rotate_left
                          · simp only [Act.put,List.setIfInBounds_toArray,List.set_cons_zero,List.set_cons_succ,yM,yP]
                            rfl
                          refine done_ (QW HT_.out Zk) ?_
                          try go_wp2
                          go_meet
                          case rel=>exact ⟨_,(true),(by first|rfl|(simp;done)|(simp [*];done)|(simp [yn];done)),H',⟨by have:=HJ2.out;have:=HK2.out;first|omega|exact Nat.le_refl _⟩,⟨by refine Zr ?_;exact Kd.Yr HO_4.out (fun _ hk=>⟨hk.1.1,⟨hk.1.2,hk.2⟩⟩)⟩,⟨by refine Zn ?_;exact Kd.YC HO_5.out (fun _ hk=>⟨hk.1.1.1,⟨hk.1.1.2,⟨hk.1.2,hk.2⟩⟩⟩)⟩,⟨by refine Zr ?_;exact Kd.Yr HO169.out (fun _ hk=>⟨hk.1.1.1,⟨hk.1.2,hk.2⟩⟩)⟩,⟨by refine Zr ?_;exact Kd.Yr HO173.out (fun _ hk=>⟨hk.1.1.1,⟨hk.1.2,hk.2⟩⟩)⟩,⟨by repeat (first|(with_reducible first|exact HB.out|apply yl|apply ym|apply yp)|exact HB.out)⟩⟩
                      · rw [if_neg c26] at H
                        exact absurd H (by simp)
                    · rw [if_neg c25] at H
                      exact absurd H (by simp)
                  · rw [if_neg c24] at H
                    have c24b0:((t167.length:Int) == (t171.length:Int))=false:=beq_eq_false_iff_ne.mpr c24
                    have c24b1:((t167.length:Int) != (t171.length:Int))=true:=bne_iff_ne.mpr c24
                    have c24b2:(t167.length == t171.length)=false:=by first|simpa using c24|(simp at c24 ⊢;omega)
                    have H':=yc.mk H
                    clear H
                    try go_wp2
                    have n0_:=yc.mk (Kd.qh HO_4.out)
                    have n1_:=yc.mk (Kd.yb7 HO_5.out)
                    have n2_:=yc.mk (Kd.qh HO169.out)
                    have n3_:=yc.mk (Kd.qh HO173.out)
                    have n4_:=yc.mk (yp HB.out)
                    clear HO_4
                    clear HO_5
                    clear HO169
                    clear HO173
                    clear HB
                    have HO_4:=n0_
                    have HO_5:=n1_
                    have HO169:=n2_
                    have HO173:=n3_
                    have HB:=n4_
                    clear n0_ n1_ n2_ n3_ n4_
                    obtain ⟨Ao36,co36,eo36⟩:=Kd.YF HO169.out
                    (first|subst eo36|(injection eo36 with f1_ f2_ f3_;have f4_:=f1_.symm;have f5_:=f3_.symm;clear f1_ f2_ f3_;subst f4_;subst f5_))
                    obtain ⟨Ao37,co37,eo37⟩:=Kd.YF HO173.out
                    (first|subst eo37|(injection eo37 with f1_ f2_ f3_;have f4_:=f1_.symm;have f5_:=f3_.symm;clear f1_ f2_ f3_;subst f4_;subst f5_))
                    refine QQ (n:=26) (S:=fun w'=>True) (ds:=[]) #[false,false,false,false,false,false,false,false,false,false,false,false,false,false,false,false,false,false,false,false,false,false,false,false,false,false] Zk rfl rfl trivial (fun hHeld=>?_);refine qP yh.tab9 yh.bits9 (fun HT_ HW_=>?_)
                    generalize w20.drew=w35 at HO_4 HO_5 HO169 HO173 HB hHeld ⊢
                    refine Ya (i:=0) (N:=some 42) (v:=?_) (a':=?_) #[true,false,false,false,false,false,false,false,false,false,false,false,false,false,false,false,false,false,false,false,false,false,false,false,false,false] rfl rfl (yN HT_.out Zk) (fun _ _ _ h=>h) (Or.inl ⟨by rfl,?_⟩) ?_ ?_
                    rotate_left
                    · intro w'
                      go_simp
                      with_reducible rfl
                    rotate_left
                    · simp only [Act.put,List.setIfInBounds_toArray,List.set_cons_zero,List.set_cons_succ,yM,yP]
                      rfl
                    refine Ya (i:=1) (N:=some 43) (v:=?_) (a':=?_) #[true,true,false,false,false,false,false,false,false,false,false,false,false,false,false,false,false,false,false,false,false,false,false,false,false,false] rfl rfl (yN HT_.out Zk) (fun _ _ _ h=>h) (Or.inl ⟨by rfl,?_⟩) ?_ ?_
                    rotate_left
                    · intro w'
                      go_simp
                      with_reducible rfl
                    rotate_left
                    · simp only [Act.put,List.setIfInBounds_toArray,List.set_cons_zero,List.set_cons_succ,yM,yP]
                      rfl
                    refine Ya (i:=2) (N:=some 44) (v:=?_) (a':=?_) #[true,true,true,false,false,false,false,false,false,false,false,false,false,false,false,false,false,false,false,false,false,false,false,false,false,false] rfl rfl (yN HT_.out Zk) (fun _ _ _ h=>h) (Or.inl ⟨by rfl,?_⟩) ?_ ?_
                    rotate_left
                    · intro w'
                      go_simp
                      with_reducible rfl
                    rotate_left
                    · simp only [Act.put,List.setIfInBounds_toArray,List.set_cons_zero,List.set_cons_succ,yM,yP]
                      rfl
                    refine Ya (i:=3) (N:=some 45) (v:=?_) (a':=?_) #[true,true,true,true,false,false,false,false,false,false,false,false,false,false,false,false,false,false,false,false,false,false,false,false,false,false] rfl rfl (yN HT_.out Zk) (fun _ _ _ h=>h) (Or.inl ⟨by rfl,?_⟩) ?_ ?_
                    rotate_left
                    · intro w'
                      go_simp
                      with_reducible rfl
                    rotate_left
                    · simp only [Act.put,List.setIfInBounds_toArray,List.set_cons_zero,List.set_cons_succ,yM,yP]
                      rfl
                    refine Ya (i:=4) (N:=some 46) (v:=?_) (a':=?_) #[true,true,true,true,true,false,false,false,false,false,false,false,false,false,false,false,false,false,false,false,false,false,false,false,false,false] rfl rfl (yN HT_.out Zk) (fun _ _ _ h=>h) (Or.inl ⟨by rfl,?_⟩) ?_ ?_
                    rotate_left
                    · intro w'
                      go_simp
                      with_reducible rfl
                    rotate_left
                    · simp only [Act.put,List.setIfInBounds_toArray,List.set_cons_zero,List.set_cons_succ,yM,yP]
                      rfl
                    refine Ya (i:=5) (N:=some 47) (v:=?_) (a':=?_) #[true,true,true,true,true,true,false,false,false,false,false,false,false,false,false,false,false,false,false,false,false,false,false,false,false,false] rfl rfl (yN HT_.out Zk) (fun _ _ _ h=>h) (Or.inl ⟨by rfl,?_⟩) ?_ ?_
                    rotate_left
                    · intro w'
                      go_simp
                      with_reducible rfl
                    rotate_left
                    · simp only [Act.put,List.setIfInBounds_toArray,List.set_cons_zero,List.set_cons_succ,yM,yP]
                      rfl
                    refine Ya (i:=6) (N:=some 48) (v:=?_) (a':=?_) #[true,true,true,true,true,true,true,false,false,false,false,false,false,false,false,false,false,false,false,false,false,false,false,false,false,false] rfl rfl (yN HT_.out Zk) (fun _ _ _ h=>h) (Or.inl ⟨by rfl,?_⟩) ?_ ?_
                    rotate_left
                    · intro w'
                      go_simp
                      with_reducible rfl
                    rotate_left
                    · simp only [Act.put,List.setIfInBounds_toArray,List.set_cons_zero,List.set_cons_succ,yM,yP]
                      rfl
                    refine Ya (i:=7) (N:=some 49) (v:=?_) (a':=?_) #[true,true,true,true,true,true,true,true,false,false,false,false,false,false,false,false,false,false,false,false,false,false,false,false,false,false] rfl rfl (yN HT_.out Zk) (fun _ _ _ h=>h) (Or.inl ⟨by rfl,?_⟩) ?_ ?_
                    rotate_left
                    · intro w'
                      go_simp
                      with_reducible rfl
                    rotate_left
                    · simp only [Act.put,List.setIfInBounds_toArray,List.set_cons_zero,List.set_cons_succ,yM,yP]
                      rfl
                    refine Ya (i:=8) (N:=some 50) (v:=?_) (a':=?_) #[true,true,true,true,true,true,true,true,true,false,false,false,false,false,false,false,false,false,false,false,false,false,false,false,false,false] rfl rfl (yN HT_.out Zk) (fun _ _ _ h=>h) (Or.inl ⟨by rfl,?_⟩) ?_ ?_
                    rotate_left
                    · intro w'
                      go_simp
                      with_reducible rfl
                    rotate_left
                    · simp only [Act.put,List.setIfInBounds_toArray,List.set_cons_zero,List.set_cons_succ,yM,yP]
                      rfl
                    refine Ya (i:=9) (N:=some 51) (v:=?_) (a':=?_) #[true,true,true,true,true,true,true,true,true,true,false,false,false,false,false,false,false,false,false,false,false,false,false,false,false,false] rfl rfl (yN HT_.out Zk) (fun _ _ _ h=>h) (Or.inl ⟨by rfl,?_⟩) ?_ ?_
                    rotate_left
                    · intro w'
                      go_simp
                      with_reducible rfl
                    rotate_left
                    · simp only [Act.put,List.setIfInBounds_toArray,List.set_cons_zero,List.set_cons_succ,yM,yP]
                      rfl
                    refine Ya (i:=10) (N:=some 52) (v:=?_) (a':=?_) #[true,true,true,true,true,true,true,true,true,true,true,false,false,false,false,false,false,false,false,false,false,false,false,false,false,false] rfl rfl (yN HT_.out Zk) (fun _ _ _ h=>h) (Or.inl ⟨by rfl,?_⟩) ?_ ?_
                    rotate_left
                    · intro w'
                      go_simp
                      with_reducible rfl
                    rotate_left
                    · simp only [Act.put,List.setIfInBounds_toArray,List.set_cons_zero,List.set_cons_succ,yM,yP]
                      rfl
                    refine Ya (i:=11) (N:=some 53) (v:=undef) (a':=?_) #[true,true,true,true,true,true,true,true,true,true,true,true,false,false,false,false,false,false,false,false,false,false,false,false,false,false] rfl rfl (yN HT_.out Zk) (fun _ _ _ h=>h) (Or.inr ⟨by rfl,rfl⟩) ?_ ?_
                    rotate_left
                    · simp only [Act.put,List.setIfInBounds_toArray,List.set_cons_zero,List.set_cons_succ,yM,yP]
                      rfl
                    refine Ya (i:=12) (N:=some 54) (v:=undef) (a':=?_) #[true,true,true,true,true,true,true,true,true,true,true,true,true,false,false,false,false,false,false,false,false,false,false,false,false,false] rfl rfl (yN HT_.out Zk) (fun _ _ _ h=>h) (Or.inr ⟨by rfl,rfl⟩) ?_ ?_
                    rotate_left
                    · simp only [Act.put,List.setIfInBounds_toArray,List.set_cons_zero,List.set_cons_succ,yM,yP]
                      rfl
                    refine Ya (i:=13) (N:=some 55) (v:=undef) (a':=?_) #[true,true,true,true,true,true,true,true,true,true,true,true,true,true,false,false,false,false,false,false,false,false,false,false,false,false] rfl rfl (yN HT_.out Zk) (fun _ _ _ h=>h) (Or.inr ⟨by rfl,rfl⟩) ?_ ?_
                    rotate_left
                    · simp only [Act.put,List.setIfInBounds_toArray,List.set_cons_zero,List.set_cons_succ,yM,yP]
                      rfl
                    refine Ya (i:=14) (N:=some 56) (v:=undef) (a':=?_) #[true,true,true,true,true,true,true,true,true,true,true,true,true,true,true,false,false,false,false,false,false,false,false,false,false,false] rfl rfl (yN HT_.out Zk) (fun _ _ _ h=>h) (Or.inr ⟨by rfl,rfl⟩) ?_ ?_
                    rotate_left
                    · simp only [Act.put,List.setIfInBounds_toArray,List.set_cons_zero,List.set_cons_succ,yM,yP]
                      rfl
                    refine Ya (i:=15) (N:=some 57) (v:=undef) (a':=?_) #[true,true,true,true,true,true,true,true,true,true,true,true,true,true,true,true,false,false,false,false,false,false,false,false,false,false] rfl rfl (yN HT_.out Zk) (fun _ _ _ h=>h) (Or.inr ⟨by rfl,rfl⟩) ?_ ?_
                    rotate_left
                    · simp only [Act.put,List.setIfInBounds_toArray,List.set_cons_zero,List.set_cons_succ,yM,yP]
                      rfl
                    refine Ya (i:=16) (N:=some 58) (v:=undef) (a':=?_) #[true,true,true,true,true,true,true,true,true,true,true,true,true,true,true,true,true,false,false,false,false,false,false,false,false,false] rfl rfl (yN HT_.out Zk) (fun _ _ _ h=>h) (Or.inr ⟨by rfl,rfl⟩) ?_ ?_
                    rotate_left
                    · simp only [Act.put,List.setIfInBounds_toArray,List.set_cons_zero,List.set_cons_succ,yM,yP]
                      rfl
                    refine Ya (i:=17) (N:=some 59) (v:=undef) (a':=?_) #[true,true,true,true,true,true,true,true,true,true,true,true,true,true,true,true,true,true,false,false,false,false,false,false,false,false] rfl rfl (yN HT_.out Zk) (fun _ _ _ h=>h) (Or.inr ⟨by rfl,rfl⟩) ?_ ?_
                    rotate_left
                    · simp only [Act.put,List.setIfInBounds_toArray,List.set_cons_zero,List.set_cons_succ,yM,yP]
                      rfl
                    refine Ya (i:=18) (N:=some 60) (v:=?_) (a':=?_) #[true,true,true,true,true,true,true,true,true,true,true,true,true,true,true,true,true,true,true,false,false,false,false,false,false,false] rfl rfl (yN HT_.out Zk) (fun _ _ _ h=>h) (Or.inl ⟨by rfl,?_⟩) ?_ ?_
                    rotate_left
                    · intro w'
                      go_simp
                      with_reducible rfl
                    rotate_left
                    · simp only [Act.put,List.setIfInBounds_toArray,List.set_cons_zero,List.set_cons_succ,yM,yP]
                      rfl
                    refine Ya (i:=19) (N:=some 61) (v:=?_) (a':=?_) #[true,true,true,true,true,true,true,true,true,true,true,true,true,true,true,true,true,true,true,true,false,false,false,false,false,false] rfl rfl (yN HT_.out Zk) (fun _ _ _ h=>h) (Or.inl ⟨by rfl,?_⟩) ?_ ?_
                    rotate_left
                    · intro w'
                      go_simp
                      with_reducible rfl
                    rotate_left
                    · simp only [Act.put,List.setIfInBounds_toArray,List.set_cons_zero,List.set_cons_succ,yM,yP]
                      rfl
                    refine Ya (i:=20) (N:=some 62) (v:=undef) (a':=?_) #[true,true,true,true,true,true,true,true,true,true,true,true,true,true,true,true,true,true,true,true,true,false,false,false,false,false] rfl rfl (yN HT_.out Zk) (fun _ _ _ h=>h) (Or.inr ⟨by rfl,rfl⟩) ?_ ?_
                    rotate_left
                    · simp only [Act.put,List.setIfInBounds_toArray,List.set_cons_zero,List.set_cons_succ,yM,yP]
                      rfl
                    refine Ya (i:=21) (N:=some 63) (v:=undef) (a':=?_) #[true,true,true,true,true,true,true,true,true,true,true,true,true,true,true,true,true,true,true,true,true,true,false,false,false,false] rfl rfl (yN HT_.out Zk) (fun _ _ _ h=>h) (Or.inr ⟨by rfl,rfl⟩) ?_ ?_
                    rotate_left
                    · simp only [Act.put,List.setIfInBounds_toArray,List.set_cons_zero,List.set_cons_succ,yM,yP]
                      rfl
                    refine Ya (i:=22) (N:=some 64) (v:=undef) (a':=?_) #[true,true,true,true,true,true,true,true,true,true,true,true,true,true,true,true,true,true,true,true,true,true,true,false,false,false] rfl rfl (yN HT_.out Zk) (fun _ _ _ h=>h) (Or.inr ⟨by rfl,rfl⟩) ?_ ?_
                    rotate_left
                    · simp only [Act.put,List.setIfInBounds_toArray,List.set_cons_zero,List.set_cons_succ,yM,yP]
                      rfl
                    refine Ya (i:=23) (N:=some 65) (v:=undef) (a':=?_) #[true,true,true,true,true,true,true,true,true,true,true,true,true,true,true,true,true,true,true,true,true,true,true,true,false,false] rfl rfl (yN HT_.out Zk) (fun _ _ _ h=>h) (Or.inr ⟨by rfl,rfl⟩) ?_ ?_
                    rotate_left
                    · simp only [Act.put,List.setIfInBounds_toArray,List.set_cons_zero,List.set_cons_succ,yM,yP]
                      rfl
                    refine Ya (i:=24) (N:=some 66) (v:=undef) (a':=?_) #[true,true,true,true,true,true,true,true,true,true,true,true,true,true,true,true,true,true,true,true,true,true,true,true,true,false] rfl rfl (yN HT_.out Zk) (fun _ _ _ h=>h) (Or.inr ⟨by rfl,rfl⟩) ?_ ?_
                    rotate_left
                    · simp only [Act.put,List.setIfInBounds_toArray,List.set_cons_zero,List.set_cons_succ,yM,yP]
                      rfl
                    refine Ya (i:=25) (N:=some 67) (v:=?_) (a':=?_) #[true,true,true,true,true,true,true,true,true,true,true,true,true,true,true,true,true,true,true,true,true,true,true,true,true,true] rfl rfl (yN HT_.out Zk) (fun _ _ _ h=>h) (Or.inl ⟨by rfl,?_⟩) ?_ ?_
                    rotate_left
                    · intro w'
                      go_simp
                      with_reducible rfl
                    rotate_left
                    · simp only [Act.put,List.setIfInBounds_toArray,List.set_cons_zero,List.set_cons_succ,yM,yP]
                      rfl
                    refine done_ (QW HT_.out Zk) ?_
                    try go_wp2
                    go_meet
                    case rel=>exact ⟨_,(true),(by first|rfl|(simp;done)|(simp [*];done)|(simp [yn];done)),H',⟨by have:=HJ2.out;have:=HK2.out;first|omega|exact Nat.le_refl _⟩,⟨by refine Zr ?_;exact Kd.Yr HO_4.out (fun _ hk=>⟨hk.1.1,⟨hk.1.2,hk.2⟩⟩)⟩,⟨by refine Zn ?_;exact Kd.YC HO_5.out (fun _ hk=>⟨hk.1.1.1,⟨hk.1.1.2,⟨hk.1.2,hk.2⟩⟩⟩)⟩,⟨by refine Zr ?_;exact Kd.Yr HO169.out (fun _ hk=>⟨hk.1.1.1,⟨hk.1.2,hk.2⟩⟩)⟩,⟨by refine Zr ?_;exact Kd.Yr HO173.out (fun _ hk=>⟨hk.1.1.1,⟨hk.1.2,hk.2⟩⟩)⟩,⟨by repeat (first|(with_reducible first|exact HB.out|apply yl|apply ym|apply yp)|exact HB.out)⟩⟩
               case rest=>
                clear HC16
                try clear p1
                try clear q1
                try clear hx1
                try clear qi1
                try clear c2
                try clear p2
                try clear p17
                try clear q17
                try clear hx17
                try clear qi17
                try clear c24
                try clear c24b0
                try clear c24b1
                try clear c24b2
                try clear c25
                try clear c26
                try clear c27
                try clear c27b0
                try clear c27b1
                try clear hx174_0
                try clear hx175_0
                try clear p174
                try clear p175
                try clear q174
                try clear q175
                obtain ⟨kq,x67_15,rfl,HA,HJ15,HO_4,HO_5,HO_7,HO_8,HB⟩:=hcut
                cases kq with
                | zero=>exact absurd HA.out (by simp [yh.j2])
                | succ kj15=>
                 have H:=HA.out
                 clear HA
                 simp only [yh.j2] at H
                 by_cases c38:x67_15=true
                 · subst c38
                   have H1:(some (([]:List (S71)),false))=some (r1,r2):=by rw [if_pos rfl] at H;exact H
                   clear H
                   have H:=H1
                   clear H1
                   simp only [Option.some.injEq,Prod.mk.injEq] at H
                   obtain ⟨rfl,rfl⟩:=H
                   go_wp2
                   go_ret2
                   exact ⟨_,by first|rfl|(simp [yK,yL] <;> rfl)|(simp only [← hji12]; first|rfl|(simp [yK,yL] <;> rfl))|(simp [*,yK,yL] <;> rfl),by first|exact Kd.yah _ _ _ _ _|exact Kd.yae _ _ _ _ _|exact Kd.QV _ _ _ _ _|exact Kd.yaf _ _ _ _ _|exact Kd.qm _ _ _ _ _,by repeat (first|(with_reducible first|exact HB.out|apply yl|apply ym|apply yp)|exact HB.out)⟩
                 · replace c38:=Bool.eq_false_iff.mpr c38
                   subst c38
                   have H1:(if 0<(t167.length:Int) then (if 0≤(wrap64 (((yU ByteArray.empty t167 0).size:Int) - 1)) then (if (wrap64 (((yU ByteArray.empty t167 0).size:Int) - 1))≤((yU ByteArray.empty t167 0).size:Int) then (if 1≤(t167.length:Int) then (if 1≤(t171.length:Int) then ((some (t171.drop 1:List ByteArray)).bind fun y186=>(yh.l1 kj15 a0 t162 x5_2 x6_2 y186 (y186.length:Int) 0 ((yU ByteArray.empty t167 0).extract 0 ((wrap64 (((yU ByteArray.empty t167 0).size:Int) - 1)):Int).toNat) ([]:List Int) (t167.drop 1))) else (none)) else (none)) else (none)) else (none)) else (none))=some (r1,r2):=by rw [if_neg (show ¬ (false=true) by decide)] at H;exact H
                   clear H
                   have H:=H1
                   clear H1
                   by_cases c39:0<(t167.length:Int)
                   · rw [if_pos c39] at H
                     have c39b0:decide (0<(t167.length:Int))=true:=decide_eq_true c39
                     have c39b1:decide (0<t167.length)=true:=decide_eq_true Zo
                     clear c39
                     obtain ⟨ji40,hji40⟩:∃ j_:Int,(wrap64 (((yU ByteArray.empty t167 0).size:Int) - 1))=j_:=⟨_,rfl⟩
                     replace H:(if 0≤(ji40) then (if (ji40)≤((yU ByteArray.empty t167 0).size:Int) then (if 1≤(t167.length:Int) then (if 1≤(t171.length:Int) then ((some (t171.drop 1:List ByteArray)).bind fun y186=>(yh.l1 kj15 a0 t162 x5_2 x6_2 y186 (y186.length:Int) 0 ((yU ByteArray.empty t167 0).extract 0 ((ji40):Int).toNat) ([]:List Int) (t167.drop 1))) else (none)) else (none)) else (none)) else (none))=some (r1,r2):=by first|(rw [hji40] at H;exact H)|(simp only [hji40] at H ⊢;exact H)
                     have hji40w:(IntKind.i64.wrap (((yU ByteArray.empty t167 0).size:Int) - 1))=ji40:=(yM _).trans hji40
                     by_cases c41:0≤(ji40)
                     · rw [if_pos c41] at H
                       have c41b0:=eq_true c41
                       have c41b1:decide (0≤(ji40))=true:=decide_eq_true c41
                       clear c41
                       by_cases c42:(ji40)≤((yU ByteArray.empty t167 0).size:Int)
                       · rw [if_pos c42] at H
                         have c42b0:=eq_true c42
                         have c42b1:decide ((ji40)≤((yU ByteArray.empty t167 0).size:Int))=true:=decide_eq_true c42
                         clear c42
                         by_cases c43:1≤(t167.length:Int)
                         · rw [if_pos c43] at H
                           have c43b0:=eq_true c43
                           have c43b1:decide (1≤(t167.length:Int))=true:=decide_eq_true c43
                           clear c43
                           obtain ⟨y180,hy180⟩:∃ y_:List ByteArray,y_=(t167.drop 1):=⟨_,rfl⟩
                           replace H:(if 1≤(t171.length:Int) then ((some (t171.drop 1:List ByteArray)).bind fun y186=>(yh.l1 kj15 a0 t162 x5_2 x6_2 y186 (y186.length:Int) 0 ((yU ByteArray.empty t167 0).extract 0 ((ji40):Int).toNat) ([]:List Int) y180)) else (none))=some (r1,r2):=by first|(rw [hy180];with_reducible exact H)|(have H2_:=(Option.bind_some _ _).symm.trans H;rw [hy180];with_reducible exact H2_)|(have H2_:=(Option.bind_some _ _).symm.trans H;with_reducible exact H2_)|with_reducible exact H|(rw [hy180];exact H)|exact H
                           have Ny180:=yc.mk hy180
                           clear hy180
                           by_cases c44:1≤(t171.length:Int)
                           · rw [if_pos c44] at H
                             have c44b0:=eq_true c44
                             have c44b1:decide (1≤(t171.length:Int))=true:=decide_eq_true c44
                             clear c44
                             obtain ⟨y186,hy186⟩:∃ y_:List ByteArray,y_=(t171.drop 1):=⟨_,rfl⟩
                             replace H:(yh.l1 kj15 a0 t162 x5_2 x6_2 y186 (y186.length:Int) 0 ((yU ByteArray.empty t167 0).extract 0 ((ji40):Int).toNat) ([]:List Int) y180)=some (r1,r2):=by first|(rw [hy186];with_reducible exact H)|(have H2_:=(Option.bind_some _ _).symm.trans H;rw [hy186];with_reducible exact H2_)|(have H2_:=(Option.bind_some _ _).symm.trans H;with_reducible exact H2_)|with_reducible exact H|(rw [hy186];exact H)|exact H
                             have Ny186:=yc.mk hy186
                             clear hy186
                             have H':=yc.mk H
                             clear H
                             try go_wp2
                             have n0_:=yc.mk (Kd.qh HO_4.out)
                             have n1_:=yc.mk (Kd.yb7 HO_5.out)
                             have n2_:=yc.mk (Kd.qh HO_7.out)
                             have n3_:=yc.mk (Kd.qh HO_8.out)
                             have n4_:=yc.mk (yp HB.out)
                             clear HO_4
                             clear HO_5
                             clear HO_7
                             clear HO_8
                             clear HB
                             have HO_4:=n0_
                             have HO_5:=n1_
                             have HO_7:=n2_
                             have HO_8:=n3_
                             have HB:=n4_
                             clear n0_ n1_ n2_ n3_ n4_
                             obtain ⟨Ao46,co46,eo46⟩:=Kd.YF HO_7.out
                             (first|subst eo46|(injection eo46 with f1_ f2_ f3_;have f4_:=f1_.symm;have f5_:=f3_.symm;clear f1_ f2_ f3_;subst f4_;subst f5_))
                             have p178:0≤(0:Int):=Zo
                             have q178:0<(t167.length:Int):=of_decide_eq_true (by first|(with_reducible assumption)|assumption)
                             obtain ⟨ad178,e178,hx178_0⟩:=Kd.YH (Kd.YK HO_7.out).2.2 0 p178 q178
                             cases e178
                             have qi178:(0<t167.length)=True:=eq_true Zo
                             (try rw [show ((0:Int)).toNat=0 from rfl] at hx178_0)
                             (try rw [Addr.add_zero'] at hx178_0)
                             replace p178:=eq_true p178
                             replace q178:=eq_true q178
                             have p179:0≤(0:Int):=Zo
                             have q179:0<(t167.length:Int):=of_decide_eq_true (by first|(with_reducible assumption)|assumption)
                             obtain ⟨ad179,e179,hx179_0⟩:=Kd.YH (Kd.YK HO_7.out).2.2 0 p179 q179
                             obtain rfl:ad178=ad179:=(by injection e179)
                             have qi179:(0<t167.length)=True:=eq_true Zo
                             (try rw [show ((0:Int)).toNat=0 from rfl] at hx179_0)
                             (try rw [Addr.add_zero'] at hx179_0)
                             replace p179:=eq_true p179
                             replace q179:=eq_true q179
                             have q47:(1:Int)≤((t167.length:Int):Int):=of_decide_eq_true (by first|(with_reducible assumption)|assumption)
                             obtain ⟨i047,hi047,_,hsz47,_⟩:=info_parts ybP
                             have hroom47:t167.length≤co46:=(Kd.YK HO_7.out).2.1
                             have hC47:Kd.F Kd.string _ _ (some ad178) t167.length t167:=(Kd.V_at (base:=w.heap.size) (Kd.R_V (Kd.yag (HO_7.out) (Kd.yao HO_5.out) Zd))).2.2
                             have hcut47:=cut_from (P:=Tryz.prog) 46 9 .i64 Tryz.underlying46 hi047 1 hsz47 (some ad178) t167.length co46 1 Zo q47
                             have hr47:=Kd.F_cut (m:=(1:Int).toNat) (c:=co46) hC47 Zo hroom47
                             obtain ⟨A47,hA47⟩:∃ A1,A1=(if co46=(1:Int).toNat then (some ad178) else ((some ad178):Option Addr).map (·.add ((1:Int).toNat * 1))):=⟨_,rfl⟩
                             obtain ⟨c47,hc47⟩:∃ c1,c1=co46 - (1:Int).toNat:=⟨_,rfl⟩
                             have hy47:y180.length=t167.length - (1:Int).toNat:=(by rw [Ny180.out,List.length_drop] <;> omega)
                             rw [show (t167).drop (1:Int).toNat=y180 from Ny180.out.symm] at hr47
                             replace hr47:Kd.F Kd.string _ _ A47 y180.length y180:=(by rw [hA47];exact hr47)
                             rw [← hy47,← hA47,← hc47] at hcut47
                             have HO184:=yc.mk (show Kd.V Kd.string 9 _ w.heap.size _ (.slice A47 y180.length c47) y180 from Kd.V_mk (by rw [hy47,hc47];exact Nat.sub_le_sub_right hroom47 _) hr47)
                             have HC184:=yc.mk (show y180.length≤c47 from by rw [hy47,hc47];exact Nat.sub_le_sub_right hroom47 _)
                             clear hr47 hC47 hroom47 hi047 hsz47 hc47
                             have KY47:=yc.mk hy47
                             have KA47:=yc.mk hA47
                             clear hy47 hA47
                             replace q47:=eq_true q47
                             refine QQ (n:=14) (S:=fun w'=>w'.cell? ad178=some (.string (yU ByteArray.empty t167 0))∧w'.cell? ad178=some (.string (yU ByteArray.empty t167 0))) (ds:=[]) #[false,false,false,false,false,false,false,false,false,false,false,false,false,false] Zk rfl rfl ⟨hx178_0,hx179_0⟩ (fun hHeld=>?_);refine qP yh.tab11 yh.bits11 (fun HT_ HW_=>?_)
                             generalize wc.drew=w45 at HO_4 HO_5 HO_7 HO_8 HB HO184 hx178_0 hx179_0 hHeld ⊢
                             refine Ya (i:=0) (N:=some 68) (v:=?_) (a':=?_) #[true,false,false,false,false,false,false,false,false,false,false,false,false,false] rfl rfl (yN HT_.out Zk) (fun _ _ _ h=>h) (Or.inl ⟨by rfl,?_⟩) ?_ ?_
                             rotate_left
                             · intro w'
                               go_simp
                               with_reducible rfl
                             rotate_left
                             · simp only [Act.put,List.setIfInBounds_toArray,List.set_cons_zero,List.set_cons_succ,yM,yP]
                               rfl
                             refine Ya (i:=1) (N:=some 69) (v:=?_) (a':=?_) #[true,true,false,false,false,false,false,false,false,false,false,false,false,false] rfl rfl (yN HT_.out Zk) (fun _ _ _ h=>h) (Or.inl ⟨by rfl,?_⟩) ?_ ?_
                             rotate_left
                             · intro w'
                               go_simp
                               with_reducible rfl
                             rotate_left
                             · simp only [Act.put,List.setIfInBounds_toArray,List.set_cons_zero,List.set_cons_succ,yM,yP]
                               rfl
                             refine Ya (i:=3) (N:=some 71) (v:=?_) (a':=?_) #[true,true,false,true,false,false,false,false,false,false,false,false,false,false] rfl rfl (yN HT_.out Zk) (fun _ _ _ h=>h) (Or.inl ⟨by rfl,?_⟩) ?_ ?_
                             rotate_left
                             · intro w'
                               go_simp
                               with_reducible rfl
                             rotate_left
                             · simp only [Act.put,List.setIfInBounds_toArray,List.set_cons_zero,List.set_cons_succ,yM,yP]
                               rfl
                             refine Ya (i:=4) (N:=some 72) (v:=?_) (a':=?_) #[true,true,false,true,true,false,false,false,false,false,false,false,false,false] rfl rfl (yN HT_.out Zk) (fun _ _ _ h=>h) (Or.inl ⟨by rfl,?_⟩) ?_ ?_
                             rotate_left
                             · intro w'
                               go_simp
                               with_reducible rfl
                             rotate_left
                             · simp only [Act.put,List.setIfInBounds_toArray,List.set_cons_zero,List.set_cons_succ,yM,yP]
                               rfl
                             refine Ya (i:=9) (N:=some 77) (v:=?_) (a':=?_) #[true,true,false,true,true,false,false,false,false,true,false,false,false,false] rfl rfl (yN HT_.out Zk) (fun _ _ _ h=>h) (Or.inl ⟨by rfl,?_⟩) ?_ ?_
                             rotate_left
                             · intro w'
                               go_simp
                               with_reducible rfl
                             rotate_left
                             · simp only [Act.put,List.setIfInBounds_toArray,List.set_cons_zero,List.set_cons_succ,yM,yP]
                               rfl
                             refine Ya (i:=10) (N:=some 78) (v:=?_) (a':=?_) #[true,true,false,true,true,false,false,false,false,true,true,false,false,false] rfl rfl (yN HT_.out Zk) (fun _ _ _ h=>h) (Or.inl ⟨by rfl,?_⟩) ?_ ?_
                             rotate_left
                             · intro w'
                               go_simp
                               with_reducible rfl
                             rotate_left
                             · simp only [Act.put,List.setIfInBounds_toArray,List.set_cons_zero,List.set_cons_succ,yM,yP]
                               rfl
                             refine Q1 (i:=2) (N:=some 70) (v:=?_) (a':=?_) #[true,true,true,true,true,false,false,false,false,true,true,false,false,false] rfl rfl (qq HT_.out HW_.out Zk) (fun _ _ _ h=>h) (Or.inl ⟨by rfl,?_⟩) hHeld ?_ ?_
                             rotate_left
                             · rintro w' ⟨s0,s1⟩
                               go_simp
                               with_reducible rfl
                             rotate_left
                             · simp only [Act.put,List.setIfInBounds_toArray,List.set_cons_zero,List.set_cons_succ,yM,yP]
                               rfl
                             refine Q1 (i:=5) (N:=some 73) (v:=?_) (a':=?_) #[true,true,true,true,true,true,false,false,false,true,true,false,false,false] rfl rfl (qq HT_.out HW_.out Zk) (fun _ _ _ h=>h) (Or.inl ⟨by rfl,?_⟩) hHeld ?_ ?_
                             rotate_left
                             · rintro w' ⟨s0,s1⟩
                               go_simp
                               with_reducible rfl
                             rotate_left
                             · simp only [Act.put,List.setIfInBounds_toArray,List.set_cons_zero,List.set_cons_succ,yM,yP]
                               rfl
                             refine Ya (i:=6) (N:=some 74) (v:=?_) (a':=?_) #[true,true,true,true,true,true,true,false,false,true,true,false,false,false] rfl rfl (yN HT_.out Zk) (fun _ _ _ h=>h) (Or.inl ⟨by rfl,?_⟩) ?_ ?_
                             rotate_left
                             · intro w'
                               go_simp
                               with_reducible rfl
                             rotate_left
                             · simp only [Act.put,List.setIfInBounds_toArray,List.set_cons_zero,List.set_cons_succ,yM,yP]
                               rfl
                             refine Ya (i:=7) (N:=some 75) (v:=?_) (a':=?_) #[true,true,true,true,true,true,true,true,false,true,true,false,false,false] rfl rfl (yN HT_.out Zk) (fun _ _ _ h=>h) (Or.inl ⟨by rfl,?_⟩) ?_ ?_
                             rotate_left
                             · intro w'
                               go_simp
                               with_reducible rfl
                             rotate_left
                             · simp only [Act.put,List.setIfInBounds_toArray,List.set_cons_zero,List.set_cons_succ,yM,yP]
                               rfl
                             refine Ya (i:=8) (N:=some 76) (v:=?_) (a':=?_) #[true,true,true,true,true,true,true,true,true,true,true,false,false,false] rfl rfl (yN HT_.out Zk) (fun _ _ _ h=>h) (Or.inl ⟨by rfl,?_⟩) ?_ ?_
                             rotate_left
                             · intro w'
                               go_simp
                               with_reducible rfl
                             rotate_left
                             · simp only [Act.put,List.setIfInBounds_toArray,List.set_cons_zero,List.set_cons_succ,yM,yP]
                               rfl
                             refine Ya (i:=11) (N:=some 79) (v:=?_) (a':=?_) #[true,true,true,true,true,true,true,true,true,true,true,true,false,false] rfl rfl (yN HT_.out Zk) (fun _ _ _ h=>h) (Or.inl ⟨by rfl,?_⟩) ?_ ?_
                             rotate_left
                             · intro w'
                               go_simp
                               with_reducible rfl
                             rotate_left
                             · simp only [Act.put,List.setIfInBounds_toArray,List.set_cons_zero,List.set_cons_succ,yM,yP]
                               rfl
                             refine one_ (i:=12) (N:=some 9) #[true,true,true,true,true,true,true,true,true,true,true,true,true,false] rfl rfl (Qk HT_.out Zk) Zd (fun K hK=>?_)
                             refine box_step ?hg (N:=9) ?hd (cs:=#[.string (⟨#[]⟩:ByteArray),.slice none 0 0,.slice none 0 0]) (t:=71) ?hr ?_;(case hd=>rfl);(case hg=>rfl);(case hr=>first|(go_simp;done)|(go_simp;rfl))
                             intro gb185 hg w48 hbox hb
                             have HS0_:=(hb.cell (World.block_lt_of_cell? _ _ (hHeld.1))).trans (hHeld.1)
                             have HS1_:=(hb.cell (World.block_lt_of_cell? _ _ (hHeld.2))).trans (hHeld.2)
                             have n0_:=yc.mk (Kd.Y1 (Zr HO_4.out) hb)
                             have n1_:=yc.mk (Kd.JO (Kd.QL (Zn HO_5.out) gb185 (Nat.le_of_eq hg.symm)) hb)
                             have n2_:=yc.mk (Kd.Y1 (Zr HO_7.out) hb)
                             have n3_:=yc.mk (Kd.Y1 (Zr HO_8.out) hb)
                             have n4_:=yc.mk (Kd.yaq (Kd.V_elderB (Zv HO184.out) gb185 (Nat.le_of_eq hg.symm)) hb)
                             have n5_:=yc.mk (yw Zh hb)
                             have n6_:=yc.mk (hbox)
                             have n7_:=yc.mk ((by rw [hg];exact (yt Zh):w.heap.size≤gb185))
                             have n8_:=yc.mk ((by rw [hg];exact (yt Zh):w.heap.size≤gb185))
                             clear HO_4
                             clear HO_5
                             clear HO_7
                             clear HO_8
                             clear HO184
                             clear HB
                             have HO_4:=n0_
                             have HO_5:=n1_
                             have HO_7:=n2_
                             have HO_8:=n3_
                             have HO184:=n4_
                             have HB:=n5_
                             have BK185:=n6_
                             have GW185:=n7_
                             have GE185:=n8_
                             clear n0_ n1_ n2_ n3_ n4_ n5_ n6_ n7_ n8_
                             clear hb hbox hg
                             refine hK.out _ _ ⟨HS0_,HS1_⟩ (fun hHeld=>?_)
                             clear hK K
                             refine qV (a':=?_) ?_ ?_
                             rotate_left
                             · show Act.put _ (some 9) _=_
                               simp only [Act.put,List.setIfInBounds_toArray,List.set_cons_zero,List.set_cons_succ,yM,yP]
                               rfl
                             refine one_ (i:=13) (N:=none) #[true,true,true,true,true,true,true,true,true,true,true,true,true,true] rfl rfl (Qk HT_.out Zk) Zd (fun K hK=>?_)
                             have hs49:w48.cell? ⟨gb185,0,none⟩=some (.string (⟨#[]⟩:ByteArray)):=(yg BK185.out 0).trans rfl
                             have hfs49:=yf BK185.out 0
                             have hs50:w48.cell? ⟨gb185,1,none⟩=some (.slice none 0 0):=(yg BK185.out 1).trans rfl
                             have hfs50:=yf BK185.out 1
                             have hs51:w48.cell? ⟨gb185,2,none⟩=some (.slice none 0 0):=(yg BK185.out 2).trans rfl
                             have hfs51:=yf BK185.out 2
                             refine skip_ (w1:=?_) (by rfl) rfl ?_ ?_
                             rotate_left
                             · go_simp
                               rfl
                             refine hK.out _ _ ⟨((cell_far (p:=⟨gb185,_,none⟩) (by first|exact Kd.Je (Kd.qS HO_7.out BK185.out Zd)|(rw [JS];exact Kd.Je (Kd.qS HO_7.out BK185.out Zd))|(show (Addr.add _ _).block≠_;rw [JS];exact Kd.Je (Kd.qS HO_7.out BK185.out Zd))|(dsimp only;exact Kd.Je (Kd.qS HO_7.out BK185.out Zd))) _).trans (((cell_far (p:=⟨gb185,_,none⟩) (by first|exact Kd.Je (Kd.qS HO_7.out BK185.out Zd)|(rw [JS];exact Kd.Je (Kd.qS HO_7.out BK185.out Zd))|(show (Addr.add _ _).block≠_;rw [JS];exact Kd.Je (Kd.qS HO_7.out BK185.out Zd))|(dsimp only;exact Kd.Je (Kd.qS HO_7.out BK185.out Zd))) _).trans (((cell_far (p:=⟨gb185,_,none⟩) (by first|exact Kd.Je (Kd.qS HO_7.out BK185.out Zd)|(rw [JS];exact Kd.Je (Kd.qS HO_7.out BK185.out Zd))|(show (Addr.add _ _).block≠_;rw [JS];exact Kd.Je (Kd.qS HO_7.out BK185.out Zd))|(dsimp only;exact Kd.Je (Kd.qS HO_7.out BK185.out Zd))) _).trans (hHeld.1)))))),((cell_far (p:=⟨gb185,_,none⟩) (by first|exact Kd.Je (Kd.qS HO_7.out BK185.out Zd)|(rw [JS];exact Kd.Je (Kd.qS HO_7.out BK185.out Zd))|(show (Addr.add _ _).block≠_;rw [JS];exact Kd.Je (Kd.qS HO_7.out BK185.out Zd))|(dsimp only;exact Kd.Je (Kd.qS HO_7.out BK185.out Zd))) _).trans (((cell_far (p:=⟨gb185,_,none⟩) (by first|exact Kd.Je (Kd.qS HO_7.out BK185.out Zd)|(rw [JS];exact Kd.Je (Kd.qS HO_7.out BK185.out Zd))|(show (Addr.add _ _).block≠_;rw [JS];exact Kd.Je (Kd.qS HO_7.out BK185.out Zd))|(dsimp only;exact Kd.Je (Kd.qS HO_7.out BK185.out Zd))) _).trans (((cell_far (p:=⟨gb185,_,none⟩) (by first|exact Kd.Je (Kd.qS HO_7.out BK185.out Zd)|(rw [JS];exact Kd.Je (Kd.qS HO_7.out BK185.out Zd))|(show (Addr.add _ _).block≠_;rw [JS];exact Kd.Je (Kd.qS HO_7.out BK185.out Zd))|(dsimp only;exact Kd.Je (Kd.qS HO_7.out BK185.out Zd))) _).trans (hHeld.2))))))⟩ (fun hHeld=>?_)
                             clear hK K
                             refine done_ (QW HT_.out Zk) ?_
                             have n0_:yc (Kd.R Kd.string 9 (((w48.setCell ⟨gb185,0,none⟩ (.string ((yU ByteArray.empty t167 0).extract 0 ((ji40):Int).toNat))).setCell ⟨gb185,1,none⟩ (.slice none 0 0)).setCell ⟨gb185,2,none⟩ (.slice A47 y180.length c47)) w.heap.size (fun k_=>(w.heap.size≤k_)∧some k_≠(.slice (some ad178) t167.length co46:Value).ownBlock∧some k_≠(v172:Value).ownBlock) (.slice (some ad166) t162.length co17) t162):=⟨by refine Zr ?_;exact Kd.Yr (Kd.YN (p:=⟨gb185,2,none⟩) (Kd.YN (p:=⟨gb185,1,none⟩) (Kd.YN (p:=⟨gb185,0,none⟩) (Kd.qI HO_4.out BK185.out Zd) (fun _ hk=>hk.2) (.string ((yU ByteArray.empty t167 0).extract 0 ((ji40):Int).toNat))) (fun _ hk=>hk.2) (.slice none 0 0)) (fun _ hk=>hk.2) (.slice A47 y180.length c47)) (fun _ hk=>⟨hk.1.1,⟨hk.1.2.1,hk.1.2.2⟩⟩)⟩
                             have n1_:yc (Kd.N k71 71 (((w48.setCell ⟨gb185,0,none⟩ (.string ((yU ByteArray.empty t167 0).extract 0 ((ji40):Int).toNat))).setCell ⟨gb185,1,none⟩ (.slice none 0 0)).setCell ⟨gb185,2,none⟩ (.slice A47 y180.length c47)) w.heap.size (fun k_=>(w.heap.size≤k_)∧some k_≠(.slice (some ad166) t162.length co17:Value).ownBlock∧some k_≠(.slice (some ad178) t167.length co46:Value).ownBlock∧some k_≠(v172:Value).ownBlock∧k_≠gb185) u5 x5_2):=⟨by refine Zn ?_;exact Kd.YC (Kd.YO (p:=⟨gb185,2,none⟩) (Kd.YO (p:=⟨gb185,1,none⟩) (Kd.YO (p:=⟨gb185,0,none⟩) (Kd.YC HO_5.out (fun k_ hk=>(⟨hk,hk.2⟩:_∧k_≠gb185))) (fun _ hk=>hk.2) (.string ((yU ByteArray.empty t167 0).extract 0 ((ji40):Int).toNat))) (fun _ hk=>hk.2) (.slice none 0 0)) (fun _ hk=>hk.2) (.slice A47 y180.length c47)) (fun _ hk=>⟨hk.1.1.1,⟨hk.1.1.2.1,⟨hk.1.1.2.2.1,⟨hk.1.1.2.2.2,hk.1.2⟩⟩⟩⟩)⟩
                             have n2_:yc (Kd.R Kd.string 9 (((w48.setCell ⟨gb185,0,none⟩ (.string ((yU ByteArray.empty t167 0).extract 0 ((ji40):Int).toNat))).setCell ⟨gb185,1,none⟩ (.slice none 0 0)).setCell ⟨gb185,2,none⟩ (.slice A47 y180.length c47)) w.heap.size (fun k_=>(w.heap.size≤k_)∧some k_≠(.slice (some ad166) t162.length co17:Value).ownBlock∧some k_≠(v172:Value).ownBlock) (.slice (some ad178) t167.length co46) t167):=⟨by refine Zr ?_;exact Kd.Yr (Kd.YN (p:=⟨gb185,2,none⟩) (Kd.YN (p:=⟨gb185,1,none⟩) (Kd.YN (p:=⟨gb185,0,none⟩) (Kd.qI HO_7.out BK185.out Zd) (fun _ hk=>hk.2) (.string ((yU ByteArray.empty t167 0).extract 0 ((ji40):Int).toNat))) (fun _ hk=>hk.2) (.slice none 0 0)) (fun _ hk=>hk.2) (.slice A47 y180.length c47)) (fun _ hk=>⟨hk.1.1,⟨hk.1.2.1,hk.1.2.2⟩⟩)⟩
                             have n3_:yc (Kd.R Kd.string 9 (((w48.setCell ⟨gb185,0,none⟩ (.string ((yU ByteArray.empty t167 0).extract 0 ((ji40):Int).toNat))).setCell ⟨gb185,1,none⟩ (.slice none 0 0)).setCell ⟨gb185,2,none⟩ (.slice A47 y180.length c47)) w.heap.size (fun k_=>(w.heap.size≤k_)∧some k_≠(.slice (some ad166) t162.length co17:Value).ownBlock∧some k_≠(.slice (some ad178) t167.length co46:Value).ownBlock) v172 t171):=⟨by refine Zr ?_;exact Kd.Yr (Kd.YN (p:=⟨gb185,2,none⟩) (Kd.YN (p:=⟨gb185,1,none⟩) (Kd.YN (p:=⟨gb185,0,none⟩) (Kd.qI HO_8.out BK185.out Zd) (fun _ hk=>hk.2) (.string ((yU ByteArray.empty t167 0).extract 0 ((ji40):Int).toNat))) (fun _ hk=>hk.2) (.slice none 0 0)) (fun _ hk=>hk.2) (.slice A47 y180.length c47)) (fun _ hk=>⟨hk.1.1,⟨hk.1.2.1,hk.1.2.2⟩⟩)⟩
                             have n4_:yc (Kd.V Kd.string 9 (((w48.setCell ⟨gb185,0,none⟩ (.string ((yU ByteArray.empty t167 0).extract 0 ((ji40):Int).toNat))).setCell ⟨gb185,1,none⟩ (.slice none 0 0)).setCell ⟨gb185,2,none⟩ (.slice A47 y180.length c47)) w.heap.size (fun k_=>(w.heap.size≤k_)∧some k_≠(.slice (some ad166) t162.length co17:Value).ownBlock∧some k_≠(u5:Value).ownBlock∧some k_≠(v172:Value).ownBlock∧k_≠gb185) (.slice A47 y180.length c47) y180):=⟨by refine Zv ?_;exact Kd.Jf (Kd.JV (p:=⟨gb185,2,none⟩) (Kd.JV (p:=⟨gb185,1,none⟩) (Kd.JV (p:=⟨gb185,0,none⟩) (Kd.Jf HO184.out (fun k_ hk=>(⟨hk,hk.2⟩:_∧k_≠gb185))) (fun _ hk=>hk.2) (.string ((yU ByteArray.empty t167 0).extract 0 ((ji40):Int).toNat))) (fun _ hk=>hk.2) (.slice none 0 0)) (fun _ hk=>hk.2) (.slice A47 y180.length c47)) (fun _ hk=>⟨hk.1.1.1.1,⟨hk.1.1.1.2.1,⟨hk.1.1.2,⟨hk.1.1.1.2.2,hk.1.2⟩⟩⟩⟩)⟩
                             have n5_:yc ((((w48.setCell ⟨gb185,0,none⟩ (.string ((yU ByteArray.empty t167 0).extract 0 ((ji40):Int).toNat))).setCell ⟨gb185,1,none⟩ (.slice none 0 0)).setCell ⟨gb185,2,none⟩ (.slice A47 y180.length c47)).heap[gb185]?=some (.cells #[.string ((yU ByteArray.empty t167 0).extract 0 ((ji40):Int).toNat),.slice none 0 0,.slice A47 y180.length c47] 71 (0,0))):=⟨by refine Zb ?_;refine yy (cs:=#[.string ((yU ByteArray.empty t167 0).extract 0 ((ji40):Int).toNat),.slice none 0 0,.slice none 0 0]) ?_ 2 _ rfl;refine Zb ?_;refine yy (cs:=#[.string ((yU ByteArray.empty t167 0).extract 0 ((ji40):Int).toNat),.slice none 0 0,.slice none 0 0]) ?_ 1 _ rfl;refine Zb ?_;refine yy (cs:=#[.string (⟨#[]⟩:ByteArray),.slice none 0 0,.slice none 0 0]) ?_ 0 _ rfl;refine Zb ?_;exact BK185.out⟩
                             have n6_:yc (Below w.heap.size w (((w48.setCell ⟨gb185,0,none⟩ (.string ((yU ByteArray.empty t167 0).extract 0 ((ji40):Int).toNat))).setCell ⟨gb185,1,none⟩ (.slice none 0 0)).setCell ⟨gb185,2,none⟩ (.slice A47 y180.length c47))):=⟨by repeat (first|(with_reducible first|exact HB.out|apply yl|apply ym|apply yp|refine yu ?_ GE185.out)|exact HB.out)⟩
                             (try clear HO_4)
                             (try clear HO_5)
                             (try clear HO_7)
                             (try clear HO_8)
                             (try clear HO184)
                             (try clear BK185)
                             (try clear HB)
                             generalize (((w48.setCell ⟨gb185,0,none⟩ (.string ((yU ByteArray.empty t167 0).extract 0 ((ji40):Int).toNat))).setCell ⟨gb185,1,none⟩ (.slice none 0 0)).setCell ⟨gb185,2,none⟩ (.slice A47 y180.length c47))=w52 at n0_ n1_ n2_ n3_ n4_ n5_ n6_ ⊢
                             have HO_4:=n0_
                             have HO_5:=n1_
                             have HO_7:=n2_
                             have HO_8:=n3_
                             have HO184:=n4_
                             have BK185:=n5_
                             have HB:=n6_
                             clear n0_ n1_ n2_ n3_ n4_ n5_ n6_
                             obtain ⟨Ao54,co54,eo54⟩:=Kd.YF HO_8.out
                             subst eo54
                             have q53:(1:Int)≤((t171.length:Int):Int):=of_decide_eq_true (by first|(with_reducible assumption)|assumption)
                             obtain ⟨i053,hi053,_,hsz53,_⟩:=info_parts ybP
                             have hroom53:t171.length≤co54:=(Kd.YK HO_8.out).2.1
                             have hC53:Kd.F Kd.string _ _ Ao54 t171.length t171:=(Kd.V_at (base:=w.heap.size) (Kd.R_V (Kd.qI (Kd.yag (HO_8.out) (Kd.yao HO_5.out) Zd) BK185.out Zd))).2.2
                             have hcut53:=cut_from (P:=Tryz.prog) 46 9 .i64 Tryz.underlying46 hi053 1 hsz53 Ao54 t171.length co54 1 Zo q53
                             have hr53:=Kd.F_cut (m:=(1:Int).toNat) (c:=co54) hC53 Zo hroom53
                             obtain ⟨A53,hA53⟩:∃ A1,A1=(if co54=(1:Int).toNat then Ao54 else (Ao54:Option Addr).map (·.add ((1:Int).toNat * 1))):=⟨_,rfl⟩
                             obtain ⟨c53,hc53⟩:∃ c1,c1=co54 - (1:Int).toNat:=⟨_,rfl⟩
                             have hy53:y186.length=t171.length - (1:Int).toNat:=(by rw [Ny186.out,List.length_drop] <;> omega)
                             rw [show (t171).drop (1:Int).toNat=y186 from Ny186.out.symm] at hr53
                             replace hr53:Kd.F Kd.string _ _ A53 y186.length y186:=(by rw [hA53];exact hr53)
                             rw [← hy53,← hA53,← hc53] at hcut53
                             have HO190:=yc.mk (show Kd.V Kd.string 9 _ w.heap.size _ (.slice A53 y186.length c53) y186 from Kd.V_mk (by rw [hy53,hc53];exact Nat.sub_le_sub_right hroom53 _) hr53)
                             have HC190:=yc.mk (show y186.length≤c53 from by rw [hy53,hc53];exact Nat.sub_le_sub_right hroom53 _)
                             clear hr53 hC53 hroom53 hi053 hsz53 hc53
                             have KY53:=yc.mk hy53
                             have KA53:=yc.mk hA53
                             clear hy53 hA53
                             replace q53:=eq_true q53
                             try go_wp2
                             go_loopg [83] kj15 (fun kq v83 w'=>∃ (x83_4:Int) (x186001_4:List Int) (u186001:Value),v83=.int .i64 x83_4∧yc (yh.l1 kq a0 t162 x5_2 x6_2 y186 (y186.length:Int) x83_4 ((yU ByteArray.empty t167 0).extract 0 ((ji40):Int).toNat) x186001_4 y180=some (r1,r2))∧yc (kq≤kj15)∧yc (Kd.R Kd.string 9 w' w.heap.size (fun k_=>(w.heap.size≤k_)) (.slice (some ad166) t162.length co17) t162)∧yc (Kd.N k71 71 w' w.heap.size (fun k_=>(w.heap.size≤k_)∧some k_≠((.slice (some ad166) t162.length co17):Value).ownBlock∧some k_≠(u186001:Value).ownBlock∧k_≠gb185) u5 x5_2)∧yc (Kd.V Kd.string 9 w' w.heap.size (fun k_=>(w.heap.size≤k_)∧some k_≠((.slice (some ad166) t162.length co17):Value).ownBlock∧some k_≠(u5:Value).ownBlock∧some k_≠(u186001:Value).ownBlock∧k_≠gb185) (.slice A53 y186.length c53) y186)∧yc (Kd.R (Kd.int .u64) 30 w' w.heap.size (fun k_=>(w.heap.size≤k_)) u186001 x186001_4)∧yc (Kd.V Kd.string 9 w' w.heap.size (fun k_=>(w.heap.size≤k_)∧some k_≠((.slice (some ad166) t162.length co17):Value).ownBlock∧some k_≠(u5:Value).ownBlock∧some k_≠(u186001:Value).ownBlock∧k_≠gb185) (.slice A47 y180.length c47) y180)∧yc (w'.heap[gb185]?=some (.cells #[.string ((yU ByteArray.empty t167 0).extract 0 ((ji40):Int).toNat),u186001,(.slice A47 y180.length c47)] 71 (0,0)))∧yc (Below w.heap.size w w'))
                             case atStart=>exact ⟨(0),(([]:List Int)),(.slice none 0 0),(by first|rfl|(simp;done)|(simp [*];done)|(simp [yn];done)),H',⟨Nat.le_refl _⟩,⟨by refine Zr ?_;exact Kd.Yr HO_4.out (fun _ hk=>hk.1)⟩,⟨by refine Zn ?_;exact Kd.YC HO_5.out (fun _ hk=>⟨hk.1,⟨hk.2.1,⟨(by simp [Value.ownBlock]),hk.2.2.2.2⟩⟩⟩)⟩,⟨by refine Zv ?_;exact Kd.Jf HO190.out (fun _ hk=>⟨hk.1.1.1,⟨hk.1.1.2.1,⟨hk.1.2,⟨(by simp [Value.ownBlock]),hk.2⟩⟩⟩⟩)⟩,⟨by first|exact Kd.qm _ _ _ _ _|exact Kd.yae _ _ _ _ _|exact Kd.QV _ _ _ _ _|exact Kd.yaf _ _ _ _ _|exact Kd.yah _ _ _ _ _⟩,⟨by refine Zv ?_;exact Kd.Jf HO184.out (fun _ hk=>⟨hk.1,⟨hk.2.1,⟨hk.2.2.1,⟨(by simp [Value.ownBlock]),hk.2.2.2.2⟩⟩⟩⟩)⟩,⟨by refine Zb ?_;exact BK185.out⟩,⟨by repeat (first|(with_reducible first|exact HB.out|apply yl|apply ym|apply yp|refine yu ?_ GE185.out)|exact HB.out)⟩⟩
                             case round=>
                              clear H'
                              try clear c1
                              try clear p1
                              try clear q1
                              try clear hx1
                              try clear qi1
                              try clear c2
                              try clear p2
                              try clear c3
                              try clear c4
                              try clear q4
                              try clear c5
                              try clear q5
                              try clear p6
                              try clear p17
                              try clear q17
                              try clear hx17
                              try clear qi17
                              try clear c24
                              try clear c24b0
                              try clear c24b1
                              try clear c24b2
                              try clear c25
                              try clear c26
                              try clear c27
                              try clear c27b0
                              try clear c27b1
                              try clear c38
                              try clear c39
                              try clear c39b0
                              try clear c39b1
                              try clear c41
                              try clear c41b0
                              try clear c41b1
                              try clear c42
                              try clear c42b0
                              try clear c42b1
                              try clear c43
                              try clear c43b0
                              try clear c43b1
                              try clear c44
                              try clear c44b0
                              try clear c44b1
                              try clear c47
                              try clear q47
                              try clear c53
                              try clear q53
                              try clear hx174_0
                              try clear hx175_0
                              try clear hx178_0
                              try clear hx179_0
                              try clear p1
                              try clear p17
                              try clear p174
                              try clear p175
                              try clear p178
                              try clear p179
                              try clear p2
                              try clear q1
                              try clear q17
                              try clear q174
                              try clear q175
                              try clear q178
                              try clear q179
                              try clear q47
                              try clear q53
                              obtain ⟨x83_4,x186001_4,u186001,rfl,HA,HK4,HO_4,HO_5,HO_81,HO_186001,HO_186002,BK185,HB⟩:=hrel
                              cases gk with
                              | zero=>exact absurd HA.out (by simp [yh.l1])
                              | succ k4=>
                               have H:=HA.out
                               clear HA
                               simp only [yh.l1] at H
                               by_cases c55:x83_4<(y186.length:Int)
                               · rw [if_pos c55] at H
                                 have c55b0:decide (x83_4<(y186.length:Int))=true:=decide_eq_true c55
                                 clear c55
                                 by_cases c56:0≤x83_4
                                 · rw [if_pos c56] at H
                                   have c56b0:decide (0≤x83_4)=true:=decide_eq_true c56
                                   clear c56
                                   by_cases c57:x83_4<(y186.length:Int)
                                   · rw [if_pos c57] at H
                                     have c57b0:decide (x83_4<(y186.length:Int))=true:=decide_eq_true c57
                                     clear c57
                                     replace H:=Option.bind_eq_some_iff.mp H
                                     obtain ⟨⟨t195,t196⟩,A580,H⟩:=H
                                     replace H:(if t196=true then ((yO.f k4 t195).bind fun t197=>(if t197.toList=(yU ByteArray.empty y186 x83_4).toList then (if x186001_4.length<17592186044416 then (yh.l1 k4 a0 t162 x5_2 x6_2 y186 (y186.length:Int) (wrap64 (x83_4+1)) ((yU ByteArray.empty t167 0).extract 0 ((ji40):Int).toNat) (x186001_4++[IntKind.u64.wrap (t195)]) y180) else (none)) else (some (([]:List (S71)),false)))) else (some (([]:List (S71)),false)))=some (r1,r2):=H
                                     have A58:=yc.mk A580
                                     clear A580
                                     by_cases c59:t196=true
                                     · subst c59
                                       have H1:((yO.f k4 t195).bind fun t197=>(if t197.toList=(yU ByteArray.empty y186 x83_4).toList then (if x186001_4.length<17592186044416 then (yh.l1 k4 a0 t162 x5_2 x6_2 y186 (y186.length:Int) (wrap64 (x83_4+1)) ((yU ByteArray.empty t167 0).extract 0 ((ji40):Int).toNat) (x186001_4++[IntKind.u64.wrap (t195)]) y180) else (none)) else (some (([]:List (S71)),false))))=some (r1,r2):=by rw [if_pos rfl] at H;exact H
                                       clear H
                                       have H:=H1
                                       clear H1
                                       replace H:=Option.bind_eq_some_iff.mp H
                                       obtain ⟨t197,A600,H⟩:=H
                                       replace H:(if t197.toList=(yU ByteArray.empty y186 x83_4).toList then (if x186001_4.length<17592186044416 then (yh.l1 k4 a0 t162 x5_2 x6_2 y186 (y186.length:Int) (wrap64 (x83_4+1)) ((yU ByteArray.empty t167 0).extract 0 ((ji40):Int).toNat) (x186001_4++[IntKind.u64.wrap (t195)]) y180) else (none)) else (some (([]:List (S71)),false)))=some (r1,r2):=H
                                       have A60:=yc.mk A600
                                       clear A600
                                       by_cases c61:t197.toList=(yU ByteArray.empty y186 x83_4).toList
                                       · rw [if_pos c61] at H
                                         have c61b0:(t197.toList == (yU ByteArray.empty y186 x83_4).toList)=true:=beq_iff_eq.mpr c61
                                         have c61b1:(t197.toList != (yU ByteArray.empty y186 x83_4).toList)=false:=bne_eq_false_iff_eq.mpr c61
                                         clear c61
                                         by_cases c62:x186001_4.length<17592186044416
                                         · rw [if_pos c62] at H
                                           have LMc62:=yc.mk c62
                                           clear c62
                                           obtain ⟨y198,hy198⟩:∃ y_:List Int,y_=(x186001_4++[IntKind.u64.wrap (t195)]):=⟨_,rfl⟩
                                           replace H:(yh.l1 k4 a0 t162 x5_2 x6_2 y186 (y186.length:Int) (wrap64 (x83_4+1)) ((yU ByteArray.empty t167 0).extract 0 ((ji40):Int).toNat) y198 y180)=some (r1,r2):=by first|(rw [hy198];with_reducible exact H)|(have H2_:=(Option.bind_some _ _).symm.trans H;rw [hy198];with_reducible exact H2_)|(have H2_:=(Option.bind_some _ _).symm.trans H;with_reducible exact H2_)|with_reducible exact H|(rw [hy198];exact H)|exact H
                                           have Ny198:=yc.mk hy198
                                           clear hy198
                                           have H':=yc.mk H
                                           clear H
                                           have p194:0≤(x83_4:Int):=of_decide_eq_true (by first|(with_reducible assumption)|assumption)
                                           have q194:x83_4<(y186.length:Int):=of_decide_eq_true (by first|(with_reducible assumption)|assumption)
                                           obtain ⟨ad194,e194,hx194_0⟩:=Kd.YH (Kd.yaM HO_81.out).2.2 x83_4 p194 q194
                                           cases e194
                                           replace p194:=eq_true p194
                                           replace q194:=eq_true q194
                                           go_wp2_with (first|((with_reducible refine yW (f:=27) rfl ?_);refine YD (some 89) rfl rfl Tryz.func27 Zk rfl #[.string (yU ByteArray.empty y186 x83_4)] rfl (by (try simp only [List.map_toArray,List.map_cons,List.map_nil]);first|done|rfl|(simp only [List.length_drop,List.length_take];rfl)) ?_;(with_reducible refine (Yz.calls k4 (yU ByteArray.empty y186 x83_4) t195 true _ A58.out).mono ?_);rintro e w' ⟨rfl,⟨nd,rfl⟩⟩;refine ⟨_,rfl,?_⟩;(try (rw [drewN_self wr];generalize hq_:World.drewN wr _=wr;have n0_:yc (Kd.R (Kd.int .u64) 30 wr w.heap.size (fun k_=>(w.heap.size≤k_)) u186001 x186001_4):=⟨by rw [← hq_];exact (Zr HO_186001.out)⟩;have n1_:yc (Kd.V Kd.string 9 wr w.heap.size (fun k_=>(w.heap.size≤k_)∧some k_≠(u186001:Value).ownBlock∧some k_≠(.slice (some ad166) t162.length co17:Value).ownBlock∧some k_≠(u5:Value).ownBlock∧k_≠gb185) (.slice A47 y180.length c47) y180):=⟨by rw [← hq_];exact (by refine Zv ?_;exact Kd.Jf HO_186002.out (fun _ hk=>⟨hk.1,⟨hk.2.2.2.1,⟨hk.2.1,⟨hk.2.2.1,hk.2.2.2.2⟩⟩⟩⟩))⟩;have n2_:yc (Kd.R Kd.string 9 wr w.heap.size (fun k_=>(w.heap.size≤k_)) (.slice (some ad166) t162.length co17) t162):=⟨by rw [← hq_];exact (Zr HO_4.out)⟩;have n3_:yc (Kd.N k71 71 wr w.heap.size (fun k_=>(w.heap.size≤k_)∧some k_≠(u186001:Value).ownBlock∧some k_≠(.slice (some ad166) t162.length co17:Value).ownBlock∧k_≠gb185) u5 x5_2):=⟨by rw [← hq_];exact (by refine Zn ?_;exact Kd.YC HO_5.out (fun _ hk=>⟨hk.1,⟨hk.2.2.1,⟨hk.2.1,hk.2.2.2⟩⟩⟩))⟩;have n4_:yc (Kd.V Kd.string 9 wr w.heap.size (fun k_=>(w.heap.size≤k_)∧some k_≠(u186001:Value).ownBlock∧some k_≠(.slice (some ad166) t162.length co17:Value).ownBlock∧some k_≠(u5:Value).ownBlock∧k_≠gb185) (.slice (some ad194) y186.length c53) y186):=⟨by rw [← hq_];exact (by refine Zv ?_;exact Kd.Jf HO_81.out (fun _ hk=>⟨hk.1,⟨hk.2.2.2.1,⟨hk.2.1,⟨hk.2.2.1,hk.2.2.2.2⟩⟩⟩⟩))⟩;have n5_:yc (wr.heap[gb185]?=some (.cells #[.string ((yU ByteArray.empty t167 0).extract 0 ((ji40):Int).toNat),u186001,.slice A47 y180.length c47] 71 (0,0))):=⟨by rw [← hq_];exact (Zb BK185.out)⟩;have n6_:yc (Below w.heap.size w wr):=⟨by rw [← hq_];exact (Zg GE185.out)⟩;clear HO_186001 HO_186002 HO_4 HO_5 HO_81 BK185 HB hq_;have HO_186001:=n0_;have HO_186002:=n1_;have HO_4:=n2_;have HO_5:=n3_;have HO_81:=n4_;have BK185:=n5_;have HB:=n6_;clear n0_ n1_ n2_ n3_ n4_ n5_ n6_)))|(go_at_call 28;(with_reducible refine (yO.calls k4 t195 t197 _ A60.out).mono ?_);rintro e w63 ⟨rfl,hb⟩;have n0_:=yc.mk (Kd.Y1 (Zr HO_4.out) hb);have n1_:=yc.mk (Kd.JO (Zn HO_5.out) hb);have n2_:=yc.mk (Kd.yaq (Zv HO_81.out) hb);have n3_:=yc.mk (Kd.Y1 (Zr HO_186001.out) hb);have n4_:=yc.mk (Kd.yaq (Zv HO_186002.out) hb);have n5_:=yc.mk (yI (g:=gb185) (o:=.cells #[.string ((yU ByteArray.empty t167 0).extract 0 ((ji40):Int).toNat),u186001,.slice A47 y180.length c47] 71 (0,0)) (Zb BK185.out) hb);have n6_:=yc.mk (yw (Zg GE185.out) hb);clear HO_4 HO_5 HO_81 HO_186001 HO_186002 BK185 HB;have HO_4:=n0_;have HO_5:=n1_;have HO_81:=n2_;have HO_186001:=n3_;have HO_186002:=n4_;have BK185:=n5_;have HB:=n6_;clear n0_ n1_ n2_ n3_ n4_ n5_ n6_;(try clear hb);(try clear hb2);(try clear hk);(try clear hi);have hcz64_0:w63.cell? ⟨gb185,0,none⟩=some (.string ((yU ByteArray.empty t167 0).extract 0 ((ji40):Int).toNat)):=(yg BK185.out 0).trans rfl;have hcz64_1:w63.cell? ⟨gb185,1,none⟩=some (u186001):=(yg BK185.out 1).trans rfl;have hcz64_2:w63.cell? ⟨gb185,2,none⟩=some (.slice A47 y180.length c47):=(yg BK185.out 2).trans rfl;have hfz64_0:=yf BK185.out 0;have hfz64_1:=yf BK185.out 1;have hfz64_2:=yf BK185.out 2)|((with_reducible refine Jl (b:=.append) (xs:=#[.tmp 101,.tmp 104]) rfl ?_);(try (refine yaw (by rfl) ?_;dsimp only));at_builtin;refine Kd.qy (Kd.int .u64) (w0:=w) w.heap.size rfl (.tmp 101) (.tmp 104) 69 30 (.int .u64 0) 8 rfl Tryz.underlying69 info30 rfl Zd Zo u186001 x186001_4 (IntKind.u64.wrap (t195)) [.int .u64 (IntKind.u64.wrap (t195))] (fun k_=>(w.heap.size≤k_)) (fun _=>False) rfl rfl ?aP (fun _ hk=>hk.elim) ?aF ?aO ?aB ?aS ?aL ?_;(case aP=>exact rfl);(case aB=>exact (Zg GE185.out));(case aF=>exact (fun k_ hk=>(Nat.le_trans (yt (Zg GE185.out)) hk)));(case aO=>exact (Zr HO_186001.out));(case aS=>exact (yt (Zg GE185.out)));(case aL=>have:=LMc62.out;omega);intro v199 w65 ho hb hg hat;rw [← Ny198.out] at ho;have n0_:=yc.mk (Kd.ycG (Zr HO_4.out) (Kd.yap (Zr HO_186001.out)) Zd hg);have n1_:=yc.mk (Kd.ycU (ok:=(fun k_=>(w.heap.size≤k_)∧some k_≠(.slice (some ad166) t162.length co17:Value).ownBlock∧k_≠gb185)) (by refine Zn ?_;exact Kd.YC HO_5.out (fun _ hk=>⟨⟨hk.1,⟨by first|exact hk.2.1|exact hk.2.2.1,hk.2.2.2⟩⟩,by first|exact hk.2.2.1|exact hk.2.1⟩)) hg hat);have n2_:=yc.mk (Kd.yaL (ok:=(fun k_=>(w.heap.size≤k_)∧some k_≠(.slice (some ad166) t162.length co17:Value).ownBlock∧some k_≠(u5:Value).ownBlock∧k_≠gb185)) (by refine Zv ?_;exact Kd.Jf HO_81.out (fun _ hk=>⟨⟨hk.1,⟨by first|exact hk.2.1|exact hk.2.2.1,⟨by first|exact hk.2.2.1|exact hk.2.2.2.1,hk.2.2.2.2⟩⟩⟩,by first|exact hk.2.2.2.1|exact hk.2.1⟩)) hg hat);have n3_:=yc.mk (Kd.yaL (ok:=(fun k_=>(w.heap.size≤k_)∧some k_≠(.slice (some ad166) t162.length co17:Value).ownBlock∧some k_≠(u5:Value).ownBlock∧k_≠gb185)) (by refine Zv ?_;exact Kd.Jf HO_186002.out (fun _ hk=>⟨⟨hk.1,⟨by first|exact hk.2.1|exact hk.2.2.1,⟨by first|exact hk.2.2.1|exact hk.2.2.2.1,hk.2.2.2.2⟩⟩⟩,by first|exact hk.2.2.2.1|exact hk.2.1⟩)) hg hat);have n4_:=yc.mk (YV (g:=gb185) (o:=.cells #[.string ((yU ByteArray.empty t167 0).extract 0 ((ji40):Int).toNat),u186001,.slice A47 y180.length c47] 71 (0,0)) (Zb BK185.out) hg (Kd.qS HO_186001.out BK185.out Zd));have n5_:=yc.mk (hb);have n6_:=yc.mk (ho);clear HO_4 HO_5 HO_81 HO_186002 BK185 HB HO_186001;have HO_4:=n0_;have HO_5:=n1_;have HO_81:=n2_;have HO_186002:=n3_;have BK185:=n4_;have HB:=n5_;have HO200:=n6_;clear n0_ n1_ n2_ n3_ n4_ n5_ n6_;clear ho hb hg hat;obtain ⟨Ao66,co66,eo66⟩:=Kd.YF HO200.out;subst eo66;have hcz67_0:w65.cell? ⟨gb185,0,none⟩=some (.string ((yU ByteArray.empty t167 0).extract 0 ((ji40):Int).toNat)):=(yg BK185.out 0).trans rfl;have hcz67_1:w65.cell? ⟨gb185,1,none⟩=some (u186001):=(yg BK185.out 1).trans rfl;have hcz67_2:w65.cell? ⟨gb185,2,none⟩=some (.slice A47 y180.length c47):=(yg BK185.out 2).trans rfl;have hfz67_0:=yf BK185.out 0;have hfz67_1:=yf BK185.out 1;have hfz67_2:=yf BK185.out 2))
                                           go_roundg k4
                                           case measure=>have:=HJ2.out;have:=HK2.out;have:=HJ15.out;have:=HK4.out;omega
                                           case rel=>exact ⟨(wrap64 (x83_4+1)),(y198),(.slice Ao66 y198.length co66),(by first|rfl|(simp;done)|(simp [*];done)|(simp [yn];done)),H',⟨by have:=HJ2.out;have:=HK2.out;have:=HJ15.out;have:=HK4.out;omega⟩,⟨by refine Zr ?_;exact Kd.Yr (Kd.YN (p:=⟨gb185,1,none⟩) (Kd.qI HO_4.out BK185.out Zd) (fun _ hk=>hk.2) (.slice Ao66 y198.length co66)) (fun _ hk=>hk.1)⟩,⟨by refine Zn ?_;exact Kd.YC (Kd.YO (p:=⟨gb185,1,none⟩) (Kd.YC HO_5.out (fun k_ hk=>(⟨hk,hk.1.2.2⟩:_∧k_≠gb185))) (fun _ hk=>hk.2) (.slice Ao66 y198.length co66)) (fun _ hk=>⟨hk.1.1.1,⟨hk.1.1.2.1,⟨hk.1.2,hk.1.1.2.2⟩⟩⟩)⟩,⟨by refine Zv ?_;exact Kd.Jf (Kd.JV (p:=⟨gb185,1,none⟩) (Kd.Jf HO_81.out (fun k_ hk=>(⟨hk,hk.1.2.2.2⟩:_∧k_≠gb185))) (fun _ hk=>hk.2) (.slice Ao66 y198.length co66)) (fun _ hk=>⟨hk.1.1.1,⟨hk.1.1.2.1,⟨hk.1.1.2.2.1,⟨hk.1.2,hk.1.1.2.2.2⟩⟩⟩⟩)⟩,⟨by refine Zr ?_;exact Kd.Yr (Kd.YN (p:=⟨gb185,1,none⟩) (Kd.qI HO200.out BK185.out Zd) (fun _ hk=>hk.2) (.slice Ao66 y198.length co66)) (fun _ hk=>hk.1)⟩,⟨by refine Zv ?_;exact Kd.Jf (Kd.JV (p:=⟨gb185,1,none⟩) (Kd.Jf HO_186002.out (fun k_ hk=>(⟨hk,hk.1.2.2.2⟩:_∧k_≠gb185))) (fun _ hk=>hk.2) (.slice Ao66 y198.length co66)) (fun _ hk=>⟨hk.1.1.1,⟨hk.1.1.2.1,⟨hk.1.1.2.2.1,⟨hk.1.2,hk.1.1.2.2.2⟩⟩⟩⟩)⟩,⟨by refine Zb ?_;refine yy (cs:=#[.string ((yU ByteArray.empty t167 0).extract 0 ((ji40):Int).toNat),u186001,.slice A47 y180.length c47]) ?_ 1 _ rfl;refine Zb ?_;exact BK185.out⟩,⟨by repeat (first|(with_reducible first|exact HB.out|apply yl|apply ym|apply yp|refine yu ?_ GE185.out)|exact HB.out)⟩⟩
                                         · rw [if_neg c62] at H
                                           exact absurd H (by simp)
                                       · rw [if_neg c61] at H
                                         have c61b0:(t197.toList == (yU ByteArray.empty y186 x83_4).toList)=false:=beq_eq_false_iff_ne.mpr c61
                                         have c61b1:(t197.toList != (yU ByteArray.empty y186 x83_4).toList)=true:=bne_iff_ne.mpr c61
                                         simp only [Option.some.injEq,Prod.mk.injEq] at H
                                         obtain ⟨rfl,rfl⟩:=H
                                         have p194:0≤(x83_4:Int):=of_decide_eq_true (by first|(with_reducible assumption)|assumption)
                                         have q194:x83_4<(y186.length:Int):=of_decide_eq_true (by first|(with_reducible assumption)|assumption)
                                         obtain ⟨ad194,e194,hx194_0⟩:=Kd.YH (Kd.yaM HO_81.out).2.2 x83_4 p194 q194
                                         cases e194
                                         replace p194:=eq_true p194
                                         replace q194:=eq_true q194
                                         go_wp2_with (first|((with_reducible refine yW (f:=27) rfl ?_);refine YD (some 89) rfl rfl Tryz.func27 Zk rfl #[.string (yU ByteArray.empty y186 x83_4)] rfl (by (try simp only [List.map_toArray,List.map_cons,List.map_nil]);first|done|rfl|(simp only [List.length_drop,List.length_take];rfl)) ?_;(with_reducible refine (Yz.calls k4 (yU ByteArray.empty y186 x83_4) t195 true _ A58.out).mono ?_);rintro e w' ⟨rfl,⟨nd,rfl⟩⟩;refine ⟨_,rfl,?_⟩)|(go_at_call 28;(with_reducible refine (yO.calls k4 t195 t197 _ A60.out).mono ?_);rintro e w68 ⟨rfl,hb⟩;have n0_:=yc.mk (Kd.Y1 (Zr HO_4.out) hb);have n1_:=yc.mk (Kd.JO (Zn HO_5.out) hb);have n2_:=yc.mk (Kd.yaq (Zv HO_81.out) hb);have n3_:=yc.mk (Kd.Y1 (Zr HO_186001.out) hb);have n4_:=yc.mk (Kd.yaq (Zv HO_186002.out) hb);have n5_:=yc.mk (yI (g:=gb185) (o:=.cells #[.string ((yU ByteArray.empty t167 0).extract 0 ((ji40):Int).toNat),u186001,.slice A47 y180.length c47] 71 (0,0)) (Zb BK185.out) hb);have n6_:=yc.mk (yw (Zg GE185.out) hb);clear HO_4 HO_5 HO_81 HO_186001 HO_186002 BK185 HB;have HO_4:=n0_;have HO_5:=n1_;have HO_81:=n2_;have HO_186001:=n3_;have HO_186002:=n4_;have BK185:=n5_;have HB:=n6_;clear n0_ n1_ n2_ n3_ n4_ n5_ n6_;(try clear hb);(try clear hb2);(try clear hk);(try clear hi)))
                                         go_ret2
                                         exact ⟨_,by first|rfl|(simp [yK,yL] <;> rfl)|(simp only [← hji12,← hji40]; first|rfl|(simp [yK,yL] <;> rfl))|(simp [*,yK,yL] <;> rfl),by first|exact Kd.yah _ _ _ _ _|exact Kd.yae _ _ _ _ _|exact Kd.QV _ _ _ _ _|exact Kd.yaf _ _ _ _ _|exact Kd.qm _ _ _ _ _,by repeat (first|(with_reducible first|exact HB.out|apply yl|apply ym|apply yp|refine yu ?_ GE185.out)|exact HB.out)⟩
                                     · replace c59:=Bool.eq_false_iff.mpr c59
                                       subst c59
                                       have H1:(some (([]:List (S71)),false))=some (r1,r2):=by rw [if_neg (show ¬ (false=true) by decide)] at H;exact H
                                       clear H
                                       have H:=H1
                                       clear H1
                                       simp only [Option.some.injEq,Prod.mk.injEq] at H
                                       obtain ⟨rfl,rfl⟩:=H
                                       have p194:0≤(x83_4:Int):=of_decide_eq_true (by first|(with_reducible assumption)|assumption)
                                       have q194:x83_4<(y186.length:Int):=of_decide_eq_true (by first|(with_reducible assumption)|assumption)
                                       obtain ⟨ad194,e194,hx194_0⟩:=Kd.YH (Kd.yaM HO_81.out).2.2 x83_4 p194 q194
                                       cases e194
                                       replace p194:=eq_true p194
                                       replace q194:=eq_true q194
                                       go_wp2_with (first|((with_reducible refine yW (f:=27) rfl ?_);refine YD (some 89) rfl rfl Tryz.func27 Zk rfl #[.string (yU ByteArray.empty y186 x83_4)] rfl (by (try simp only [List.map_toArray,List.map_cons,List.map_nil]);first|done|rfl|(simp only [List.length_drop,List.length_take];rfl)) ?_;(with_reducible refine (Yz.calls k4 (yU ByteArray.empty y186 x83_4) t195 false _ A58.out).mono ?_);rintro e w' ⟨rfl,⟨nd,rfl⟩⟩;refine ⟨_,rfl,?_⟩))
                                       go_ret2
                                       exact ⟨_,by first|rfl|(simp [yK,yL] <;> rfl)|(simp only [← hji12,← hji40]; first|rfl|(simp [yK,yL] <;> rfl))|(simp [*,yK,yL] <;> rfl),by first|exact Kd.yah _ _ _ _ _|exact Kd.yae _ _ _ _ _|exact Kd.QV _ _ _ _ _|exact Kd.yaf _ _ _ _ _|exact Kd.qm _ _ _ _ _,by repeat (first|(with_reducible first|exact HB.out|apply yl|apply ym|apply yp|refine yu ?_ GE185.out)|exact HB.out)⟩
                                   · rw [if_neg c57] at H
                                     exact absurd H (by simp)
                                 · rw [if_neg c56] at H
                                   exact absurd H (by simp)
                               · rw [if_neg c55] at H
                                 have c55b0:decide (x83_4<(y186.length:Int))=false:=decide_eq_false c55
                                 clear c55
                                 by_cases c69:x5_2.length<2199023255552
                                 · rw [if_pos c69] at H
                                   have LMc69:=yc.mk c69
                                   clear c69
                                   obtain ⟨y191,hy191⟩:∃ y_:List (S71),y_=(x5_2++[(⟨((yU ByteArray.empty t167 0).extract 0 ((ji40):Int).toNat),x186001_4,y180⟩:S71)]):=⟨_,rfl⟩
                                   replace H:(yh.l0 k4 a0 t162 y191 (wrap64 (x6_2+2)))=some (r1,r2):=by first|(rw [hy191];with_reducible exact H)|(have H2_:=(Option.bind_some _ _).symm.trans H;rw [hy191];with_reducible exact H2_)|(have H2_:=(Option.bind_some _ _).symm.trans H;with_reducible exact H2_)|with_reducible exact H|(rw [hy191];exact H)|exact H
                                   have Ny191:=yc.mk hy191
                                   clear hy191
                                   have H':=yc.mk H
                                   clear H
                                   have hcz70_0:wr.cell? ⟨gb185,0,none⟩=some (.string ((yU ByteArray.empty t167 0).extract 0 ((ji40):Int).toNat)):=(yg BK185.out 0).trans rfl
                                   have hcz70_1:wr.cell? ⟨gb185,1,none⟩=some (u186001):=(yg BK185.out 1).trans rfl
                                   have hcz70_2:wr.cell? ⟨gb185,2,none⟩=some (.slice A47 y180.length c47):=(yg BK185.out 2).trans rfl
                                   have hfz70_0:=yf BK185.out 0
                                   have hfz70_1:=yf BK185.out 1
                                   have hfz70_2:=yf BK185.out 2
                                   obtain ⟨Ao72,co72,eo72⟩:=Kd.YF HO_186001.out
                                   subst eo72
                                   go_wp2_with (first|((with_reducible refine Jl (b:=.append) (xs:=#[.tmp 108,.tmp 110]) rfl ?_);(try (refine yaw (by rfl) ?_;dsimp only));at_builtin;refine Kd.ycV k71 (w0:=w) w.heap.size rfl (.tmp 108) (.tmp 110) 27 71 (.agg #[(.string ⟨#[]⟩),(.slice none 0 0),(.slice none 0 0)]) 64 rfl Tryz.underlying27 info71 rfl Zd Zo u5 x5_2 (⟨((yU ByteArray.empty t167 0).extract 0 ((ji40):Int).toNat),x186001_4,y180⟩:S71) [.string ((yU ByteArray.empty t167 0).extract 0 ((ji40):Int).toNat),.slice Ao72 x186001_4.length co72,.slice A47 y180.length c47] (fun k_=>(w.heap.size≤k_)∧some k_≠(.slice (some ad166) t162.length co17:Value).ownBlock∧k_≠gb185) (fun k_=>((fun k_=>(w.heap.size≤k_)∧some k_≠(.slice (some ad166) t162.length co17:Value).ownBlock∧k_≠gb185)) k_∧some k_≠(u5:Value).ownBlock) rfl rfl ?aP (fun _ hk=>hk) ?aF ?aO ?aB ?aS ?aL ?_;(case aP=>exact (k71_mkF _ _ (⟨((yU ByteArray.empty t167 0).extract 0 ((ji40):Int).toNat),x186001_4,y180⟩:S71) (Kd.YK (Kd.Yr (ok':=(fun k_=>((fun k_=>(w.heap.size≤k_)∧some k_≠(.slice (some ad166) t162.length co17:Value).ownBlock∧k_≠gb185)) k_∧some k_≠(u5:Value).ownBlock)) (Kd.qI (Kd.yag (Kd.yag (HO_186001.out) (Kd.yap HO_4.out) Zd) (Kd.yao HO_5.out) Zd) BK185.out Zd) (fun k_ hk=>⟨⟨hk.1.1.1,⟨hk.1.1.2,hk.2⟩⟩,hk.1.2⟩))).2.1 (Kd.R_F (Kd.Yr (ok':=(fun k_=>((fun k_=>(w.heap.size≤k_)∧some k_≠(.slice (some ad166) t162.length co17:Value).ownBlock∧k_≠gb185)) k_∧some k_≠(u5:Value).ownBlock)) (Kd.qI (Kd.yag (Kd.yag (HO_186001.out) (Kd.yap HO_4.out) Zd) (Kd.yao HO_5.out) Zd) BK185.out Zd) (fun k_ hk=>⟨⟨hk.1.1.1,⟨hk.1.1.2,hk.2⟩⟩,hk.1.2⟩))) (Kd.yaM (Kd.Jf (ok':=(fun k_=>((fun k_=>(w.heap.size≤k_)∧some k_≠(.slice (some ad166) t162.length co17:Value).ownBlock∧k_≠gb185)) k_∧some k_≠(u5:Value).ownBlock)) (HO_186002.out) (fun k_ hk=>⟨⟨hk.1,⟨hk.2.1,hk.2.2.2.2⟩⟩,hk.2.2.1⟩))).2.1 (Kd.V_F (Kd.Jf (ok':=(fun k_=>((fun k_=>(w.heap.size≤k_)∧some k_≠(.slice (some ad166) t162.length co17:Value).ownBlock∧k_≠gb185)) k_∧some k_≠(u5:Value).ownBlock)) (HO_186002.out) (fun k_ hk=>⟨⟨hk.1,⟨hk.2.1,hk.2.2.2.2⟩⟩,hk.2.2.1⟩)))));(case aB=>exact (Zg GE185.out));(case aF=>exact (fun k_ hk=>⟨(Nat.le_trans (yt (Zg GE185.out)) hk),Kd.fresh' (Kd.R_lt (Zr HO_4.out)) k_ hk,Kd.JZ (g:=gb185) (o:=.cells #[.string ((yU ByteArray.empty t167 0).extract 0 ((ji40):Int).toNat),.slice Ao72 x186001_4.length co72,.slice A47 y180.length c47] 71 (0,0)) (Zb BK185.out) k_ hk⟩));(case aO=>exact (by refine Zn ?_;exact Kd.YC HO_5.out (fun _ hk=>⟨hk.1,⟨hk.2.1,hk.2.2.2⟩⟩)));(case aS=>exact (yt (Zg GE185.out)));(case aL=>have:=LMc69.out;omega);intro v192 w71 ho hb hg hat;rw [← Ny191.out] at ho;have n0_:=yc.mk (Kd.ycG (Zr HO_4.out) (Kd.yao (Zn HO_5.out)) Zd hg);have n1_:=yc.mk (Kd.yaL (ok:=(fun k_=>(w.heap.size≤k_)∧some k_≠(.slice (some ad166) t162.length co17:Value).ownBlock∧some k_≠(.slice Ao72 x186001_4.length co72:Value).ownBlock∧k_≠gb185)) (by refine Zv ?_;exact Kd.Jf HO_81.out (fun _ hk=>⟨⟨hk.1,⟨hk.2.1,⟨hk.2.2.2.1,hk.2.2.2.2⟩⟩⟩,hk.2.2.1⟩)) hg hat);have n2_:=yc.mk (Kd.yaL (ok:=(fun k_=>(w.heap.size≤k_)∧some k_≠(.slice (some ad166) t162.length co17:Value).ownBlock∧some k_≠(.slice Ao72 x186001_4.length co72:Value).ownBlock∧k_≠gb185)) (by refine Zv ?_;exact Kd.Jf HO_186002.out (fun _ hk=>⟨⟨hk.1,⟨hk.2.1,⟨hk.2.2.2.1,hk.2.2.2.2⟩⟩⟩,hk.2.2.1⟩)) hg hat);have n3_:=yc.mk (YV (g:=gb185) (o:=.cells #[.string ((yU ByteArray.empty t167 0).extract 0 ((ji40):Int).toNat),.slice Ao72 x186001_4.length co72,.slice A47 y180.length c47] 71 (0,0)) (Zb BK185.out) hg (Kd.N_away HO_5.out (fun _ hk=>hk.2.2.2)));have n4_:=yc.mk (hb);have n5_:=yc.mk (ho);clear HO_4 HO_81 HO_186002 BK185 HB HO_5 HO_186001;have HO_4:=n0_;have HO_81:=n1_;have HO_186002:=n2_;have BK185:=n3_;have HB:=n4_;have HO193:=n5_;clear n0_ n1_ n2_ n3_ n4_ n5_;clear ho hb hg hat))
                                   go_roundg k4
                                   case measure=>have:=HJ2.out;have:=HK2.out;have:=HJ15.out;have:=HK4.out;omega
                                   case rel=>exact ⟨(y191),(wrap64 (x6_2+2)),(by first|rfl|(simp;done)|(simp [*];done)|(simp [yn];done)),H',⟨by have:=HJ2.out;have:=HK2.out;have:=HJ15.out;have:=HK4.out;omega⟩,⟨by refine Zr ?_;exact HO_4.out⟩,⟨by refine Zn ?_;exact Kd.YC HO193.out (fun _ hk=>⟨hk.1,hk.2.1⟩)⟩,⟨by repeat (first|(with_reducible first|exact HB.out|apply yl|apply ym|apply yp|refine yu ?_ GE185.out)|exact HB.out)⟩⟩
                                 · rw [if_neg c69] at H
                                   exact absurd H (by simp)
                           · rw [if_neg c44] at H
                             exact absurd H (by simp)
                         · rw [if_neg c43] at H
                           exact absurd H (by simp)
                       · rw [if_neg c42] at H
                         exact absurd H (by simp)
                     · rw [if_neg c41] at H
                       exact absurd H (by simp)
                   · rw [if_neg c39] at H
                     exact absurd H (by simp)
             · rw [if_neg c14] at H
               exact absurd H (by simp)
           · rw [if_neg c13] at H
             exact absurd H (by simp)
         · rw [if_neg c10] at H
           exact absurd H (by simp)
       · rw [if_neg c9] at H
         have c9b0:decide (x6_2<(t162.length:Int))=false:=decide_eq_false c9
         clear c9
         replace H:=Option.bind_eq_some_iff.mp H
         obtain ⟨t201,A730,H⟩:=H
         replace H:(some (x5_2,(t201.toList == a0.toList)))=some (r1,r2):=H
         have A73:=yc.mk A730
         clear A730
         simp only [Option.some.injEq,Prod.mk.injEq] at H
         obtain ⟨rfl,rfl⟩:=H
         obtain ⟨Ao74,co74,eo74⟩:=Kd.YF HO_4.out
         subst eo74
         obtain ⟨Ao75,co75,eo75⟩:=Kd.QH HO_5.out
         subst eo75
         go_wp2_with (first|((with_reducible refine yW (f:=29) rfl ?_);refine YD (some 114) rfl rfl Tryz.func29 Zk rfl #[.slice Ao75 x5_2.length co75] rfl (by (try simp only [List.map_toArray,List.map_cons,List.map_nil]);first|done|rfl|(simp only [List.length_drop,List.length_take];rfl)) ?_;(with_reducible refine (yA.calls k2 _ _ x5_2 t201 _ ?side1 ?side2 A73.out).mono ?_);(case side1=>repeat (first|exact (Kd.Qp HO_5.out).2.2|(with_reducible refine Kd.qG ?_ _)|(with_reducible refine Kd.qH ?_ _)|(with_reducible refine Kd.Qv ?_)));(case side2=>exact (Kd.Qp HO_5.out).2.1);rintro e w76 ⟨rfl,hb⟩;refine ⟨_,rfl,?_⟩;have n0_:=yc.mk (Kd.Y1 (Zr HO_4.out) hb);have n1_:=yc.mk (Kd.JO (Zn HO_5.out) hb);have n2_:=yc.mk (yw Zh hb);clear HO_4 HO_5 HB;have HO_4:=n0_;have HO_5:=n1_;have HB:=n2_;clear n0_ n1_ n2_;(try clear hb);(try clear hb2);(try clear hk);(try clear hi)))
         go_ret2
         exact ⟨_,by first|rfl|(simp [yK,yL] <;> rfl)|(simp [*,yK,yL] <;> rfl),by refine Zn ?_; exact Kd.YC HO_5.out (fun _ hk=>hk.1),by repeat (first|(with_reducible first|exact HB.out|apply yl|apply ym|apply yp)|exact HB.out)⟩
end Go.Proofs.YtlmennkeggmdbaaGreatDoor
