/- Part 35 of 44 of the proof of the tied card of FnXfsRead. -/
import Derived.Test.YtdcaggoicdfehaaGreatDoorVz
import Derived.Test.YtdcaggoicdfehaaGreatDoorV4
import Derived.Test.YtdcaggoicdfehaaGreatDoorV34
import Derived.Test.YtdcaggoicdfehaaGreatDoorV29
set_option linter.unusedVariables false
set_option linter.unusedSimpArgs false
namespace Go.Proofs.YtdcaggoicdfehaaGreatDoor
open Go.RowKit Go.Proofs.YtdcaggoicdfehaaGreatDoorW.PrintWords Go.Proofs.YtdcaggoicdfehaaGreatDoorW.PrintLast Go.Proofs.YtdcaggoicdfehaaGreatDoorW.PrintMore
attribute [local go_sem] YX YV Ja Jb YK YL YW YU
def Yi.l0:Nat→ByteArray→Int→Int→Int→Int→Option (Int × Bool)
 | 0,_,_,_,_,_=>none
 | k+1,x0,x1,x6,x10,x11=>if x11<x10 then (if 0≤x11 then (if x11<(x0.size:Int) then ((yS.f k (bt x0 x11)).bind fun t133=>(if t133≥x1 then (some (0,false)) else (if x1=0 then (none) else (if x6 > (IntKind.u64.wrap (Int.tdiv (IntKind.u64.wrap (18446744073709551615 - t133)) x1)) then (some (0,false)) else (Yi.l0 k x0 x1 (IntKind.u64.wrap ((IntKind.u64.wrap (x6 * x1))+t133)) x10 (wrap64 (x11+1))))))) else (none)) else (none)) else (some (x6,(x0.toList != ([]:List UInt8))))
def Yi.f (k:Nat) (a0:ByteArray) (a1:Int):Option (Int × Bool):=Yi.l0 k a0 a1 0 (a0.size:Int) 0
theorem Yi.YB:∀ k,(∀ y0 y1 y2 y3 y4,LeO (Yi.l0 k y0 y1 y2 y3 y4) (Yi.l0 (k+1) y0 y1 y2 y3 y4))
 | 0=>fun _ _ _ _ _ r h=>by simp [Yi.l0] at h
 | k+1=>by
  have ih0:=Yi.YB k
  · intro y0 y1 y2 y3 y4
    unfold Yi.l0
    repeat' first
    | (with_reducible exact ih0 _ _ _ _ _)
    | (with_reducible exact yS.mono _ _)
    | (with_reducible exact LeO.refl _)
    | (with_reducible exact LeO.none _)
    | (with_reducible refine LeO.ite ?_ ?_)
    | (with_reducible refine LeO.bind ?_ (fun _=>?_))
    | exact ih0 _ _ _ _ _
    | exact yS.mono _ _
    | exact LeO.none _
    | refine LeO.ite ?_ ?_
    | refine LeO.bind ?_ (fun _=>?_)
theorem Yi.mono:∀ a0 a1 k,LeO (Yi.f k a0 a1) (Yi.f (k+1) a0 a1):=by
 intro a0 a1 k
 have ih0:=Yi.YB k
 unfold Yi.f
 repeat' first
  | (with_reducible exact ih0 _ _ _ _ _)
  | (with_reducible exact yS.mono _ _)
  | (with_reducible exact LeO.refl _)
  | (with_reducible exact LeO.none _)
  | (with_reducible refine LeO.ite ?_ ?_)
  | (with_reducible refine LeO.bind ?_ (fun _=>?_))
  | exact ih0 _ _ _ _ _
  | exact yS.mono _ _
  | exact LeO.none _
  | refine LeO.ite ?_ ?_
  | refine LeO.bind ?_ (fun _=>?_)
set_option maxHeartbeats 8000000 in
set_option maxRecDepth 100000 in
theorem Yi.calls (k:Nat) (a0:ByteArray) (a1:Int) (r1:Int) (r2:Bool) (w:World) (h:Yi.f k a0 a1=some (r1,r2)) :
 Calls Tryz.prog 133 #[.string a0,.int .u64 a1] w fun e w'=>e=.returned (.tuple #[.int .u64 r1,.bool r2])∧yV w w':=by
 have H:(Yi.l0 k a0 a1 0 (a0.size:Int) 0)=some (r1,r2):=h
 clear h
 have H':=yc.mk H
 clear H
 go_enter Tryz.func133,Tryz.ntmps133
 go_wp2
 go_loopg [6,11] k (fun kq v6 v11 w'=>∃ (x6_1:Int) (x11_1:Int),v6=.int .u64 x6_1∧v11=.int .i64 x11_1∧yc (Yi.l0 kq a0 a1 x6_1 (a0.size:Int) x11_1=some (r1,r2))∧yc (kq≤k)∧yV w w')
 case atStart=>exact ⟨(0),(0),(by first|rfl|(simp;done)|(simp [*];done)|(simp [yx];done)),(by first|rfl|(simp;done)|(simp [*];done)|(simp [yx];done)),H',⟨Nat.le_refl _⟩,by repeat (first|exact yV.refl _|apply yV.step)⟩
 case round=>
  clear H'
  try clear c1
  try clear p2
  obtain ⟨x6_1,x11_1,rfl,rfl,HA,HK1,⟨m1,rfl⟩⟩:=hrel
  cases gk with
  | zero=>exact absurd HA.out (by simp [Yi.l0])
  | succ k1=>
   have H:=HA.out
   clear HA
   simp only [Yi.l0] at H
   by_cases c3:x11_1<(a0.size:Int)
   · rw [if_pos c3] at H
     have c3b0:decide (x11_1<(a0.size:Int))=true:=decide_eq_true c3
     clear c3
     by_cases c4:0≤x11_1
     · rw [if_pos c4] at H
       have c4b0:decide (0≤x11_1)=true:=decide_eq_true c4
       clear c4
       by_cases c5:x11_1<(a0.size:Int)
       · rw [if_pos c5] at H
         have c5b0:decide (x11_1<(a0.size:Int))=true:=decide_eq_true c5
         clear c5
         replace H:=Option.bind_eq_some_iff.mp H
         obtain ⟨t133,A70,H⟩:=H
         replace H:(if t133≥a1 then (some (0,false)) else (if a1=0 then (none) else (if x6_1 > (IntKind.u64.wrap (Int.tdiv (IntKind.u64.wrap (18446744073709551615 - t133)) a1)) then (some (0,false)) else (Yi.l0 k1 a0 a1 (IntKind.u64.wrap ((IntKind.u64.wrap (x6_1 * a1))+t133)) (a0.size:Int) (wrap64 (x11_1+1))))))=some (r1,r2):=H
         have A7:=yc.mk A70
         clear A70
         by_cases c8:t133≥a1
         · rw [if_pos c8] at H
           have c8b0:decide (a1≤t133)=true:=decide_eq_true c8
           clear c8
           simp only [Option.some.injEq,Prod.mk.injEq] at H
           obtain ⟨rfl,rfl⟩:=H
           have p6:0≤(x11_1:Int):=of_decide_eq_true (by first|(with_reducible assumption)|assumption)
           have q6:x11_1<(a0.size:Int):=of_decide_eq_true (by first|(with_reducible assumption)|assumption)
           have hx6:=yaX a0 x11_1
           replace p6:=eq_true p6
           replace q6:=eq_true q6
           go_wp2_with (first|((with_reducible refine Yz (f:=139) rfl ?_);refine Yp (some 17) rfl rfl Tryz.func139 Zk rfl #[.int .u8 (bt a0 x11_1)] rfl (by (try simp only [List.map_toArray,List.map_cons,List.map_nil]);first|done|rfl|(simp only [List.length_drop,List.length_take];rfl)) ?_;(with_reducible refine (yS.calls k1 (bt a0 x11_1) t133 _ A7.out).mono ?_);rintro e w' ⟨rfl,⟨nd,rfl⟩⟩;refine ⟨_,rfl,?_⟩))
           go_ret2
           exact ⟨by first|rfl|(simp;done)|(simp [*];done)|(simp [yx];done),by repeat (first|exact yV.refl _|apply yV.step)⟩
         · rw [if_neg c8] at H
           have c8b0:decide (a1≤t133)=false:=decide_eq_false c8
           clear c8
           by_cases c9:a1=0
           · rw [if_pos c9] at H
             exact absurd H (by simp)
           · rw [if_neg c9] at H
             have c9b0:(a1 == 0)=false:=beq_eq_false_iff_ne.mpr c9
             have c9b1:(a1 != 0)=true:=bne_iff_ne.mpr c9
             by_cases c10:x6_1 > (IntKind.u64.wrap (Int.tdiv (IntKind.u64.wrap (18446744073709551615 - t133)) a1))
             · rw [if_pos c10] at H
               have c10b0:decide ((IntKind.u64.wrap (Int.tdiv (IntKind.u64.wrap (18446744073709551615 - t133)) a1))<x6_1)=true:=decide_eq_true c10
               clear c10
               simp only [Option.some.injEq,Prod.mk.injEq] at H
               obtain ⟨rfl,rfl⟩:=H
               have p6:0≤(x11_1:Int):=of_decide_eq_true (by first|(with_reducible assumption)|assumption)
               have q6:x11_1<(a0.size:Int):=of_decide_eq_true (by first|(with_reducible assumption)|assumption)
               have hx6:=yaX a0 x11_1
               replace p6:=eq_true p6
               replace q6:=eq_true q6
               go_wp2_with (first|((with_reducible refine Yz (f:=139) rfl ?_);refine Yp (some 17) rfl rfl Tryz.func139 Zk rfl #[.int .u8 (bt a0 x11_1)] rfl (by (try simp only [List.map_toArray,List.map_cons,List.map_nil]);first|done|rfl|(simp only [List.length_drop,List.length_take];rfl)) ?_;(with_reducible refine (yS.calls k1 (bt a0 x11_1) t133 _ A7.out).mono ?_);rintro e w' ⟨rfl,⟨nd,rfl⟩⟩;refine ⟨_,rfl,?_⟩))
               go_ret2
               exact ⟨by first|rfl|(simp;done)|(simp [*];done)|(simp [yx];done),by repeat (first|exact yV.refl _|apply yV.step)⟩
             · rw [if_neg c10] at H
               have c10b0:decide ((IntKind.u64.wrap (Int.tdiv (IntKind.u64.wrap (18446744073709551615 - t133)) a1))<x6_1)=false:=decide_eq_false c10
               clear c10
               have H':=yc.mk H
               clear H
               have p6:0≤(x11_1:Int):=of_decide_eq_true (by first|(with_reducible assumption)|assumption)
               have q6:x11_1<(a0.size:Int):=of_decide_eq_true (by first|(with_reducible assumption)|assumption)
               have hx6:=yaX a0 x11_1
               replace p6:=eq_true p6
               replace q6:=eq_true q6
               go_wp2_with (first|((with_reducible refine Yz (f:=139) rfl ?_);refine Yp (some 17) rfl rfl Tryz.func139 Zk rfl #[.int .u8 (bt a0 x11_1)] rfl (by (try simp only [List.map_toArray,List.map_cons,List.map_nil]);first|done|rfl|(simp only [List.length_drop,List.length_take];rfl)) ?_;(with_reducible refine (yS.calls k1 (bt a0 x11_1) t133 _ A7.out).mono ?_);rintro e w' ⟨rfl,⟨nd,rfl⟩⟩;refine ⟨_,rfl,?_⟩))
               go_roundg k1
               case measure=>have:=HK1.out;omega
               case rel=>exact ⟨(IntKind.u64.wrap ((IntKind.u64.wrap (x6_1 * a1))+t133)),(wrap64 (x11_1+1)),(by first|rfl|(simp;done)|(simp [*];done)|(simp [yx];done)),(by first|rfl|(simp;done)|(simp [*];done)|(simp [yx];done)),H',⟨by have:=HK1.out;omega⟩,by repeat (first|exact yV.refl _|apply yV.step)⟩
       · rw [if_neg c5] at H
         exact absurd H (by simp)
     · rw [if_neg c4] at H
       exact absurd H (by simp)
   · rw [if_neg c3] at H
     have c3b0:decide (x11_1<(a0.size:Int))=false:=decide_eq_false c3
     clear c3
     simp only [Option.some.injEq,Prod.mk.injEq] at H
     obtain ⟨rfl,rfl⟩:=H
     go_wp2
     go_ret2
     exact ⟨by first|rfl|(simp;done)|(simp [*];done)|(simp [yx];done),by repeat (first|exact yV.refl _|apply yV.step)⟩
end Go.Proofs.YtdcaggoicdfehaaGreatDoor
namespace Go.Proofs.YtdcaggoicdfehaaGreatDoor
open Go.RowKit Go.Proofs.YtdcaggoicdfehaaGreatDoorW.PrintWords Go.Proofs.YtdcaggoicdfehaaGreatDoorW.PrintLast Go.Proofs.YtdcaggoicdfehaaGreatDoorW.PrintMore
attribute [local go_sem] YX YV Ja Jb YK YL YW YU
def JT.f (k:Nat) (a0:ByteArray):Option (Int × Bool):=(Yi.f k a0 10).bind fun bt134=>(some (bt134.1,bt134.2))
theorem JT.mono:∀ a0 k,LeO (JT.f k a0) (JT.f (k+1) a0):=by
 intro a0 k
 unfold JT.f
 repeat' first
  | (with_reducible exact Yi.mono _ _ _)
  | (with_reducible exact LeO.refl _)
  | (with_reducible exact LeO.none _)
  | (with_reducible refine LeO.ite ?_ ?_)
  | (with_reducible refine LeO.bind ?_ (fun _=>?_))
  | exact Yi.mono _ _ _
  | exact LeO.none _
  | refine LeO.ite ?_ ?_
  | refine LeO.bind ?_ (fun _=>?_)
set_option maxHeartbeats 8000000 in
set_option maxRecDepth 100000 in
theorem JT.calls (k:Nat) (a0:ByteArray) (r1:Int) (r2:Bool) (w:World) (h:JT.f k a0=some (r1,r2)) :
 Calls Tryz.prog 122 #[.string a0] w fun e w'=>e=.returned (.tuple #[.int .u64 r1,.bool r2])∧yV w w':=by
 have H:((Yi.f k a0 10).bind fun bt134=>(some (bt134.1,bt134.2)))=some (r1,r2):=h
 clear h
 replace H:=Option.bind_eq_some_iff.mp H
 obtain ⟨⟨t134,t135⟩,A20,H⟩:=H
 replace H:(some (t134,t135))=some (r1,r2):=H
 have A2:=yc.mk A20
 clear A20
 simp only [Option.some.injEq,Prod.mk.injEq] at H
 obtain ⟨rfl,rfl⟩:=H
 go_enter Tryz.func122,Tryz.ntmps122
 go_wp2_with (first|((with_reducible refine Yz (f:=133) rfl ?_);refine Yp (some 5) rfl rfl Tryz.func133 Zk rfl #[.string a0,.int .u64 10] rfl (by (try simp only [List.map_toArray,List.map_cons,List.map_nil]);first|done|rfl|(simp only [List.length_drop,List.length_take];rfl)) ?_;(with_reducible refine (Yi.calls k a0 10 t134 t135 _ A2.out).mono ?_);rintro e w' ⟨rfl,⟨nd,rfl⟩⟩;refine ⟨_,rfl,?_⟩))
 go_ret2
 exact ⟨by first|rfl|(simp;done)|(simp [*];done)|(simp [yx];done),by repeat (first|exact yV.refl _|apply yV.step)⟩
end Go.Proofs.YtdcaggoicdfehaaGreatDoor
namespace Go.Proofs.YtdcaggoicdfehaaGreatDoor
open Go.RowKit Go.Proofs.YtdcaggoicdfehaaGreatDoorW.PrintWords Go.Proofs.YtdcaggoicdfehaaGreatDoorW.PrintLast Go.Proofs.YtdcaggoicdfehaaGreatDoorW.PrintMore
attribute [local go_sem] YX YV Ja Jb YK YL YW YU
def yQ.l0:Nat→List Int→List ByteArray→Int→Int→Option (List Int × Bool)
 | 0,_,_,_,_=>none
 | k+1,x4,x9,x10,x11=>if x11<x10 then (if 0≤x11 then (if x11<(x9.length:Int) then ((JT.f k (YJ ByteArray.empty x9 x11)).bind fun bt145=>(if bt145.2=true then ((YY.f k bt145.1).bind fun t147=>(if t147.toList=(YJ ByteArray.empty x9 x11).toList then (if x4.length<17592186044416 then (yQ.l0 k (x4++[bt145.1]) x9 x10 (wrap64 (x11+1))) else (none)) else (some (([]:List Int),false)))) else (some (([]:List Int),false)))) else (none)) else (none)) else (some (x4,true))
def yQ.f (k:Nat) (l0:List ByteArray):Option (List Int × Bool):=yQ.l0 k ([]:List Int) l0 (l0.length:Int) 0
theorem yQ.YB:∀ k,(∀ y0 y1 y2 y3,LeO (yQ.l0 k y0 y1 y2 y3) (yQ.l0 (k+1) y0 y1 y2 y3))
 | 0=>fun _ _ _ _ r h=>by simp [yQ.l0] at h
 | k+1=>by
  have ih0:=yQ.YB k
  · intro y0 y1 y2 y3
    unfold yQ.l0
    repeat' first
    | (with_reducible exact ih0 _ _ _ _)
    | (with_reducible exact JT.mono _ _)
    | (with_reducible exact YY.mono _ _)
    | (with_reducible exact LeO.refl _)
    | (with_reducible exact LeO.none _)
    | (with_reducible refine LeO.ite ?_ ?_)
    | (with_reducible refine LeO.bind ?_ (fun _=>?_))
    | exact ih0 _ _ _ _
    | exact JT.mono _ _
    | exact YY.mono _ _
    | exact LeO.none _
    | refine LeO.ite ?_ ?_
    | refine LeO.bind ?_ (fun _=>?_)
theorem yQ.mono:∀ a0 k,LeO (yQ.f k a0) (yQ.f (k+1) a0):=by
 intro a0 k
 have ih0:=yQ.YB k
 unfold yQ.f
 repeat' first
  | (with_reducible exact ih0 _ _ _ _)
  | (with_reducible exact JT.mono _ _)
  | (with_reducible exact YY.mono _ _)
  | (with_reducible exact LeO.refl _)
  | (with_reducible exact LeO.none _)
  | (with_reducible refine LeO.ite ?_ ?_)
  | (with_reducible refine LeO.bind ?_ (fun _=>?_))
  | exact ih0 _ _ _ _
  | exact JT.mono _ _
  | exact YY.mono _ _
  | exact LeO.none _
  | refine LeO.ite ?_ ?_
  | refine LeO.bind ?_ (fun _=>?_)
set_option maxHeartbeats 8000000 in
set_option maxRecDepth 100000 in
theorem yQ.calls (k:Nat) (A0:Option Addr) (c0:Nat) (l0:List ByteArray) (r1:List Int) (r2:Bool) (w:World) (hr0:Kd.C Kd.string w A0 l0.length l0) (hc0:l0.length≤c0) (h:yQ.f k l0=some (r1,r2)) :
 Calls Tryz.prog 31 #[.slice A0 l0.length c0] w fun e w'=>∃ v0_:Value,e=.returned (.tuple #[v0_,.bool r2])∧Kd.R (Kd.int .u64) 30 w' w.heap.size (fun _=>True) v0_ r1∧Below w.heap.size w w':=by
 have HR0:=yc.mk hr0
 have HC0:=yc.mk hc0
 clear hr0 hc0
 have HB:=yc.mk (Below.refl w.heap.size w)
 have H:(yQ.l0 k ([]:List Int) l0 (l0.length:Int) 0)=some (r1,r2):=h
 clear h
 have H':=yc.mk H
 clear H
 go_enter Tryz.func31,Tryz.ntmps31
 go_wp2
 go_loopg [4,11] k (fun kq v4 v11 w'=>∃ (x4_1:List Int) (x11_1:Int),v11=.int .i64 x11_1∧yc (yQ.l0 kq x4_1 l0 (l0.length:Int) x11_1=some (r1,r2))∧yc (kq≤k)∧yc (Kd.R (Kd.int .u64) 30 w' w.heap.size (fun _=>True) v4 x4_1)∧yc (Below w.heap.size w w'))
 case atStart=>exact ⟨(([]:List Int)),(0),(by first|rfl|(simp;done)|(simp [*];done)|(simp [yx];done)),H',⟨Nat.le_refl _⟩,⟨by first|exact Kd.qf _ _ _ _ _|exact Kd.yao _ _ _ _ _|exact Kd.Qm _ _ _ _ _|exact Kd.yas _ _ _ _ _|exact Kd.yaq _ _ _ _ _⟩,⟨by repeat (first|(with_reducible first|exact HB.out|apply ym|apply yn|apply yu)|exact HB.out)⟩⟩
 case round=>
  clear H'
  obtain ⟨x4_1,x11_1,rfl,HA,HK1,HO_4,HB⟩:=hrel
  cases gk with
  | zero=>exact absurd HA.out (by simp [yQ.l0])
  | succ k1=>
   have H:=HA.out
   clear HA
   simp only [yQ.l0] at H
   by_cases c2:x11_1<(l0.length:Int)
   · rw [if_pos c2] at H
     have c2b0:decide (x11_1<(l0.length:Int))=true:=decide_eq_true c2
     clear c2
     by_cases c3:0≤x11_1
     · rw [if_pos c3] at H
       have c3b0:decide (0≤x11_1)=true:=decide_eq_true c3
       clear c3
       by_cases c4:x11_1<(l0.length:Int)
       · rw [if_pos c4] at H
         have c4b0:decide (x11_1<(l0.length:Int))=true:=decide_eq_true c4
         clear c4
         replace H:=Option.bind_eq_some_iff.mp H
         obtain ⟨⟨t145,t146⟩,A50,H⟩:=H
         replace H:(if t146=true then ((YY.f k1 t145).bind fun t147=>(if t147.toList=(YJ ByteArray.empty l0 x11_1).toList then (if x4_1.length<17592186044416 then (yQ.l0 k1 (x4_1++[t145]) l0 (l0.length:Int) (wrap64 (x11_1+1))) else (none)) else (some (([]:List Int),false)))) else (some (([]:List Int),false)))=some (r1,r2):=H
         have A5:=yc.mk A50
         clear A50
         by_cases c6:t146=true
         · subst c6
           have H1:((YY.f k1 t145).bind fun t147=>(if t147.toList=(YJ ByteArray.empty l0 x11_1).toList then (if x4_1.length<17592186044416 then (yQ.l0 k1 (x4_1++[t145]) l0 (l0.length:Int) (wrap64 (x11_1+1))) else (none)) else (some (([]:List Int),false))))=some (r1,r2):=by rw [if_pos rfl] at H;exact H
           clear H
           have H:=H1
           clear H1
           replace H:=Option.bind_eq_some_iff.mp H
           obtain ⟨t147,A70,H⟩:=H
           replace H:(if t147.toList=(YJ ByteArray.empty l0 x11_1).toList then (if x4_1.length<17592186044416 then (yQ.l0 k1 (x4_1++[t145]) l0 (l0.length:Int) (wrap64 (x11_1+1))) else (none)) else (some (([]:List Int),false)))=some (r1,r2):=H
           have A7:=yc.mk A70
           clear A70
           by_cases c8:t147.toList=(YJ ByteArray.empty l0 x11_1).toList
           · rw [if_pos c8] at H
             have c8b0:(t147.toList == (YJ ByteArray.empty l0 x11_1).toList)=true:=beq_iff_eq.mpr c8
             have c8b1:(t147.toList != (YJ ByteArray.empty l0 x11_1).toList)=false:=bne_eq_false_iff_eq.mpr c8
             clear c8
             by_cases c9:x4_1.length<17592186044416
             · rw [if_pos c9] at H
               have LMc9:=yc.mk c9
               clear c9
               obtain ⟨y148,hy148⟩:∃ y_:List Int,y_=(x4_1++[t145]):=⟨_,rfl⟩
               replace H:(yQ.l0 k1 y148 l0 (l0.length:Int) (wrap64 (x11_1+1)))=some (r1,r2):=by first|(rw [hy148];with_reducible exact H)|(have H2_:=(Option.bind_some _ _).symm.trans H;rw [hy148];with_reducible exact H2_)|(have H2_:=(Option.bind_some _ _).symm.trans H;with_reducible exact H2_)|with_reducible exact H|(rw [hy148];exact H)|exact H
               have Ny148:=yc.mk hy148
               clear hy148
               have H':=yc.mk H
               clear H
               have p144:0≤(x11_1:Int):=of_decide_eq_true (by first|(with_reducible assumption)|assumption)
               have q144:x11_1<(l0.length:Int):=of_decide_eq_true (by first|(with_reducible assumption)|assumption)
               obtain ⟨ad144,e144,hx144_0⟩:=Kd.qc HR0.out x11_1 p144 q144
               cases e144
               replace hx144_0:=(HB.out.cell (World.block_lt_of_cell? w _ hx144_0)).trans hx144_0
               replace p144:=eq_true p144
               replace q144:=eq_true q144
               go_wp2_with (first|((with_reducible refine Yz (f:=122) rfl ?_);refine Yp (some 17) rfl rfl Tryz.func122 Zk rfl #[.string (YJ ByteArray.empty l0 x11_1)] rfl (by (try simp only [List.map_toArray,List.map_cons,List.map_nil]);first|done|rfl|(simp only [List.length_drop,List.length_take];rfl)) ?_;(with_reducible refine (JT.calls k1 (YJ ByteArray.empty l0 x11_1) t145 true _ A5.out).mono ?_);rintro e w' ⟨rfl,⟨nd,rfl⟩⟩;refine ⟨_,rfl,?_⟩)|(go_at_call 123;(with_reducible refine (YY.calls k1 t145 t147 _ A7.out).mono ?_);rintro e w10 ⟨rfl,hb⟩;have n0_:=yc.mk (Kd.qb (Zr HO_4.out) hb);have n1_:=yc.mk (yy Zh hb);clear HO_4 HB;have HO_4:=n0_;have HB:=n1_;clear n0_ n1_;(try clear hb);(try clear hb2);(try clear hk);(try clear hi))|((with_reducible refine Jv (b:=.append) (xs:=#[.tmp 28,.tmp 30]) rfl ?_);at_builtin;refine Kd.J2 (Kd.int .u64) (w0:=w) w.heap.size rfl (.tmp 28) (.tmp 30) 54 30 (.int .u64 0) 8 rfl Tryz.underlying54 info30 rfl Zd Zo u4 x4_1 t145 [.int .u64 t145] (fun _=>True) (fun _=>False) rfl rfl ?aP (fun _ hk=>hk.elim) ?aF ?aO ?aB ?aS ?aL ?_;(case aP=>exact rfl);(case aB=>exact Zh);(case aF=>exact (fun _ _=>trivial));(case aO=>exact (Zr HO_4.out));(case aS=>exact (yt Zh));(case aL=>have:=LMc9.out;omega);intro v149 w11 ho hb hg hat;rw [← Ny148.out] at ho;have n0_:=yc.mk (hb);have n1_:=yc.mk (ho);clear HB HO_4;have HB:=n0_;have HO150:=n1_;clear n0_ n1_;clear ho hb hg hat))
               go_roundg k1
               case measure=>have:=HK1.out;omega
               case rel=>exact ⟨(y148),(wrap64 (x11_1+1)),(by first|rfl|(simp;done)|(simp [*];done)|(simp [yx];done)),H',⟨by have:=HK1.out;omega⟩,⟨by refine Zr ?_;exact HO150.out⟩,⟨by repeat (first|(with_reducible first|exact HB.out|apply ym|apply yn|apply yu)|exact HB.out)⟩⟩
             · rw [if_neg c9] at H
               exact absurd H (by simp)
           · rw [if_neg c8] at H
             have c8b0:(t147.toList == (YJ ByteArray.empty l0 x11_1).toList)=false:=beq_eq_false_iff_ne.mpr c8
             have c8b1:(t147.toList != (YJ ByteArray.empty l0 x11_1).toList)=true:=bne_iff_ne.mpr c8
             simp only [Option.some.injEq,Prod.mk.injEq] at H
             obtain ⟨rfl,rfl⟩:=H
             have p144:0≤(x11_1:Int):=of_decide_eq_true (by first|(with_reducible assumption)|assumption)
             have q144:x11_1<(l0.length:Int):=of_decide_eq_true (by first|(with_reducible assumption)|assumption)
             obtain ⟨ad144,e144,hx144_0⟩:=Kd.qc HR0.out x11_1 p144 q144
             cases e144
             replace hx144_0:=(HB.out.cell (World.block_lt_of_cell? w _ hx144_0)).trans hx144_0
             replace p144:=eq_true p144
             replace q144:=eq_true q144
             go_wp2_with (first|((with_reducible refine Yz (f:=122) rfl ?_);refine Yp (some 17) rfl rfl Tryz.func122 Zk rfl #[.string (YJ ByteArray.empty l0 x11_1)] rfl (by (try simp only [List.map_toArray,List.map_cons,List.map_nil]);first|done|rfl|(simp only [List.length_drop,List.length_take];rfl)) ?_;(with_reducible refine (JT.calls k1 (YJ ByteArray.empty l0 x11_1) t145 true _ A5.out).mono ?_);rintro e w' ⟨rfl,⟨nd,rfl⟩⟩;refine ⟨_,rfl,?_⟩)|(go_at_call 123;(with_reducible refine (YY.calls k1 t145 t147 _ A7.out).mono ?_);rintro e w12 ⟨rfl,hb⟩;have n0_:=yc.mk (Kd.qb (Zr HO_4.out) hb);have n1_:=yc.mk (yy Zh hb);clear HO_4 HB;have HO_4:=n0_;have HB:=n1_;clear n0_ n1_;(try clear hb);(try clear hb2);(try clear hk);(try clear hi)))
             go_ret2
             exact ⟨_,by first|rfl|(simp [yP,yO] <;> rfl)|(simp [*,yP,yO] <;> rfl),by first|exact Kd.qf _ _ _ _ _|exact Kd.yao _ _ _ _ _|exact Kd.Qm _ _ _ _ _|exact Kd.yas _ _ _ _ _|exact Kd.yaq _ _ _ _ _,by repeat (first|(with_reducible first|exact HB.out|apply ym|apply yn|apply yu)|exact HB.out)⟩
         · replace c6:=Bool.eq_false_iff.mpr c6
           subst c6
           have H1:(some (([]:List Int),false))=some (r1,r2):=by rw [if_neg (show ¬ (false=true) by decide)] at H;exact H
           clear H
           have H:=H1
           clear H1
           simp only [Option.some.injEq,Prod.mk.injEq] at H
           obtain ⟨rfl,rfl⟩:=H
           have p144:0≤(x11_1:Int):=of_decide_eq_true (by first|(with_reducible assumption)|assumption)
           have q144:x11_1<(l0.length:Int):=of_decide_eq_true (by first|(with_reducible assumption)|assumption)
           obtain ⟨ad144,e144,hx144_0⟩:=Kd.qc HR0.out x11_1 p144 q144
           cases e144
           replace hx144_0:=(HB.out.cell (World.block_lt_of_cell? w _ hx144_0)).trans hx144_0
           replace p144:=eq_true p144
           replace q144:=eq_true q144
           go_wp2_with (first|((with_reducible refine Yz (f:=122) rfl ?_);refine Yp (some 17) rfl rfl Tryz.func122 Zk rfl #[.string (YJ ByteArray.empty l0 x11_1)] rfl (by (try simp only [List.map_toArray,List.map_cons,List.map_nil]);first|done|rfl|(simp only [List.length_drop,List.length_take];rfl)) ?_;(with_reducible refine (JT.calls k1 (YJ ByteArray.empty l0 x11_1) t145 false _ A5.out).mono ?_);rintro e w' ⟨rfl,⟨nd,rfl⟩⟩;refine ⟨_,rfl,?_⟩))
           go_ret2
           exact ⟨_,by first|rfl|(simp [yP,yO] <;> rfl)|(simp [*,yP,yO] <;> rfl),by first|exact Kd.qf _ _ _ _ _|exact Kd.yao _ _ _ _ _|exact Kd.Qm _ _ _ _ _|exact Kd.yas _ _ _ _ _|exact Kd.yaq _ _ _ _ _,by repeat (first|(with_reducible first|exact HB.out|apply ym|apply yn|apply yu)|exact HB.out)⟩
       · rw [if_neg c4] at H
         exact absurd H (by simp)
     · rw [if_neg c3] at H
       exact absurd H (by simp)
   · rw [if_neg c2] at H
     have c2b0:decide (x11_1<(l0.length:Int))=false:=decide_eq_false c2
     clear c2
     simp only [Option.some.injEq,Prod.mk.injEq] at H
     obtain ⟨rfl,rfl⟩:=H
     go_wp2
     go_ret2
     exact ⟨_,by first|rfl|(simp [yP,yO] <;> rfl)|(simp [*,yP,yO] <;> rfl),by refine Zr ?_; exact HO_4.out,by repeat (first|(with_reducible first|exact HB.out|apply ym|apply yn|apply yu)|exact HB.out)⟩
end Go.Proofs.YtdcaggoicdfehaaGreatDoor
