/- Part 30 of 44 of the proof of the tied card of FnXfsRead. -/
import Derived.Test.YtdcaggoicdfehaaGreatDoorVz
import Derived.Test.YtdcaggoicdfehaaGreatDoorV4
import Derived.Test.YtdcaggoicdfehaaGreatDoorV29
import Derived.Test.YtdcaggoicdfehaaGreatDoorV28
set_option linter.unusedVariables false
set_option linter.unusedSimpArgs false
namespace Go.Proofs.YtdcaggoicdfehaaGreatDoor
open Go.RowKit Go.Proofs.YtdcaggoicdfehaaGreatDoorW.PrintWords Go.Proofs.YtdcaggoicdfehaaGreatDoorW.PrintLast Go.Proofs.YtdcaggoicdfehaaGreatDoorW.PrintMore
attribute [local go_sem] YX YV Ja Jb YK YL YW YU
def Yb.l0:Nat→ByteArray→List ByteArray→List Int→Int→Int→Option (ByteArray)
 | 0,_,_,_,_,_=>none
 | k+1,x1,x5,x8,x9,x10=>if x10<x9 then (if 0≤x10 then (if x10<(x8.length:Int) then ((YY.f k (rd x8 x10)).bind fun t325=>(if x5.length<8796093022208 then (Yb.l0 k x1 (x5++[t325]) x8 x9 (wrap64 (x10+1))) else (none))) else (none)) else (none)) else ((Yv.f k x5 x1).bind fun t329=>(some t329))
def Yb.f (k:Nat) (l0:List Int) (a1:ByteArray):Option (ByteArray):=Yb.l0 k a1 ([]:List ByteArray) l0 (l0.length:Int) 0
theorem Yb.YB:∀ k,(∀ y0 y1 y2 y3 y4,LeO (Yb.l0 k y0 y1 y2 y3 y4) (Yb.l0 (k+1) y0 y1 y2 y3 y4))
 | 0=>fun _ _ _ _ _ r h=>by simp [Yb.l0] at h
 | k+1=>by
  have ih0:=Yb.YB k
  · intro y0 y1 y2 y3 y4
    unfold Yb.l0
    repeat' first
    | (with_reducible exact ih0 _ _ _ _ _)
    | (with_reducible exact Yv.mono _ _ _)
    | (with_reducible exact YY.mono _ _)
    | (with_reducible exact LeO.refl _)
    | (with_reducible exact LeO.none _)
    | (with_reducible refine LeO.ite ?_ ?_)
    | (with_reducible refine LeO.bind ?_ (fun _=>?_))
    | exact ih0 _ _ _ _ _
    | exact Yv.mono _ _ _
    | exact YY.mono _ _
    | exact LeO.none _
    | refine LeO.ite ?_ ?_
    | refine LeO.bind ?_ (fun _=>?_)
theorem Yb.mono:∀ a0 a1 k,LeO (Yb.f k a0 a1) (Yb.f (k+1) a0 a1):=by
 intro a0 a1 k
 have ih0:=Yb.YB k
 unfold Yb.f
 repeat' first
  | (with_reducible exact ih0 _ _ _ _ _)
  | (with_reducible exact Yv.mono _ _ _)
  | (with_reducible exact YY.mono _ _)
  | (with_reducible exact LeO.refl _)
  | (with_reducible exact LeO.none _)
  | (with_reducible refine LeO.ite ?_ ?_)
  | (with_reducible refine LeO.bind ?_ (fun _=>?_))
  | exact ih0 _ _ _ _ _
  | exact Yv.mono _ _ _
  | exact YY.mono _ _
  | exact LeO.none _
  | refine LeO.ite ?_ ?_
  | refine LeO.bind ?_ (fun _=>?_)
set_option maxHeartbeats 8000000 in
set_option maxRecDepth 100000 in
theorem Yb.calls (k:Nat) (A0:Option Addr) (c0:Nat) (l0:List Int) (a1:ByteArray) (r:ByteArray) (w:World) (hr0:Kd.C (Kd.int .u64) w A0 l0.length l0) (hc0:l0.length≤c0) (h:Yb.f k l0 a1=some r) :
 Calls Tryz.prog 35 #[.slice A0 l0.length c0,.string a1] w fun e w'=>e=.returned (.string r)∧Below w.heap.size w w':=by
 have HR0:=yc.mk hr0
 have HC0:=yc.mk hc0
 clear hr0 hc0
 have HB:=yc.mk (Below.refl w.heap.size w)
 have H:(Yb.l0 k a1 ([]:List ByteArray) l0 (l0.length:Int) 0)=some r:=h
 clear h
 have H':=yc.mk H
 clear H
 go_enter Tryz.func35,Tryz.ntmps35
 go_wp2
 go_loopg [5,10] k (fun kq v5 v10 w'=>∃ (x5_1:List ByteArray) (x10_1:Int),v10=.int .i64 x10_1∧yc (Yb.l0 kq a1 x5_1 l0 (l0.length:Int) x10_1=some r)∧yc (kq≤k)∧yc (Kd.R Kd.string 9 w' w.heap.size (fun _=>True) v5 x5_1)∧yc (Below w.heap.size w w'))
 case atStart=>exact ⟨(([]:List ByteArray)),(0),(by first|rfl|(simp;done)|(simp [*];done)|(simp [yx];done)),H',⟨Nat.le_refl _⟩,⟨by first|exact Kd.qf _ _ _ _ _|exact Kd.yao _ _ _ _ _|exact Kd.Qm _ _ _ _ _|exact Kd.yas _ _ _ _ _|exact Kd.yaq _ _ _ _ _⟩,⟨by repeat (first|(with_reducible first|exact HB.out|apply ym|apply yn|apply yu)|exact HB.out)⟩⟩
 case round=>
  clear H'
  try clear p2
  obtain ⟨x5_1,x10_1,rfl,HA,HK1,HO_5,HB⟩:=hrel
  cases gk with
  | zero=>exact absurd HA.out (by simp [Yb.l0])
  | succ k1=>
   have H:=HA.out
   clear HA
   simp only [Yb.l0] at H
   by_cases c3:x10_1<(l0.length:Int)
   · rw [if_pos c3] at H
     have c3b0:decide (x10_1<(l0.length:Int))=true:=decide_eq_true c3
     clear c3
     by_cases c4:0≤x10_1
     · rw [if_pos c4] at H
       have c4b0:decide (0≤x10_1)=true:=decide_eq_true c4
       clear c4
       by_cases c5:x10_1<(l0.length:Int)
       · rw [if_pos c5] at H
         have c5b0:decide (x10_1<(l0.length:Int))=true:=decide_eq_true c5
         clear c5
         replace H:=Option.bind_eq_some_iff.mp H
         obtain ⟨t325,A60,H⟩:=H
         replace H:(if x5_1.length<8796093022208 then (Yb.l0 k1 a1 (x5_1++[t325]) l0 (l0.length:Int) (wrap64 (x10_1+1))) else (none))=some r:=H
         have A6:=yc.mk A60
         clear A60
         by_cases c7:x5_1.length<8796093022208
         · rw [if_pos c7] at H
           have LMc7:=yc.mk c7
           clear c7
           obtain ⟨y326,hy326⟩:∃ y_:List ByteArray,y_=(x5_1++[t325]):=⟨_,rfl⟩
           replace H:(Yb.l0 k1 a1 y326 l0 (l0.length:Int) (wrap64 (x10_1+1)))=some r:=by first|(rw [hy326];with_reducible exact H)|(have H2_:=(Option.bind_some _ _).symm.trans H;rw [hy326];with_reducible exact H2_)|(have H2_:=(Option.bind_some _ _).symm.trans H;with_reducible exact H2_)|with_reducible exact H|(rw [hy326];exact H)|exact H
           have Ny326:=yc.mk hy326
           clear hy326
           have H':=yc.mk H
           clear H
           have p324:0≤(x10_1:Int):=of_decide_eq_true (by first|(with_reducible assumption)|assumption)
           have q324:x10_1<(l0.length:Int):=of_decide_eq_true (by first|(with_reducible assumption)|assumption)
           obtain ⟨ad324,e324,hx324_0⟩:=Kd.at_int HR0.out x10_1 p324 q324
           cases e324
           replace hx324_0:=(HB.out.cell (World.block_lt_of_cell? w _ hx324_0)).trans hx324_0
           replace p324:=eq_true p324
           replace q324:=eq_true q324
           go_wp2_with (first|((with_reducible refine Yz (f:=123) rfl ?_);refine Yp (some 16) rfl rfl Tryz.func123 Zk rfl #[.int .u64 (rd l0 x10_1)] rfl (by (try simp only [List.map_toArray,List.map_cons,List.map_nil]);first|done|rfl|(simp only [List.length_drop,List.length_take];rfl)) ?_;(with_reducible refine (YY.calls k1 (rd l0 x10_1) t325 _ A6.out).mono ?_);rintro e w8 ⟨rfl,hb⟩;refine ⟨_,rfl,?_⟩;have n0_:=yc.mk (Kd.qb (Zr HO_5.out) hb);have n1_:=yc.mk (yy Zh hb);clear HO_5 HB;have HO_5:=n0_;have HB:=n1_;clear n0_ n1_;(try clear hb);(try clear hb2);(try clear hk);(try clear hi))|((with_reducible refine Jv (b:=.append) (xs:=#[.tmp 14,.tmp 17]) rfl ?_);at_builtin;refine Kd.J2 Kd.string (w0:=w) w.heap.size rfl (.tmp 14) (.tmp 17) 44 9 (.string ⟨#[]⟩) 16 rfl Tryz.underlying44 info9 rfl Zd Zo u5 x5_1 t325 [.string t325] (fun _=>True) (fun _=>False) rfl rfl ?aP (fun _ hk=>hk.elim) ?aF ?aO ?aB ?aS ?aL ?_;(case aP=>exact rfl);(case aB=>exact Zh);(case aF=>exact (fun _ _=>trivial));(case aO=>exact (Zr HO_5.out));(case aS=>exact (yt Zh));(case aL=>have:=LMc7.out;omega);intro v327 w9 ho hb hg hat;rw [← Ny326.out] at ho;have n0_:=yc.mk (hb);have n1_:=yc.mk (ho);clear HB HO_5;have HB:=n0_;have HO328:=n1_;clear n0_ n1_;clear ho hb hg hat))
           go_roundg k1
           case measure=>have:=HK1.out;omega
           case rel=>exact ⟨(y326),(wrap64 (x10_1+1)),(by first|rfl|(simp;done)|(simp [*];done)|(simp [yx];done)),H',⟨by have:=HK1.out;omega⟩,⟨by refine Zr ?_;exact HO328.out⟩,⟨by repeat (first|(with_reducible first|exact HB.out|apply ym|apply yn|apply yu)|exact HB.out)⟩⟩
         · rw [if_neg c7] at H
           exact absurd H (by simp)
       · rw [if_neg c5] at H
         exact absurd H (by simp)
     · rw [if_neg c4] at H
       exact absurd H (by simp)
   · rw [if_neg c3] at H
     have c3b0:decide (x10_1<(l0.length:Int))=false:=decide_eq_false c3
     clear c3
     replace H:=Option.bind_eq_some_iff.mp H
     obtain ⟨t329,A100,H⟩:=H
     replace H:(some t329)=some r:=H
     have A10:=yc.mk A100
     clear A100
     obtain rfl:=Option.some.inj H
     obtain ⟨Ao11,co11,eo11⟩:=Kd.Y7 HO_5.out
     subst eo11
     go_wp2_with (first|((with_reducible refine Yz (f:=124) rfl ?_);refine Yp (some 22) rfl rfl Tryz.func124 Zk rfl #[.slice Ao11 x5_1.length co11,.string a1] rfl (by (try simp only [List.map_toArray,List.map_cons,List.map_nil]);first|done|rfl|(simp only [List.length_drop,List.length_take];rfl)) ?_;(with_reducible refine (Yv.calls k1 _ _ x5_1 a1 t329 _ ?side1 ?side2 A10.out).mono ?_);(case side1=>repeat (first|exact (Kd.Jt HO_5.out).2.2|(with_reducible refine Kd.Jo ?_ _)|(with_reducible refine Kd.Jp ?_ _)|(with_reducible refine Kd.JG ?_)));(case side2=>exact (Kd.Jt HO_5.out).2.1);rintro e w' ⟨rfl,⟨nd,rfl⟩⟩;refine ⟨_,rfl,?_⟩))
     go_ret
     exact ⟨by first|rfl|(simp [yP,yO] <;> rfl)|(simp [*,yP,yO] <;> rfl),by repeat (first|(with_reducible first|exact HB.out|apply ym|apply yn|apply yu)|exact HB.out)⟩
end Go.Proofs.YtdcaggoicdfehaaGreatDoor
namespace Go.Proofs.YtdcaggoicdfehaaGreatDoor
open Go.RowKit Go.Proofs.YtdcaggoicdfehaaGreatDoorW.PrintWords Go.Proofs.YtdcaggoicdfehaaGreatDoorW.PrintLast Go.Proofs.YtdcaggoicdfehaaGreatDoorW.PrintMore
attribute [local go_sem] YX YV Ja Jb YK YL YW YU
def yN.l0:Nat→ByteArray→List (S56)→Int→Int→Option (ByteArray × Int)
 | 0,_,_,_,_=>none
 | k+1,x4,x10,x11,x12=>if x12<x11 then (if 0≤x12 then (if x12<(x10.length:Int) then (if ((yo x10 x12).f0).size+1≤9223372036854775807 then ((Yb.f k ((yo x10 x12).f1) (⟨#[32]⟩:ByteArray)).bind fun t333=>(if ((yo x10 x12).f0).size+1+t333.size≤9223372036854775807 then (if ((yo x10 x12).f0).size+1+t333.size+1≤9223372036854775807 then (if x4.size+(((yo x10 x12).f0).size+1+t333.size+1)≤9223372036854775807 then (yN.l0 k (x4++(((((yo x10 x12).f0)++(⟨#[32]⟩:ByteArray))++t333)++(⟨#[10]⟩:ByteArray))) x10 x11 (wrap64 (x12+1))) else (none)) else (none)) else (none))) else (none)) else (none)) else (none)) else (some (x4,1))
def yN.f (k:Nat) (l0:List (S56)):Option (ByteArray × Int):=(yp.f k l0).bind fun t330=>(if t330=true then (yN.l0 k (⟨#[]⟩:ByteArray) l0 (l0.length:Int) 0) else (some ((⟨#[]⟩:ByteArray),2)))
theorem yN.YB:∀ k,(∀ y0 y1 y2 y3,LeO (yN.l0 k y0 y1 y2 y3) (yN.l0 (k+1) y0 y1 y2 y3))
 | 0=>fun _ _ _ _ r h=>by simp [yN.l0] at h
 | k+1=>by
  have ih0:=yN.YB k
  · intro y0 y1 y2 y3
    unfold yN.l0
    repeat' first
    | (with_reducible exact ih0 _ _ _ _)
    | (with_reducible exact Yb.mono _ _ _)
    | (with_reducible exact yp.mono _ _)
    | (with_reducible exact LeO.refl _)
    | (with_reducible exact LeO.none _)
    | (with_reducible refine LeO.ite ?_ ?_)
    | (with_reducible refine LeO.bind ?_ (fun _=>?_))
    | exact ih0 _ _ _ _
    | exact Yb.mono _ _ _
    | exact yp.mono _ _
    | exact LeO.none _
    | refine LeO.ite ?_ ?_
    | refine LeO.bind ?_ (fun _=>?_)
theorem yN.mono:∀ a0 k,LeO (yN.f k a0) (yN.f (k+1) a0):=by
 intro a0 k
 have ih0:=yN.YB k
 unfold yN.f
 repeat' first
  | (with_reducible exact ih0 _ _ _ _)
  | (with_reducible exact Yb.mono _ _ _)
  | (with_reducible exact yp.mono _ _)
  | (with_reducible exact LeO.refl _)
  | (with_reducible exact LeO.none _)
  | (with_reducible refine LeO.ite ?_ ?_)
  | (with_reducible refine LeO.bind ?_ (fun _=>?_))
  | exact ih0 _ _ _ _
  | exact Yb.mono _ _ _
  | exact yp.mono _ _
  | exact LeO.none _
  | refine LeO.ite ?_ ?_
  | refine LeO.bind ?_ (fun _=>?_)
def yN.T7:Bool × List (List Nat × List Nat):=(true,[([],[]),([],[]),([1],[1]),([2],[2]),([],[]),([4],[4]),([5],[5]),([3,6],[3,6]),([7],[7]),([0,8],[0,8]),([9,6,0,1,2,3,4,5,6,7,8,9],[0,9])])
def yN.B7:List Nat:=[0,0,2,6,0,16,48,126,254,511,1023]
theorem yN.tab7:Ju .any (opsOf Tryz.f14 7)=yN.T7:=by kernel_rfl
theorem yN.bits7:JP yN.T7.2 yN.B7=true:=by kernel_rfl
set_option maxHeartbeats 8000000 in
set_option maxRecDepth 100000 in
theorem yN.calls (k:Nat) (A0:Option Addr) (c0:Nat) (l0:List (S56)) (r1:ByteArray) (r2:Int) (w:World) (hr0:Kd.C k56 w A0 l0.length l0) (hc0:l0.length≤c0) (h:yN.f k l0=some (r1,r2)) :
 Calls Tryz.prog 14 #[.slice A0 l0.length c0] w fun e w'=>e=.returned (.tuple #[.string r1,.int .i64 r2])∧Below w.heap.size w w':=by
 have hu56:=Tryz.underlying56
 have HR0:=yc.mk hr0
 have HC0:=yc.mk hc0
 clear hr0 hc0
 have HB:=yc.mk (Below.refl w.heap.size w)
 have H:((yp.f k l0).bind fun t330=>(if t330=true then (yN.l0 k (⟨#[]⟩:ByteArray) l0 (l0.length:Int) 0) else (some ((⟨#[]⟩:ByteArray),2))))=some (r1,r2):=h
 clear h
 replace H:=Option.bind_eq_some_iff.mp H
 obtain ⟨t330,A20,H⟩:=H
 replace H:(if t330=true then (yN.l0 k (⟨#[]⟩:ByteArray) l0 (l0.length:Int) 0) else (some ((⟨#[]⟩:ByteArray),2)))=some (r1,r2):=H
 have A2:=yc.mk A20
 clear A20
 by_cases c3:t330=true
 · subst c3
   have H1:(yN.l0 k (⟨#[]⟩:ByteArray) l0 (l0.length:Int) 0)=some (r1,r2):=by rw [if_pos rfl] at H;exact H
   clear H
   have H:=H1
   clear H1
   have H':=yc.mk H
   clear H
   go_enter Tryz.func14,Tryz.ntmps14
   go_wp2_with (first|((with_reducible refine Yz (f:=15) rfl ?_);refine Yp (some 8) rfl rfl Tryz.func15 Zk rfl #[.slice A0 l0.length c0] rfl (by (try simp only [List.map_toArray,List.map_cons,List.map_nil]);first|done|rfl|(simp only [List.length_drop,List.length_take];rfl)) ?_;(with_reducible refine (yp.calls k _ _ l0 true _ ?side1 ?side2 A2.out).mono ?_);(case side1=>repeat (first|exact HR0.out|(with_reducible refine Kd.Jo ?_ _)|(with_reducible refine Kd.Jp ?_ _)|(with_reducible refine Kd.JG ?_)));(case side2=>exact HC0.out);rintro e w4 ⟨rfl,hb⟩;refine ⟨_,rfl,?_⟩;have n0_:=yc.mk (yy Zh hb);clear HB;have HB:=n0_;clear n0_;(try clear hb);(try clear hb2);(try clear hk);(try clear hi)))
   go_loopg [4,12] k (fun kq v4 v12 w'=>∃ (x4_1:ByteArray) (x12_1:Int),v4=.string x4_1∧v12=.int .i64 x12_1∧yc (yN.l0 kq x4_1 l0 (l0.length:Int) x12_1=some (r1,r2))∧yc (kq≤k)∧yc (Below w.heap.size w w'))
   case atStart=>exact ⟨((⟨#[]⟩:ByteArray)),(0),(by first|rfl|(simp;done)|(simp [*];done)|(simp [yx];done)),(by first|rfl|(simp;done)|(simp [*];done)|(simp [yx];done)),H',⟨Nat.le_refl _⟩,⟨by repeat (first|(with_reducible first|exact HB.out|apply ym|apply yn|apply yu)|exact HB.out)⟩⟩
   case round=>
    clear H'
    try clear c1
    try clear p2
    try clear c3
    obtain ⟨x4_1,x12_1,rfl,rfl,HA,HK1,HB⟩:=hrel
    cases gk with
    | zero=>exact absurd HA.out (by simp [yN.l0])
    | succ k1=>
     have H:=HA.out
     clear HA
     simp only [yN.l0] at H
     by_cases c5:x12_1<(l0.length:Int)
     · rw [if_pos c5] at H
       have c5b0:decide (x12_1<(l0.length:Int))=true:=decide_eq_true c5
       clear c5
       by_cases c6:0≤x12_1
       · rw [if_pos c6] at H
         have c6b0:decide (0≤x12_1)=true:=decide_eq_true c6
         clear c6
         by_cases c7:x12_1<(l0.length:Int)
         · rw [if_pos c7] at H
           have c7b0:decide (x12_1<(l0.length:Int))=true:=decide_eq_true c7
           clear c7
           by_cases c8:((yo l0 x12_1).f0).size+1≤9223372036854775807
           · rw [if_pos c8] at H
             have c8b0:=eq_true c8
             have c8b1:decide (((yo l0 x12_1).f0).size+1≤9223372036854775807)=true:=decide_eq_true c8
             try have c8b2:(9223372036854775807<((yo l0 x12_1).f0).size+1)=False:=eq_false (Nat.not_lt.2 c8)
             replace H:=Option.bind_eq_some_iff.mp H
             obtain ⟨t333,A90,H⟩:=H
             replace H:(if ((yo l0 x12_1).f0).size+1+t333.size≤9223372036854775807 then (if ((yo l0 x12_1).f0).size+1+t333.size+1≤9223372036854775807 then (if x4_1.size+(((yo l0 x12_1).f0).size+1+t333.size+1)≤9223372036854775807 then (yN.l0 k1 (x4_1++(((((yo l0 x12_1).f0)++(⟨#[32]⟩:ByteArray))++t333)++(⟨#[10]⟩:ByteArray))) l0 (l0.length:Int) (wrap64 (x12_1+1))) else (none)) else (none)) else (none))=some (r1,r2):=H
             have A9:=yc.mk A90
             clear A90
             by_cases c10:((yo l0 x12_1).f0).size+1+t333.size≤9223372036854775807
             · rw [if_pos c10] at H
               have c10b0:=eq_true c10
               have c10b1:decide (((yo l0 x12_1).f0).size+1+t333.size≤9223372036854775807)=true:=decide_eq_true c10
               try have c10b2:(9223372036854775807<((yo l0 x12_1).f0).size+1+t333.size)=False:=eq_false (Nat.not_lt.2 c10)
               by_cases c11:((yo l0 x12_1).f0).size+1+t333.size+1≤9223372036854775807
               · rw [if_pos c11] at H
                 have c11b0:=eq_true c11
                 have c11b1:decide (((yo l0 x12_1).f0).size+1+t333.size+1≤9223372036854775807)=true:=decide_eq_true c11
                 try have c11b2:(9223372036854775807<((yo l0 x12_1).f0).size+1+t333.size+1)=False:=eq_false (Nat.not_lt.2 c11)
                 by_cases c12:x4_1.size+(((yo l0 x12_1).f0).size+1+t333.size+1)≤9223372036854775807
                 · rw [if_pos c12] at H
                   have c12b0:=eq_true c12
                   have c12b1:decide (x4_1.size+(((yo l0 x12_1).f0).size+1+t333.size+1)≤9223372036854775807)=true:=decide_eq_true c12
                   try have c12b2:(9223372036854775807<x4_1.size+(((yo l0 x12_1).f0).size+1+t333.size+1))=False:=eq_false (Nat.not_lt.2 c12)
                   have H':=yc.mk H
                   clear H
                   have p331:0≤(x12_1:Int):=of_decide_eq_true (by first|(with_reducible assumption)|assumption)
                   have q331:x12_1<(l0.length:Int):=of_decide_eq_true (by first|(with_reducible assumption)|assumption)
                   obtain ⟨ad331,A331_1,c331_1,A331_2,c331_2,e331,hx331_0,hx331_1,hx331_2,hl331_1,hi331_1,hl331_2,hi331_2⟩:=yaZ HR0.out x12_1 p331 q331
                   cases e331
                   replace hx331_0:=(HB.out.cell (World.block_lt_of_cell? w _ hx331_0)).trans hx331_0
                   replace hx331_1:=(HB.out.cell (World.block_lt_of_cell? w _ hx331_1)).trans hx331_1
                   replace hx331_2:=(HB.out.cell (World.block_lt_of_cell? w _ hx331_2)).trans hx331_2
                   have HR331_1:=yc.mk hi331_1
                   have HC331_1:=yc.mk hl331_1
                   clear hi331_1 hl331_1
                   have HR331_2:=yc.mk hi331_2
                   have HC331_2:=yc.mk hl331_2
                   clear hi331_2 hl331_2
                   replace p331:=eq_true p331
                   replace q331:=eq_true q331
                   try go_wp2_with (first|((with_reducible refine Y1 (N:=6) rfl ?_);refine YP ?hg (N:=6) ?hd (cs:=#[.string (⟨#[]⟩:ByteArray),.slice none 0 0,.slice none 0 0]) (t:=56) ?hr ?_;(case hd=>rfl);(case hg=>rfl);(case hr=>first|(go_simp;done)|(go_simp;rfl));intro gb332 hg w13 hbox hb;have n0_:=yc.mk (yy Zh hb);have n1_:=yc.mk (hbox);have n2_:=yc.mk ((by rw [hg];exact (yt Zh):w.heap.size≤gb332));have n3_:=yc.mk ((by rw [hg];exact (yt Zh):w.heap.size≤gb332));clear HB;have HB:=n0_;have BK332:=n1_;have GW332:=n2_;have GE332:=n3_;clear n0_ n1_ n2_ n3_;clear hb hbox hg;have hcz14_0:w13.cell? ⟨gb332,0,none⟩=some (.string (⟨#[]⟩:ByteArray)):=(ye BK332.out 0).trans rfl;have hcz14_1:w13.cell? ⟨gb332,1,none⟩=some (.slice none 0 0):=(ye BK332.out 1).trans rfl;have hcz14_2:w13.cell? ⟨gb332,2,none⟩=some (.slice none 0 0):=(ye BK332.out 2).trans rfl;have hfz14_0:=yg BK332.out 0;have hfz14_1:=yg BK332.out 1;have hfz14_2:=yg BK332.out 2))
                   have n0_:yc ((((w13.setCell ⟨gb332,0,none⟩ (.string ((yo l0 x12_1).f0))).setCell ⟨gb332,1,none⟩ (.slice A331_1 ((yo l0 x12_1).f1).length c331_1)).setCell ⟨gb332,2,none⟩ (.slice A331_2 ((yo l0 x12_1).f2).length c331_2)).heap[gb332]?=some (.cells #[.string ((yo l0 x12_1).f0),.slice A331_1 ((yo l0 x12_1).f1).length c331_1,.slice A331_2 ((yo l0 x12_1).f2).length c331_2] 56 (0,0))):=⟨by refine Zb ?_;refine yA (cs:=#[.string ((yo l0 x12_1).f0),.slice A331_1 ((yo l0 x12_1).f1).length c331_1,.slice none 0 0]) ?_ 2 _ rfl;refine Zb ?_;refine yA (cs:=#[.string ((yo l0 x12_1).f0),.slice none 0 0,.slice none 0 0]) ?_ 1 _ rfl;refine Zb ?_;refine yA (cs:=#[.string (⟨#[]⟩:ByteArray),.slice none 0 0,.slice none 0 0]) ?_ 0 _ rfl;refine Zb ?_;exact BK332.out⟩
                   have n1_:yc (Below w.heap.size w (((w13.setCell ⟨gb332,0,none⟩ (.string ((yo l0 x12_1).f0))).setCell ⟨gb332,1,none⟩ (.slice A331_1 ((yo l0 x12_1).f1).length c331_1)).setCell ⟨gb332,2,none⟩ (.slice A331_2 ((yo l0 x12_1).f2).length c331_2))):=⟨by repeat (first|(with_reducible first|exact HB.out|apply ym|apply yn|apply yu|refine yw ?_ GE332.out)|exact HB.out)⟩
                   (try clear BK332)
                   (try clear HB)
                   generalize (((w13.setCell ⟨gb332,0,none⟩ (.string ((yo l0 x12_1).f0))).setCell ⟨gb332,1,none⟩ (.slice A331_1 ((yo l0 x12_1).f1).length c331_1)).setCell ⟨gb332,2,none⟩ (.slice A331_2 ((yo l0 x12_1).f2).length c331_2))=w15 at n0_ n1_ ⊢
                   have BK332:=n0_
                   have HB:=n1_
                   clear n0_ n1_
                   have n0_:=yc.mk (yap BK332.out)
                   have n1_:=yc.mk (yu HB.out)
                   clear BK332
                   clear HB
                   have BK332:=n0_
                   have HB:=n1_
                   clear n0_ n1_
                   refine Q8 (n:=11) (S:=fun w'=>w'.cell? ⟨gb332,0,none⟩=some (.string ((yo l0 x12_1).f0))∧w'.cell? ⟨gb332,1,none⟩=some (.slice A331_1 ((yo l0 x12_1).f1).length c331_1)∧w'.cell? ⟨gb332,2,none⟩=some (.slice A331_2 ((yo l0 x12_1).f2).length c331_2)) (ds:=[]) #[false,false,false,false,false,false,false,false,false,false,false] Zk rfl rfl ⟨(ye BK332.out 0).trans rfl,(ye BK332.out 1).trans rfl,(ye BK332.out 2).trans rfl⟩ (fun hHeld=>?_);refine yar yN.tab7 yN.bits7 (fun HT_ HW_=>?_)
                   generalize w15.drew=w16 at BK332 HB hHeld ⊢
                   refine Js (i:=0) (N:=some 16) (v:=?_) (a':=?_) #[true,false,false,false,false,false,false,false,false,false,false] rfl rfl (Y0 HT_.out Zk) (fun _ _ _ h=>h) (Or.inl ⟨by rfl,?_⟩) ?_ ?_
                   rotate_left
                   · intro w'
                     go_simp
                     with_reducible rfl
                   rotate_left
                   · simp only [Act.put,List.setIfInBounds_toArray,List.set_cons_zero,List.set_cons_succ,Yq,Yu]
                     rfl
                   refine Js (i:=1) (N:=some 17) (v:=?_) (a':=?_) #[true,true,false,false,false,false,false,false,false,false,false] rfl rfl (Y0 HT_.out Zk) (fun _ _ _ h=>h) (Or.inl ⟨by rfl,?_⟩) ?_ ?_
                   rotate_left
                   · intro w'
                     go_simp
                     with_reducible rfl
                   rotate_left
                   · simp only [Act.put,List.setIfInBounds_toArray,List.set_cons_zero,List.set_cons_succ,Yq,Yu]
                     rfl
                   refine Js (i:=4) (N:=some 20) (v:=?_) (a':=?_) #[true,true,false,false,true,false,false,false,false,false,false] rfl rfl (Y0 HT_.out Zk) (fun _ _ _ h=>h) (Or.inl ⟨by rfl,?_⟩) ?_ ?_
                   rotate_left
                   · intro w'
                     go_simp
                     with_reducible rfl
                   rotate_left
                   · simp only [Act.put,List.setIfInBounds_toArray,List.set_cons_zero,List.set_cons_succ,Yq,Yu]
                     rfl
                   refine ybW (i:=2) (N:=some 18) (v:=?_) (a':=?_) #[true,true,true,false,true,false,false,false,false,false,false] rfl rfl (QS HT_.out HW_.out Zk) (fun _ _ _ h=>h) (Or.inl ⟨by rfl,?_⟩) hHeld ?_ ?_
                   rotate_left
                   · rintro w' ⟨s0,s1,s2⟩
                     go_simp
                     with_reducible rfl
                   rotate_left
                   · simp only [Act.put,List.setIfInBounds_toArray,List.set_cons_zero,List.set_cons_succ,Yq,Yu]
                     rfl
                   refine Js (i:=3) (N:=some 19) (v:=?_) (a':=?_) #[true,true,true,true,true,false,false,false,false,false,false] rfl rfl (Y0 HT_.out Zk) (fun _ _ _ h=>h) (Or.inl ⟨by rfl,?_⟩) ?_ ?_
                   rotate_left
                   · intro w'
                     go_simp
                     with_reducible rfl
                   rotate_left
                   · simp only [Act.put,List.setIfInBounds_toArray,List.set_cons_zero,List.set_cons_succ,Yq,Yu]
                     rfl
                   refine ybW (i:=5) (N:=some 21) (v:=?_) (a':=?_) #[true,true,true,true,true,true,false,false,false,false,false] rfl rfl (QS HT_.out HW_.out Zk) (fun _ _ _ h=>h) (Or.inl ⟨by rfl,?_⟩) hHeld ?_ ?_
                   rotate_left
                   · rintro w' ⟨s0,s1,s2⟩
                     go_simp
                     with_reducible rfl
                   rotate_left
                   · simp only [Act.put,List.setIfInBounds_toArray,List.set_cons_zero,List.set_cons_succ,Yq,Yu]
                     rfl
                   refine one_ (i:=6) (N:=some 22) #[true,true,true,true,true,true,true,false,false,false,false] rfl rfl (qu HT_.out Zk) Zd (fun K hK=>?_)
                   refine yaP Tryz.func35 Zk rfl #[.slice A331_1 ((yo l0 x12_1).f1).length c331_1,.string (⟨#[32]⟩:ByteArray)] (by rfl) rfl rfl (by (try simp only [List.map_toArray,List.map_cons,List.map_nil]);first|done|rfl|(simp only [List.length_drop,List.length_take];rfl)) ?_
                   with_reducible refine (Yb.calls k1 _ _ ((yo l0 x12_1).f1) (⟨#[32]⟩:ByteArray) t333 _ ?side1 ?side2 A9.out).mono ?_
                   (case side1=>repeat (first|exact (Kd.YS HR331_1.out HB.out)|(with_reducible refine Kd.Jo ?_ _)|(with_reducible refine Kd.Jp ?_ _)|(with_reducible refine Kd.JG ?_)))
                   (case side2=>exact HC331_1.out)
                   rintro e w17 ⟨rfl,hb⟩
                   refine ⟨_,rfl,?_⟩
                   have n0_:=yc.mk (yE (g:=gb332) (o:=.cells #[.string ((yo l0 x12_1).f0),.slice A331_1 ((yo l0 x12_1).f1).length c331_1,.slice A331_2 ((yo l0 x12_1).f2).length c331_2] 56 (0,0)) (Zb BK332.out) hb)
                   have n1_:=yc.mk (yy (Zg GE332.out) hb)
                   clear BK332
                   clear HB
                   have BK332:=n0_
                   have HB:=n1_
                   clear n0_ n1_
                   (try clear hb)
                   (try clear hb2)
                   (try clear hk)
                   (try clear hi)
                   refine hK.out _ _ ⟨(ye BK332.out 0).trans rfl,(ye BK332.out 1).trans rfl,(ye BK332.out 2).trans rfl⟩ (fun hHeld=>?_)
                   clear hK K
                   refine JV (a':=?_) ?_ ?_
                   rotate_left
                   · show Act.put _ (some 22) _=_
                     simp only [Act.put,List.setIfInBounds_toArray,List.set_cons_zero,List.set_cons_succ,Yq,Yu]
                     rfl
                   refine Js (i:=7) (N:=some 23) (v:=?_) (a':=?_) #[true,true,true,true,true,true,true,true,false,false,false] rfl rfl (Y0 HT_.out Zk) (fun _ _ _ h=>h) (Or.inl ⟨by rfl,?_⟩) ?_ ?_
                   rotate_left
                   · intro w'
                     go_simp
                     with_reducible rfl
                   rotate_left
                   · simp only [Act.put,List.setIfInBounds_toArray,List.set_cons_zero,List.set_cons_succ,Yq,Yu]
                     rfl
                   refine Js (i:=8) (N:=some 24) (v:=?_) (a':=?_) #[true,true,true,true,true,true,true,true,true,false,false] rfl rfl (Y0 HT_.out Zk) (fun _ _ _ h=>h) (Or.inl ⟨by rfl,?_⟩) ?_ ?_
                   rotate_left
                   · intro w'
                     go_simp
                     with_reducible rfl
                   rotate_left
                   · simp only [Act.put,List.setIfInBounds_toArray,List.set_cons_zero,List.set_cons_succ,Yq,Yu]
                     rfl
                   refine Js (i:=9) (N:=some 25) (v:=?_) (a':=?_) #[true,true,true,true,true,true,true,true,true,true,false] rfl rfl (Y0 HT_.out Zk) (fun _ _ _ h=>h) (Or.inl ⟨by rfl,?_⟩) ?_ ?_
                   rotate_left
                   · intro w'
                     go_simp
                     with_reducible rfl
                   rotate_left
                   · simp only [Act.put,List.setIfInBounds_toArray,List.set_cons_zero,List.set_cons_succ,Yq,Yu]
                     rfl
                   refine Js (i:=10) (N:=some 4) (v:=?_) (a':=?_) #[true,true,true,true,true,true,true,true,true,true,true] rfl rfl (Y0 HT_.out Zk) (fun _ _ _ h=>h) (Or.inl ⟨by rfl,?_⟩) ?_ ?_
                   rotate_left
                   · intro w'
                     go_simp
                     with_reducible rfl
                   rotate_left
                   · simp only [Act.put,List.setIfInBounds_toArray,List.set_cons_zero,List.set_cons_succ,Yq,Yu]
                     rfl
                   refine done_ (ybP HT_.out Zk) ?_
                   try go_wp2
                   go_roundg k1
                   case measure=>have:=HK1.out;omega
                   case rel=>exact ⟨(x4_1++(((((yo l0 x12_1).f0)++(⟨#[32]⟩:ByteArray))++t333)++(⟨#[10]⟩:ByteArray))),(wrap64 (x12_1+1)),(by first|rfl|(simp;done)|(simp [*];done)|(simp [yx];done)),(by first|rfl|(simp;done)|(simp [*];done)|(simp [yx];done)),H',⟨by have:=HK1.out;omega⟩,⟨by repeat (first|(with_reducible first|exact HB.out|apply ym|apply yn|apply yu|refine yw ?_ GE332.out)|exact HB.out)⟩⟩
                 · rw [if_neg c12] at H
                   exact absurd H (by simp)
               · rw [if_neg c11] at H
                 exact absurd H (by simp)
             · rw [if_neg c10] at H
               exact absurd H (by simp)
           · rw [if_neg c8] at H
             exact absurd H (by simp)
         · rw [if_neg c7] at H
           exact absurd H (by simp)
       · rw [if_neg c6] at H
         exact absurd H (by simp)
     · rw [if_neg c5] at H
       have c5b0:decide (x12_1<(l0.length:Int))=false:=decide_eq_false c5
       clear c5
       simp only [Option.some.injEq,Prod.mk.injEq] at H
       obtain ⟨rfl,rfl⟩:=H
       go_wp2
       go_ret2
       exact ⟨by first|rfl|(simp [yP,yO] <;> rfl)|(simp [*,yP,yO] <;> rfl),by repeat (first|(with_reducible first|exact HB.out|apply ym|apply yn|apply yu)|exact HB.out)⟩
 · replace c3:=Bool.eq_false_iff.mpr c3
   subst c3
   have H1:(some ((⟨#[]⟩:ByteArray),2))=some (r1,r2):=by rw [if_neg (show ¬ (false=true) by decide)] at H;exact H
   clear H
   have H:=H1
   clear H1
   simp only [Option.some.injEq,Prod.mk.injEq] at H
   obtain ⟨rfl,rfl⟩:=H
   go_enter Tryz.func14,Tryz.ntmps14
   go_wp2_with (first|((with_reducible refine Yz (f:=15) rfl ?_);refine Yp (some 8) rfl rfl Tryz.func15 Zk rfl #[.slice A0 l0.length c0] rfl (by (try simp only [List.map_toArray,List.map_cons,List.map_nil]);first|done|rfl|(simp only [List.length_drop,List.length_take];rfl)) ?_;(with_reducible refine (yp.calls k _ _ l0 false _ ?side1 ?side2 A2.out).mono ?_);(case side1=>repeat (first|exact HR0.out|(with_reducible refine Kd.Jo ?_ _)|(with_reducible refine Kd.Jp ?_ _)|(with_reducible refine Kd.JG ?_)));(case side2=>exact HC0.out);rintro e w18 ⟨rfl,hb⟩;refine ⟨_,rfl,?_⟩;have n0_:=yc.mk (yy Zh hb);clear HB;have HB:=n0_;clear n0_;(try clear hb);(try clear hb2);(try clear hk);(try clear hi)))
   go_ret2
   exact ⟨by first|rfl|(simp [yP,yO] <;> rfl)|(simp [*,yP,yO] <;> rfl),by repeat (first|(with_reducible first|exact HB.out|apply ym|apply yn|apply yu)|exact HB.out)⟩
end Go.Proofs.YtdcaggoicdfehaaGreatDoor
