/- Part 29 of 34 of the proof of the tied card of FnNetstatRead. -/
import Derived.Test.YtlmennkeggmdbaaGreatDoorVz
import Derived.Test.YtlmennkeggmdbaaGreatDoorV3
import Derived.Test.YtlmennkeggmdbaaGreatDoorV26
import Derived.Test.YtlmennkeggmdbaaGreatDoorV28
set_option linter.unusedVariables false
set_option linter.unusedSimpArgs false
namespace Go.Proofs.YtlmennkeggmdbaaGreatDoor
open Go.RowKit Go.Proofs.YtlmennkeggmdbaaGreatDoorW.PrintWords Go.Proofs.YtlmennkeggmdbaaGreatDoorW.PrintLast Go.Proofs.YtlmennkeggmdbaaGreatDoorW.PrintMore
attribute [local go_sem] Yt Yp YE YB Yj Yk Yu Yv
mutual
def yo.l0:Nat→List (S71)→List (S38)→List ByteArray→Int→Int→Option (ByteArray × Int × Bool × Int × Int × Nat × ByteArray × (List (S38)))
 | 0,_,_,_,_,_=>none
 | k+1,x0,x5,x18,x19,x20=>if x20<x19 then (if 0≤x20 then (if x20<(x18.length:Int) then ((Y3.f (yU ByteArray.empty x18 x20)).bind fun t290=>(yo.l1 k x0 x5 (yU ByteArray.empty x18 x20) ([]:List (S38)) x18 x19 x20 t290 (t290.length:Int) 0)) else (none)) else (none)) else ((JI.f (⟨#[]⟩:ByteArray) x5).bind fun bt335=>(some (bt335.1,bt335.2.1,bt335.2.2.1,bt335.2.2.2.1,bt335.2.2.2.2.1,bt335.2.2.2.2.2.1,bt335.2.2.2.2.2.2.1,bt335.2.2.2.2.2.2.2)))
def yo.l1:Nat→List (S71)→List (S38)→ByteArray→List (S38)→List ByteArray→Int→Int→List ByteArray→Int→Int→Option (ByteArray × Int × Bool × Int × Int × Nat × ByteArray × (List (S38)))
 | 0,_,_,_,_,_,_,_,_,_,_=>none
 | k+1,x0,x5,x7,x8,x18,x19,x20,x25,x26,x27=>if x27<x26 then (if 0≤x27 then (if x27<(x25.length:Int) then ((qF.f (yU ByteArray.empty x25 x27)).bind fun bt294=>(yo.l2 k x0 x5 x7 x8 (yU ByteArray.empty x25 x27) x18 x19 x20 x25 x26 x27 x0 (x0.length:Int) 0 bt294.1 bt294.2.1 bt294.2.2.1 bt294.2.2.2.1 bt294.2.2.2.2.1 bt294.2.2.2.2.2.1 bt294.2.2.2.2.2.2.1 bt294.2.2.2.2.2.2.2)) else (none)) else (none)) else ((JI.f x7 x8).bind fun bt322=>(if x5.length<1466015503701 then (yo.l0 k x0 (x5++[(⟨bt322.1,bt322.2.1,bt322.2.2.1,bt322.2.2.2.1,bt322.2.2.2.2.1,bt322.2.2.2.2.2.1,bt322.2.2.2.2.2.2.1,bt322.2.2.2.2.2.2.2⟩:S38)]) x18 x19 (wrap64 (x20+1))) else (none)))
def yo.l2:Nat→List (S71)→List (S38)→ByteArray→List (S38)→ByteArray→List ByteArray→Int→Int→List ByteArray→Int→Int→List (S71)→Int→Int→ByteArray→Int→Bool→Int→Int→Nat→ByteArray→List (S38)→Option (ByteArray × Int × Bool × Int × Int × Nat × ByteArray × (List (S38)))
 | 0,_,_,_,_,_,_,_,_,_,_,_,_,_,_,_,_,_,_,_,_,_,_=>none
 | k+1,x0,x5,x7,x8,x10,x18,x19,x20,x25,x26,x27,x33,x34,x35,x305000,x305001,x305002,x305003,x305004,x305005,x305006,x305007=>if x35<x34 then (if 0≤x35 then (if x35<(x33.length:Int) then (yo.l3 k x0 x5 x7 x8 x10 x18 x19 x20 x25 x26 x27 x33 x34 x35 ((yj x33 x35).f2) (((yj x33 x35).f2).length:Int) 0 x305000 x305001 x305002 x305003 x305004 x305005 x305006 x305007 ((yj x33 x35).f0) ((yj x33 x35).f1) ((yj x33 x35).f2)) else (none)) else (none)) else (if x8.length<1466015503701 then (yo.l1 k x0 x5 x7 (x8++[(⟨x305000,x305001,x305002,x305003,x305004,x305005,x305006,x305007⟩:S38)]) x18 x19 x20 x25 x26 (wrap64 (x27+1))) else (none))
def yo.l3:Nat→List (S71)→List (S38)→ByteArray→List (S38)→ByteArray→List ByteArray→Int→Int→List ByteArray→Int→Int→List (S71)→Int→Int→List ByteArray→Int→Int→ByteArray→Int→Bool→Int→Int→Nat→ByteArray→List (S38)→ByteArray→List Int→List ByteArray→Option (ByteArray × Int × Bool × Int × Int × Nat × ByteArray × (List (S38)))
 | 0,_,_,_,_,_,_,_,_,_,_,_,_,_,_,_,_,_,_,_,_,_,_,_,_,_,_,_,_=>none
 | k+1,x0,x5,x7,x8,x10,x18,x19,x20,x25,x26,x27,x33,x34,x35,x40,x41,x42,x305000,x305001,x305002,x305003,x305004,x305005,x305006,x305007,x310000,x310001,x310002=>if x42<x41 then (if 0≤x42 then (if x42<(x40.length:Int) then (if x310000.toList=x7.toList then (if (yU ByteArray.empty x40 x42).toList=x10.toList then (if x42<(x310001.length:Int) then ((qY.f x10 (floatOfInt .f64 (wrap64 (rd x310001 x42)))).bind fun bt312=>(yo.l3 k x0 x5 x7 x8 x10 x18 x19 x20 x25 x26 x27 x33 x34 x35 x40 x41 (wrap64 (x42+1)) bt312.1 bt312.2.1 bt312.2.2.1 bt312.2.2.2.1 bt312.2.2.2.2.1 bt312.2.2.2.2.2.1 bt312.2.2.2.2.2.2.1 bt312.2.2.2.2.2.2.2 x310000 x310001 x310002)) else (none)) else (yo.l3 k x0 x5 x7 x8 x10 x18 x19 x20 x25 x26 x27 x33 x34 x35 x40 x41 (wrap64 (x42+1)) x305000 x305001 x305002 x305003 x305004 x305005 x305006 x305007 x310000 x310001 x310002)) else (yo.l3 k x0 x5 x7 x8 x10 x18 x19 x20 x25 x26 x27 x33 x34 x35 x40 x41 (wrap64 (x42+1)) x305000 x305001 x305002 x305003 x305004 x305005 x305006 x305007 x310000 x310001 x310002)) else (none)) else (none)) else (yo.l2 k x0 x5 x7 x8 x10 x18 x19 x20 x25 x26 x27 x33 x34 (wrap64 (x35+1)) x305000 x305001 x305002 x305003 x305004 x305005 x305006 x305007)
end
def yo.f (k:Nat) (l0:List (S71)) (l1:List ByteArray):Option (ByteArray × Int × Bool × Int × Int × Nat × ByteArray × (List (S38))):=(qZ.f (⟨#[80,73,68]⟩:ByteArray) 0).bind fun bt276=>(yo.l0 k l0 (([(⟨bt276.1,bt276.2.1,bt276.2.2.1,bt276.2.2.2.1,bt276.2.2.2.2.1,bt276.2.2.2.2.2.1,bt276.2.2.2.2.2.2.1,bt276.2.2.2.2.2.2.2⟩:S38)]:List (S38))) l1 (l1.length:Int) 0)
theorem yo.YY:∀ k,(∀ y0 y1 y2 y3 y4,LeO (yo.l0 k y0 y1 y2 y3 y4) (yo.l0 (k+1) y0 y1 y2 y3 y4))∧(∀ y0 y1 y2 y3 y4 y5 y6 y7 y8 y9,LeO (yo.l1 k y0 y1 y2 y3 y4 y5 y6 y7 y8 y9) (yo.l1 (k+1) y0 y1 y2 y3 y4 y5 y6 y7 y8 y9))∧(∀ y0 y1 y2 y3 y4 y5 y6 y7 y8 y9 y10 y11 y12 y13 y14 y15 y16 y17 y18 y19 y20 y21,LeO (yo.l2 k y0 y1 y2 y3 y4 y5 y6 y7 y8 y9 y10 y11 y12 y13 y14 y15 y16 y17 y18 y19 y20 y21) (yo.l2 (k+1) y0 y1 y2 y3 y4 y5 y6 y7 y8 y9 y10 y11 y12 y13 y14 y15 y16 y17 y18 y19 y20 y21))∧(∀ y0 y1 y2 y3 y4 y5 y6 y7 y8 y9 y10 y11 y12 y13 y14 y15 y16 y17 y18 y19 y20 y21 y22 y23 y24 y25 y26 y27,LeO (yo.l3 k y0 y1 y2 y3 y4 y5 y6 y7 y8 y9 y10 y11 y12 y13 y14 y15 y16 y17 y18 y19 y20 y21 y22 y23 y24 y25 y26 y27) (yo.l3 (k+1) y0 y1 y2 y3 y4 y5 y6 y7 y8 y9 y10 y11 y12 y13 y14 y15 y16 y17 y18 y19 y20 y21 y22 y23 y24 y25 y26 y27))
 | 0=>⟨fun _ _ _ _ _ r h=>by simp [yo.l0] at h,fun _ _ _ _ _ _ _ _ _ _ r h=>by simp [yo.l1] at h,fun _ _ _ _ _ _ _ _ _ _ _ _ _ _ _ _ _ _ _ _ _ _ r h=>by simp [yo.l2] at h,fun _ _ _ _ _ _ _ _ _ _ _ _ _ _ _ _ _ _ _ _ _ _ _ _ _ _ _ _ r h=>by simp [yo.l3] at h⟩
 | k+1=>by
  obtain ⟨ih0,ih1,ih2,ih3⟩:=yo.YY k
  refine ⟨?_,?_,?_,?_⟩
  · intro y0 y1 y2 y3 y4
    unfold yo.l0
    repeat' first
    | (with_reducible exact ih0 _ _ _ _ _)
    | (with_reducible exact ih1 _ _ _ _ _ _ _ _ _ _)
    | (with_reducible exact ih2 _ _ _ _ _ _ _ _ _ _ _ _ _ _ _ _ _ _ _ _ _ _)
    | (with_reducible exact ih3 _ _ _ _ _ _ _ _ _ _ _ _ _ _ _ _ _ _ _ _ _ _ _ _ _ _ _ _)
    | (with_reducible exact LeO.refl _)
    | (with_reducible exact LeO.none _)
    | (with_reducible refine LeO.ite ?_ ?_)
    | (with_reducible refine LeO.bind ?_ (fun _=>?_))
    | exact ih0 _ _ _ _ _
    | exact ih1 _ _ _ _ _ _ _ _ _ _
    | exact ih2 _ _ _ _ _ _ _ _ _ _ _ _ _ _ _ _ _ _ _ _ _ _
    | exact ih3 _ _ _ _ _ _ _ _ _ _ _ _ _ _ _ _ _ _ _ _ _ _ _ _ _ _ _ _
    | exact LeO.none _
    | refine LeO.ite ?_ ?_
    | refine LeO.bind ?_ (fun _=>?_)
  · intro y0 y1 y2 y3 y4 y5 y6 y7 y8 y9
    unfold yo.l1
    repeat' first
    | (with_reducible exact ih0 _ _ _ _ _)
    | (with_reducible exact ih1 _ _ _ _ _ _ _ _ _ _)
    | (with_reducible exact ih2 _ _ _ _ _ _ _ _ _ _ _ _ _ _ _ _ _ _ _ _ _ _)
    | (with_reducible exact ih3 _ _ _ _ _ _ _ _ _ _ _ _ _ _ _ _ _ _ _ _ _ _ _ _ _ _ _ _)
    | (with_reducible exact LeO.refl _)
    | (with_reducible exact LeO.none _)
    | (with_reducible refine LeO.ite ?_ ?_)
    | (with_reducible refine LeO.bind ?_ (fun _=>?_))
    | exact ih0 _ _ _ _ _
    | exact ih1 _ _ _ _ _ _ _ _ _ _
    | exact ih2 _ _ _ _ _ _ _ _ _ _ _ _ _ _ _ _ _ _ _ _ _ _
    | exact ih3 _ _ _ _ _ _ _ _ _ _ _ _ _ _ _ _ _ _ _ _ _ _ _ _ _ _ _ _
    | exact LeO.none _
    | refine LeO.ite ?_ ?_
    | refine LeO.bind ?_ (fun _=>?_)
  · intro y0 y1 y2 y3 y4 y5 y6 y7 y8 y9 y10 y11 y12 y13 y14 y15 y16 y17 y18 y19 y20 y21
    unfold yo.l2
    repeat' first
    | (with_reducible exact ih0 _ _ _ _ _)
    | (with_reducible exact ih1 _ _ _ _ _ _ _ _ _ _)
    | (with_reducible exact ih2 _ _ _ _ _ _ _ _ _ _ _ _ _ _ _ _ _ _ _ _ _ _)
    | (with_reducible exact ih3 _ _ _ _ _ _ _ _ _ _ _ _ _ _ _ _ _ _ _ _ _ _ _ _ _ _ _ _)
    | (with_reducible exact LeO.refl _)
    | (with_reducible exact LeO.none _)
    | (with_reducible refine LeO.ite ?_ ?_)
    | (with_reducible refine LeO.bind ?_ (fun _=>?_))
    | exact ih0 _ _ _ _ _
    | exact ih1 _ _ _ _ _ _ _ _ _ _
    | exact ih2 _ _ _ _ _ _ _ _ _ _ _ _ _ _ _ _ _ _ _ _ _ _
    | exact ih3 _ _ _ _ _ _ _ _ _ _ _ _ _ _ _ _ _ _ _ _ _ _ _ _ _ _ _ _
    | exact LeO.none _
    | refine LeO.ite ?_ ?_
    | refine LeO.bind ?_ (fun _=>?_)
  · intro y0 y1 y2 y3 y4 y5 y6 y7 y8 y9 y10 y11 y12 y13 y14 y15 y16 y17 y18 y19 y20 y21 y22 y23 y24 y25 y26 y27
    unfold yo.l3
    repeat' first
    | (with_reducible exact ih0 _ _ _ _ _)
    | (with_reducible exact ih1 _ _ _ _ _ _ _ _ _ _)
    | (with_reducible exact ih2 _ _ _ _ _ _ _ _ _ _ _ _ _ _ _ _ _ _ _ _ _ _)
    | (with_reducible exact ih3 _ _ _ _ _ _ _ _ _ _ _ _ _ _ _ _ _ _ _ _ _ _ _ _ _ _ _ _)
    | (with_reducible exact LeO.refl _)
    | (with_reducible exact LeO.none _)
    | (with_reducible refine LeO.ite ?_ ?_)
    | (with_reducible refine LeO.bind ?_ (fun _=>?_))
    | exact ih0 _ _ _ _ _
    | exact ih1 _ _ _ _ _ _ _ _ _ _
    | exact ih2 _ _ _ _ _ _ _ _ _ _ _ _ _ _ _ _ _ _ _ _ _ _
    | exact ih3 _ _ _ _ _ _ _ _ _ _ _ _ _ _ _ _ _ _ _ _ _ _ _ _ _ _ _ _
    | exact LeO.none _
    | refine LeO.ite ?_ ?_
    | refine LeO.bind ?_ (fun _=>?_)
theorem yo.mono:∀ a0 a1 k,LeO (yo.f k a0 a1) (yo.f (k+1) a0 a1):=by
 intro a0 a1 k
 obtain ⟨ih0,ih1,ih2,ih3⟩:=yo.YY k
 unfold yo.f
 repeat' first
  | (with_reducible exact ih0 _ _ _ _ _)
  | (with_reducible exact ih1 _ _ _ _ _ _ _ _ _ _)
  | (with_reducible exact ih2 _ _ _ _ _ _ _ _ _ _ _ _ _ _ _ _ _ _ _ _ _ _)
  | (with_reducible exact ih3 _ _ _ _ _ _ _ _ _ _ _ _ _ _ _ _ _ _ _ _ _ _ _ _ _ _ _ _)
  | (with_reducible exact LeO.refl _)
  | (with_reducible exact LeO.none _)
  | (with_reducible refine LeO.ite ?_ ?_)
  | (with_reducible refine LeO.bind ?_ (fun _=>?_))
  | exact ih0 _ _ _ _ _
  | exact ih1 _ _ _ _ _ _ _ _ _ _
  | exact ih2 _ _ _ _ _ _ _ _ _ _ _ _ _ _ _ _ _ _ _ _ _ _
  | exact ih3 _ _ _ _ _ _ _ _ _ _ _ _ _ _ _ _ _ _ _ _ _ _ _ _ _ _ _ _
  | exact LeO.none _
  | refine LeO.ite ?_ ?_
  | refine LeO.bind ?_ (fun _=>?_)
set_option maxHeartbeats 8000000 in
set_option maxRecDepth 100000 in
theorem yo.calls (k:Nat) (A0:Option Addr) (c0:Nat) (l0:List (S71)) (A1:Option Addr) (c1:Nat) (l1:List ByteArray) (r1:ByteArray) (r2:Int) (r3:Bool) (r4:Int) (r5:Int) (r6:Nat) (r7:ByteArray) (r8:List (S38)) (w:World) (hr0:Kd.C k71 w A0 l0.length l0) (hc0:l0.length≤c0) (hr1:Kd.C Kd.string w A1 l1.length l1) (hc1:l1.length≤c1) (h:yo.f k l0 l1=some (r1,r2,r3,r4,r5,r6,r7,r8)) :
 Calls Tryz.prog 15 #[.slice A0 l0.length c0,.slice A1 l1.length c1] w fun e w'=>∃ v7_:Value,e=.returned (.agg #[.string r1,.int .i64 r2,.bool r3,.int .i64 r4,.int .u64 r5,.float .f64 r6,.string r7,v7_])∧Kd.V k38 38 w' w.heap.size (fun k_=>(w.heap.size≤k_)) v7_ r8∧Below w.heap.size w w':=by
 have hu38:=Tryz.underlying38
 have hu71:=Tryz.underlying71
 have HR0:=yc.mk hr0
 have HC0:=yc.mk hc0
 clear hr0 hc0
 have HR1:=yc.mk hr1
 have HC1:=yc.mk hc1
 clear hr1 hc1
 have HB:=yc.mk (Below.refl w.heap.size w)
 have H:((qZ.f (⟨#[80,73,68]⟩:ByteArray) 0).bind fun bt276=>(yo.l0 k l0 (([(⟨bt276.1,bt276.2.1,bt276.2.2.1,bt276.2.2.2.1,bt276.2.2.2.2.1,bt276.2.2.2.2.2.1,bt276.2.2.2.2.2.2.1,bt276.2.2.2.2.2.2.2⟩:S38)]:List (S38))) l1 (l1.length:Int) 0))=some (r1,r2,r3,r4,r5,r6,r7,r8):=h
 clear h
 replace H:=Option.bind_eq_some_iff.mp H
 obtain ⟨⟨t276,t277,t278,t279,t280,t281,t282,t283⟩,A30,H⟩:=H
 replace H:(yo.l0 k l0 (([(⟨t276,t277,t278,t279,t280,t281,t282,t283⟩:S38)]:List (S38))) l1 (l1.length:Int) 0)=some (r1,r2,r3,r4,r5,r6,r7,r8):=H
 have A3:=yc.mk A30
 clear A30
 obtain ⟨y286,hy286⟩:∃ y_:List (S38),y_=(([(⟨t276,t277,t278,t279,t280,t281,t282,t283⟩:S38)]:List (S38))):=⟨_,rfl⟩
 replace H:(yo.l0 k l0 y286 l1 (l1.length:Int) 0)=some (r1,r2,r3,r4,r5,r6,r7,r8):=by first|(rw [hy286];with_reducible exact H)|(have H2_:=(Option.bind_some _ _).symm.trans H;rw [hy286];with_reducible exact H2_)|(have H2_:=(Option.bind_some _ _).symm.trans H;with_reducible exact H2_)|with_reducible exact H|(rw [hy286];exact H)|exact H
 have Ny286:=yc.mk hy286
 clear hy286
 have H':=yc.mk H
 clear H
 go_enter Tryz.func15,Tryz.ntmps15
 go_wp2_with (first|((with_reducible refine YX (N:=4) rfl ?_);refine YW ?hg (N:=4) ?hd (cs:=#[.string (⟨#[]⟩:ByteArray),.int .i64 0,.bool false,.int .i64 0,.int .u64 0,.float .f64 0,.string (⟨#[]⟩:ByteArray),.slice none 0 0]) (t:=38) ?hr ?_;(case hd=>rfl);(case hg=>rfl);(case hr=>first|(go_simp;done)|(go_simp;rfl));intro gb275 hg w4 hbox hb;have n0_:=yc.mk (yw Zh hb);have n1_:=yc.mk (hbox);have n2_:=yc.mk ((by rw [hg];exact (yt Zh):w.heap.size≤gb275));have n3_:=yc.mk ((by rw [hg];exact (yt Zh):w.heap.size≤gb275));clear HB;have HB:=n0_;have BK275:=n1_;have GW275:=n2_;have GE275:=n3_;clear n0_ n1_ n2_ n3_;clear hb hbox hg)|((with_reducible refine yW (f:=33) rfl ?_);refine YD (some 16) rfl rfl Tryz.func33 Zk rfl #[.string (⟨#[80,73,68]⟩:ByteArray),.int .i64 0] rfl (by (try simp only [List.map_toArray,List.map_cons,List.map_nil]);first|done|rfl|(simp only [List.length_drop,List.length_take];rfl)) ?_;(with_reducible refine (qZ.calls (⟨#[80,73,68]⟩:ByteArray) 0 t276 t277 t278 t279 t280 t281 t282 t283 _ A3.out).mono ?_);rintro e w5 ⟨v284,rfl,ho0,hb⟩;refine ⟨_,rfl,?_⟩;have n0_:=yc.mk (Kd.yaX (Kd.YC (ok':=fun k_=>(w.heap.size≤k_)∧k_≠gb275) (Kd.R_N (Kd.JP ho0)) (fun k_ hk_=>⟨(Nat.le_trans (yt (Zg GE275.out)) hk_.2.1),(Kd.JZ (g:=gb275) (o:=.cells #[.string (⟨#[]⟩:ByteArray),.int .i64 0,.bool false,.int .i64 0,.int .u64 0,.float .f64 0,.string (⟨#[]⟩:ByteArray),.slice none 0 0] 38 (0,0)) (Zb BK275.out) k_ hk_.2.1)⟩)) (yt (Zg GE275.out)));have n1_:=yc.mk (yI (g:=gb275) (o:=.cells #[.string (⟨#[]⟩:ByteArray),.int .i64 0,.bool false,.int .i64 0,.int .u64 0,.float .f64 0,.string (⟨#[]⟩:ByteArray),.slice none 0 0] 38 (0,0)) (Zb BK275.out) hb);have n2_:=yc.mk (yw (Zg GE275.out) hb);clear BK275 HB;have HO285:=n0_;have BK275:=n1_;have HB:=n2_;clear n0_ n1_ n2_;(try clear hb);(try clear hb2);(try clear hk);(try clear hi);(try clear ho0);obtain ⟨Ao6,co6,eo6⟩:=Kd.QH HO285.out;subst eo6)|((with_reducible refine YX (N:=17) rfl ?_);refine Kd.N_lit k38 _ 38 ?hg (N':=17) ?hd (xs:=([(⟨t276,t277,t278,t279,t280,t281,t282,t283⟩:S38)]:List (S38))) (inner:=[.string t276,.int .i64 t277,.bool t278,.int .i64 t279,.int .u64 t280,.float .f64 t281,.string t282,.slice Ao6 t283.length co6]) (ok:=(fun k_=>(w.heap.size≤k_)∧k_≠gb275)) (okp:=(fun k_=>(w.heap.size≤k_)∧k_≠gb275)) ?hr ?hp (fun _ hk=>hk) ((show ∀ k_,w5.heap.size≤k_→(fun k_=>(w.heap.size≤k_)∧k_≠gb275) k_ from fun k_ hk=>⟨(Nat.le_trans (yt (Zg GE275.out)) hk),Kd.JZ (g:=gb275) (o:=.cells #[.string (⟨#[]⟩:ByteArray),.int .i64 0,.bool false,.int .i64 0,.int .u64 0,.float .f64 0,.string (⟨#[]⟩:ByteArray),.slice none 0 0] 38 (0,0)) (Zb BK275.out) k_ hk⟩) _ (Nat.le_refl _)) (Below.refl _ _) (Nat.le_refl _) (by simp) ?_;(case hd=>rfl);(case hg=>rfl);(case hr=>first|(go_simp;done)|(go_simp;rfl));(case hp=>exact (YM.c8 (show Kd.FK k38 _ _ (⟨t276,t277,t278,t279,t280,t281,t282,t283⟩:S38) [.string t276,.int .i64 t277,.bool t278,.int .i64 t279,.int .u64 t280,.float .f64 t281,.string t282,.slice Ao6 t283.length co6] from (k38_mkF _ _ (⟨t276,t277,t278,t279,t280,t281,t282,t283⟩:S38) (Kd.Qp (Kd.YC (ok':=(fun k_=>(w.heap.size≤k_)∧k_≠gb275)) (HO285.out) (fun k_ hk=>⟨hk.1,hk.2⟩))).2.1 (Kd.N_F (Kd.YC (ok':=(fun k_=>(w.heap.size≤k_)∧k_≠gb275)) (HO285.out) (fun k_ hk=>⟨hk.1,hk.2⟩))))) (YM.none _ _)));intro v287 w7 ho8 hb hg_ hnew_;clear hg_ hnew_;(first|rw [← Ny286.out] at ho8|(simp only [Int.reduceToNat] at ho8;rw [← Ny286.out] at ho8));have n0_:=yc.mk (Kd.yaX ho8 (yt (Zg GE275.out)));have n1_:=yc.mk (yI (g:=gb275) (o:=.cells #[.string (⟨#[]⟩:ByteArray),.int .i64 0,.bool false,.int .i64 0,.int .u64 0,.float .f64 0,.string (⟨#[]⟩:ByteArray),.slice none 0 0] 38 (0,0)) (Zb BK275.out) hb);have n2_:=yc.mk (yw (Zg GE275.out) hb);clear BK275 HB HO285;have HO288:=n0_;have BK275:=n1_;have HB:=n2_;clear n0_ n1_ n2_;clear hb ho8))
 go_loopg [5,20] k (fun kq v5 v20 w'=>∃ (x5_1:List (S38)) (x20_1:Int),v20=.int .i64 x20_1∧yc (yo.l0 kq l0 x5_1 l1 (l1.length:Int) x20_1=some (r1,r2,r3,r4,r5,r6,r7,r8))∧yc (kq≤k)∧yc (Kd.N k38 38 w' w.heap.size (fun k_=>(w.heap.size≤k_)∧k_≠gb275) v5 x5_1)∧yc (w'.heap[gb275]?=some (.cells #[.string (⟨#[]⟩:ByteArray),.int .i64 0,.bool false,.int .i64 0,.int .u64 0,.float .f64 0,.string (⟨#[]⟩:ByteArray),(.slice none 0 0)] 38 (0,0)))∧yc (Below w.heap.size w w'))
 case atStart=>exact ⟨(y286),(0),(by first|rfl|(simp;done)|(simp [*];done)|(simp [yn];done)),H',⟨Nat.le_refl _⟩,⟨by refine Zn ?_;exact HO288.out⟩,⟨by refine Zb ?_;exact BK275.out⟩,⟨by repeat (first|(with_reducible first|exact HB.out|apply yl|apply ym|apply yp|refine yu ?_ GE275.out)|exact HB.out)⟩⟩
 case round=>
  clear H'
  try clear c1
  try clear p2
  try clear c3
  try clear c8
  obtain ⟨x5_1,x20_1,rfl,HA,HK1,HO_5,BK275,HB⟩:=hrel
  cases gk with
  | zero=>exact absurd HA.out (by simp [yo.l0])
  | succ k1=>
   have H:=HA.out
   clear HA
   simp only [yo.l0] at H
   by_cases c9:x20_1<(l1.length:Int)
   · rw [if_pos c9] at H
     have c9b0:decide (x20_1<(l1.length:Int))=true:=decide_eq_true c9
     clear c9
     by_cases c10:0≤x20_1
     · rw [if_pos c10] at H
       have c10b0:decide (0≤x20_1)=true:=decide_eq_true c10
       clear c10
       by_cases c11:x20_1<(l1.length:Int)
       · rw [if_pos c11] at H
         have c11b0:decide (x20_1<(l1.length:Int))=true:=decide_eq_true c11
         clear c11
         replace H:=Option.bind_eq_some_iff.mp H
         obtain ⟨t290,A120,H⟩:=H
         replace H:(yo.l1 k1 l0 x5_1 (yU ByteArray.empty l1 x20_1) ([]:List (S38)) l1 (l1.length:Int) x20_1 t290 (t290.length:Int) 0)=some (r1,r2,r3,r4,r5,r6,r7,r8):=H
         have A12:=yc.mk A120
         clear A120
         have H':=yc.mk H
         clear H
         have p289:0≤(x20_1:Int):=of_decide_eq_true (by first|(with_reducible assumption)|assumption)
         have q289:x20_1<(l1.length:Int):=of_decide_eq_true (by first|(with_reducible assumption)|assumption)
         obtain ⟨ad289,e289,hx289_0⟩:=Kd.YH HR1.out x20_1 p289 q289
         cases e289
         replace hx289_0:=(HB.out.cell (World.block_lt_of_cell? w _ hx289_0)).trans hx289_0
         replace p289:=eq_true p289
         replace q289:=eq_true q289
         go_wp2_with (first|((with_reducible refine yW (f:=30) rfl ?_);refine YD (some 25) rfl rfl Tryz.func30 Zk rfl #[.string (yU ByteArray.empty l1 x20_1)] rfl (by (try simp only [List.map_toArray,List.map_cons,List.map_nil]);first|done|rfl|(simp only [List.length_drop,List.length_take];rfl)) ?_;(with_reducible refine (Y3.calls (yU ByteArray.empty l1 x20_1) t290 _ A12.out).mono ?_);rintro e w13 ⟨v291,rfl,ho0,hb⟩;refine ⟨_,rfl,?_⟩;have n0_:=yc.mk (Kd.qR (Zn HO_5.out) (Kd.Q8 ho0) hb);have n1_:=yc.mk (Kd.Ji (Kd.yaJ (M:=fun k_=>(w.heap.size≤k_)) ho0 (yt (Zg GE275.out)) (fun k_ h_=>h_)) (yt (Zg GE275.out)));have n2_:=yc.mk (yI (g:=gb275) (o:=.cells #[.string (⟨#[]⟩:ByteArray),.int .i64 0,.bool false,.int .i64 0,.int .u64 0,.float .f64 0,.string (⟨#[]⟩:ByteArray),.slice none 0 0] 38 (0,0)) (Zb BK275.out) hb);have n3_:=yc.mk (yw (Zg GE275.out) hb);clear HO_5 BK275 HB;have HO_5:=n0_;have HO292:=n1_;have BK275:=n2_;have HB:=n3_;clear n0_ n1_ n2_ n3_;(try clear hb);(try clear hb2);(try clear hk);(try clear hi);(try clear ho0);obtain ⟨Ao14,co14,eo14⟩:=Kd.YF HO292.out;subst eo14))
         go_loopg [8,27] k1 (fun kq v8 v27 w'=>∃ (x8_2:List (S38)) (x27_2:Int),v27=.int .i64 x27_2∧yc (yo.l1 kq l0 x5_1 (yU ByteArray.empty l1 x20_1) x8_2 l1 (l1.length:Int) x20_1 t290 (t290.length:Int) x27_2=some (r1,r2,r3,r4,r5,r6,r7,r8))∧yc (kq≤k1)∧yc (Kd.N k38 38 w' w.heap.size (fun k_=>(w.heap.size≤k_)∧some k_≠(v8:Value).ownBlock∧some k_≠((.slice Ao14 t290.length co14):Value).ownBlock∧k_≠gb275) u5 x5_1)∧yc (Kd.N k38 38 w' w.heap.size (fun k_=>(w.heap.size≤k_)∧some k_≠(u5:Value).ownBlock∧some k_≠((.slice Ao14 t290.length co14):Value).ownBlock∧k_≠gb275) v8 x8_2)∧yc (Kd.R Kd.string 9 w' w.heap.size (fun k_=>(w.heap.size≤k_)) (.slice Ao14 t290.length co14) t290)∧yc (w'.heap[gb275]?=some (.cells #[.string (⟨#[]⟩:ByteArray),.int .i64 0,.bool false,.int .i64 0,.int .u64 0,.float .f64 0,.string (⟨#[]⟩:ByteArray),(.slice none 0 0)] 38 (0,0)))∧yc (Below w.heap.size w w'))
         case atStart=>exact ⟨(([]:List (S38))),(0),(by first|rfl|(simp;done)|(simp [*];done)|(simp [yn];done)),H',⟨Nat.le_refl _⟩,⟨by refine Zn ?_;exact Kd.YC HO_5.out (fun _ hk=>⟨hk.1.1,⟨(by simp [Value.ownBlock]),⟨hk.2,hk.1.2⟩⟩⟩)⟩,⟨by first|exact Kd.qm _ _ _ _ _|exact Kd.yae _ _ _ _ _|exact Kd.QV _ _ _ _ _|exact Kd.yaf _ _ _ _ _|exact Kd.yah _ _ _ _ _⟩,⟨by refine Zr ?_;exact Kd.Yr HO292.out (fun _ hk=>hk.1)⟩,⟨by refine Zb ?_;exact BK275.out⟩,⟨by repeat (first|(with_reducible first|exact HB.out|apply yl|apply ym|apply yp|refine yu ?_ GE275.out)|exact HB.out)⟩⟩
         case round=>
          clear H'
          try clear c1
          try clear p2
          try clear q2
          try clear hx2
          try clear c3
          try clear c8
          try clear c9
          try clear c9b0
          try clear c10
          try clear c10b0
          try clear c11
          try clear c11b0
          try clear hx289_0
          try clear p2
          try clear p289
          try clear q289
          obtain ⟨x8_2,x27_2,rfl,HA,HK2,HO_5,HO_8,HO_25,BK275,HB⟩:=hrel
          cases gk with
          | zero=>exact absurd HA.out (by simp [yo.l1])
          | succ k2=>
           have H:=HA.out
           clear HA
           simp only [yo.l1] at H
           by_cases c15:x27_2<(t290.length:Int)
           · rw [if_pos c15] at H
             have c15b0:decide (x27_2<(t290.length:Int))=true:=decide_eq_true c15
             clear c15
             by_cases c16:0≤x27_2
             · rw [if_pos c16] at H
               have c16b0:decide (0≤x27_2)=true:=decide_eq_true c16
               clear c16
               by_cases c17:x27_2<(t290.length:Int)
               · rw [if_pos c17] at H
                 have c17b0:decide (x27_2<(t290.length:Int))=true:=decide_eq_true c17
                 clear c17
                 replace H:=Option.bind_eq_some_iff.mp H
                 obtain ⟨⟨t294,t295,t296,t297,t298,t299,t300,t301⟩,A180,H⟩:=H
                 replace H:(yo.l2 k2 l0 x5_1 (yU ByteArray.empty l1 x20_1) x8_2 (yU ByteArray.empty t290 x27_2) l1 (l1.length:Int) x20_1 t290 (t290.length:Int) x27_2 l0 (l0.length:Int) 0 t294 t295 t296 t297 t298 t299 t300 t301)=some (r1,r2,r3,r4,r5,r6,r7,r8):=H
                 have A18:=yc.mk A180
                 clear A180
                 have H':=yc.mk H
                 clear H
                 have p293:0≤(x27_2:Int):=of_decide_eq_true (by first|(with_reducible assumption)|assumption)
                 have q293:x27_2<(t290.length:Int):=of_decide_eq_true (by first|(with_reducible assumption)|assumption)
                 obtain ⟨ad293,e293,hx293_0⟩:=Kd.YH (Kd.YK HO_25.out).2.2 x27_2 p293 q293
                 cases e293
                 replace p293:=eq_true p293
                 replace q293:=eq_true q293
                 go_wp2_with (first|((with_reducible refine yW (f:=34) rfl ?_);refine YD (some 32) rfl rfl Tryz.func34 Zk rfl #[.string (yU ByteArray.empty t290 x27_2)] rfl (by (try simp only [List.map_toArray,List.map_cons,List.map_nil]);first|done|rfl|(simp only [List.length_drop,List.length_take];rfl)) ?_;(with_reducible refine (qF.calls (yU ByteArray.empty t290 x27_2) t294 t295 t296 t297 t298 t299 t300 t301 _ A18.out).mono ?_);rintro e w19 ⟨v302,rfl,ho0,hb⟩;refine ⟨_,rfl,?_⟩;have n0_:=yc.mk (Kd.qR (Zn HO_5.out) (by first|exact Kd.Q5 ho0|exact Kd.Q5 (Kd.R_N ho0)) hb);have n1_:=yc.mk (Kd.qR (Zn HO_8.out) (by first|exact Kd.Q5 ho0|exact Kd.Q5 (Kd.R_N ho0)) hb);have n2_:=yc.mk (Kd.Y1 (Zr HO_25.out) hb);have n3_:=yc.mk (Kd.yaX (Kd.YC (ok':=fun k_=>(w.heap.size≤k_)∧some k_≠(u5:Value).ownBlock∧some k_≠(u8:Value).ownBlock∧some k_≠(.slice (some ad293) t290.length co14:Value).ownBlock∧k_≠gb275) (Kd.R_N (Kd.JP ho0)) (fun k_ hk_=>⟨(Nat.le_trans (yt (Zg GE275.out)) hk_.2.1),(Kd.fresh' (Kd.N_lt (Zn HO_5.out)) k_ hk_.2.1),(Kd.fresh' (Kd.N_lt (Zn HO_8.out)) k_ hk_.2.1),(Kd.fresh' (Kd.R_lt (Zr HO_25.out)) k_ hk_.2.1),(Kd.JZ (g:=gb275) (o:=.cells #[.string (⟨#[]⟩:ByteArray),.int .i64 0,.bool false,.int .i64 0,.int .u64 0,.float .f64 0,.string (⟨#[]⟩:ByteArray),.slice none 0 0] 38 (0,0)) (Zb BK275.out) k_ hk_.2.1)⟩)) (yt (Zg GE275.out)));have n4_:=yc.mk (yI (g:=gb275) (o:=.cells #[.string (⟨#[]⟩:ByteArray),.int .i64 0,.bool false,.int .i64 0,.int .u64 0,.float .f64 0,.string (⟨#[]⟩:ByteArray),.slice none 0 0] 38 (0,0)) (Zb BK275.out) hb);have n5_:=yc.mk (yw (Zg GE275.out) hb);clear HO_5 HO_8 HO_25 BK275 HB;have HO_5:=n0_;have HO_8:=n1_;have HO_25:=n2_;have HO303:=n3_;have BK275:=n4_;have HB:=n5_;clear n0_ n1_ n2_ n3_ n4_ n5_;(try clear hb);(try clear hb2);(try clear hk);(try clear hi);(try clear ho0))|((with_reducible refine YX (N:=11) rfl ?_);refine YW ?hg (N:=11) ?hd (cs:=#[.string (⟨#[]⟩:ByteArray),.int .i64 0,.bool false,.int .i64 0,.int .u64 0,.float .f64 0,.string (⟨#[]⟩:ByteArray),.slice none 0 0]) (t:=38) ?hr ?_;(case hd=>rfl);(case hg=>rfl);(case hr=>first|(go_simp;done)|(go_simp;rfl));intro gb304 hg w20 hbox hb;have n0_:=yc.mk (Kd.JO (Kd.QL (Zn HO_5.out) gb304 (Nat.le_of_eq hg.symm)) hb);have n1_:=yc.mk (Kd.JO (Kd.QL (Zn HO_8.out) gb304 (Nat.le_of_eq hg.symm)) hb);have n2_:=yc.mk (Kd.Y1 (Zr HO_25.out) hb);have n3_:=yc.mk (Kd.JO (Kd.QL (Zn HO303.out) gb304 (Nat.le_of_eq hg.symm)) hb);have n4_:=yc.mk (yI (g:=gb275) (o:=.cells #[.string (⟨#[]⟩:ByteArray),.int .i64 0,.bool false,.int .i64 0,.int .u64 0,.float .f64 0,.string (⟨#[]⟩:ByteArray),.slice none 0 0] 38 (0,0)) (Zb BK275.out) hb);have n5_:=yc.mk (yw (Zg GE275.out) hb);have n6_:=yc.mk (hbox);have n7_:=yc.mk ((by rw [hg];exact (yt (Zg GE275.out)):w.heap.size≤gb304));have n8_:=yc.mk ((by rw [hg];exact (yt (Zg GE275.out)):w.heap.size≤gb304));have n9_:=yc.mk ((by rw [hg];exact Nat.ne_of_lt (YQ (g:=gb275) (o:=.cells #[.string (⟨#[]⟩:ByteArray),.int .i64 0,.bool false,.int .i64 0,.int .u64 0,.float .f64 0,.string (⟨#[]⟩:ByteArray),.slice none 0 0] 38 (0,0)) (Zb BK275.out)):gb275≠gb304));have n10_:=yc.mk ((by rw [hg];exact Nat.ne_of_gt (YQ (g:=gb275) (o:=.cells #[.string (⟨#[]⟩:ByteArray),.int .i64 0,.bool false,.int .i64 0,.int .u64 0,.float .f64 0,.string (⟨#[]⟩:ByteArray),.slice none 0 0] 38 (0,0)) (Zb BK275.out)):gb304≠gb275));clear HO_5 HO_8 HO_25 HO303 BK275 HB;have HO_5:=n0_;have HO_8:=n1_;have HO_25:=n2_;have HO303:=n3_;have BK275:=n4_;have HB:=n5_;have BK304:=n6_;have GW304:=n7_;have GE304:=n8_;have NB275_304:=n9_;have NB304_275:=n10_;clear n0_ n1_ n2_ n3_ n4_ n5_ n6_ n7_ n8_ n9_ n10_;clear hb hbox hg;have hnb21:=NB304_275.out;have hnc21:=NB275_304.out;have hcz22_0:w20.cell? ⟨gb304,0,none⟩=some (.string (⟨#[]⟩:ByteArray)):=(yg BK304.out 0).trans rfl;have hcz22_1:w20.cell? ⟨gb304,1,none⟩=some (.int .i64 0):=(yg BK304.out 1).trans rfl;have hcz22_2:w20.cell? ⟨gb304,2,none⟩=some (.bool false):=(yg BK304.out 2).trans rfl;have hcz22_3:w20.cell? ⟨gb304,3,none⟩=some (.int .i64 0):=(yg BK304.out 3).trans rfl;have hcz22_4:w20.cell? ⟨gb304,4,none⟩=some (.int .u64 0):=(yg BK304.out 4).trans rfl;have hcz22_5:w20.cell? ⟨gb304,5,none⟩=some (.float .f64 0):=(yg BK304.out 5).trans rfl;have hcz22_6:w20.cell? ⟨gb304,6,none⟩=some (.string (⟨#[]⟩:ByteArray)):=(yg BK304.out 6).trans rfl;have hcz22_7:w20.cell? ⟨gb304,7,none⟩=some (.slice none 0 0):=(yg BK304.out 7).trans rfl;have hfz22_0:=yf BK304.out 0;have hfz22_1:=yf BK304.out 1;have hfz22_2:=yf BK304.out 2;have hfz22_3:=yf BK304.out 3;have hfz22_4:=yf BK304.out 4;have hfz22_5:=yf BK304.out 5;have hfz22_6:=yf BK304.out 6;have hfz22_7:=yf BK304.out 7;obtain ⟨Ao23,co23,eo23⟩:=Kd.QH HO303.out;subst eo23))
                 go_loopg [35] k2 (fun kq v35 w'=>∃ (x35_3:Int) (x305000_3:ByteArray) (x305001_3:Int) (x305002_3:Bool) (x305003_3:Int) (x305004_3:Int) (x305005_3:Nat) (x305006_3:ByteArray) (x305007_3:List (S38)) (u305007:Value),v35=.int .i64 x35_3∧yc (yo.l2 kq l0 x5_1 (yU ByteArray.empty l1 x20_1) x8_2 (yU ByteArray.empty t290 x27_2) l1 (l1.length:Int) x20_1 t290 (t290.length:Int) x27_2 l0 (l0.length:Int) x35_3 x305000_3 x305001_3 x305002_3 x305003_3 x305004_3 x305005_3 x305006_3 x305007_3=some (r1,r2,r3,r4,r5,r6,r7,r8))∧yc (kq≤k2)∧yc (Kd.N k38 38 w' w.heap.size (fun k_=>(w.heap.size≤k_)∧some k_≠(u8:Value).ownBlock∧some k_≠((.slice (some ad293) t290.length co14):Value).ownBlock∧some k_≠(u305007:Value).ownBlock∧k_≠gb275∧k_≠gb304) u5 x5_1)∧yc (Kd.N k38 38 w' w.heap.size (fun k_=>(w.heap.size≤k_)∧some k_≠(u5:Value).ownBlock∧some k_≠((.slice (some ad293) t290.length co14):Value).ownBlock∧some k_≠(u305007:Value).ownBlock∧k_≠gb275∧k_≠gb304) u8 x8_2)∧yc (Kd.R Kd.string 9 w' w.heap.size (fun k_=>(w.heap.size≤k_)) (.slice (some ad293) t290.length co14) t290)∧yc (Kd.N k38 38 w' w.heap.size (fun k_=>(w.heap.size≤k_)∧some k_≠(u5:Value).ownBlock∧some k_≠(u8:Value).ownBlock∧some k_≠((.slice (some ad293) t290.length co14):Value).ownBlock∧k_≠gb275∧k_≠gb304) u305007 x305007_3)∧yc (w'.heap[gb275]?=some (.cells #[.string (⟨#[]⟩:ByteArray),.int .i64 0,.bool false,.int .i64 0,.int .u64 0,.float .f64 0,.string (⟨#[]⟩:ByteArray),(.slice none 0 0)] 38 (0,0)))∧yc (w'.heap[gb304]?=some (.cells #[.string x305000_3,.int .i64 x305001_3,.bool x305002_3,.int .i64 x305003_3,.int .u64 x305004_3,.float .f64 x305005_3,.string x305006_3,u305007] 38 (0,0)))∧yc (Below w.heap.size w w'))
                 case atStart=>exact ⟨(0),(t294),(t295),(t296),(t297),(t298),(t299),(t300),(t301),(.slice Ao23 t301.length co23),(by first|rfl|(simp;done)|(simp [*];done)|(simp [yn];done)),H',⟨Nat.le_refl _⟩,⟨by refine Zn ?_;exact Kd.YC (Kd.YO (p:=⟨gb304,7,none⟩) (Kd.YO (p:=⟨gb304,6,none⟩) (Kd.YO (p:=⟨gb304,5,none⟩) (Kd.YO (p:=⟨gb304,4,none⟩) (Kd.YO (p:=⟨gb304,3,none⟩) (Kd.YO (p:=⟨gb304,2,none⟩) (Kd.YO (p:=⟨gb304,1,none⟩) (Kd.YO (p:=⟨gb304,0,none⟩) (Kd.YC HO_5.out (fun k_ hk=>(⟨hk,hk.2⟩:_∧k_≠gb304))) (fun _ hk=>hk.2) (.string t294)) (fun _ hk=>hk.2) (.int .i64 t295)) (fun _ hk=>hk.2) (.bool t296)) (fun _ hk=>hk.2) (.int .i64 t297)) (fun _ hk=>hk.2) (.int .u64 t298)) (fun _ hk=>hk.2) (.float .f64 t299)) (fun _ hk=>hk.2) (.string t300)) (fun _ hk=>hk.2) (.slice Ao23 t301.length co23)) (fun _ hk=>⟨hk.1.1.1.1,⟨hk.1.1.1.2.1,⟨hk.1.1.1.2.2.1,⟨hk.1.1.2,⟨hk.1.1.1.2.2.2,hk.1.2⟩⟩⟩⟩⟩)⟩,⟨by refine Zn ?_;exact Kd.YC (Kd.YO (p:=⟨gb304,7,none⟩) (Kd.YO (p:=⟨gb304,6,none⟩) (Kd.YO (p:=⟨gb304,5,none⟩) (Kd.YO (p:=⟨gb304,4,none⟩) (Kd.YO (p:=⟨gb304,3,none⟩) (Kd.YO (p:=⟨gb304,2,none⟩) (Kd.YO (p:=⟨gb304,1,none⟩) (Kd.YO (p:=⟨gb304,0,none⟩) (Kd.YC HO_8.out (fun k_ hk=>(⟨hk,hk.2⟩:_∧k_≠gb304))) (fun _ hk=>hk.2) (.string t294)) (fun _ hk=>hk.2) (.int .i64 t295)) (fun _ hk=>hk.2) (.bool t296)) (fun _ hk=>hk.2) (.int .i64 t297)) (fun _ hk=>hk.2) (.int .u64 t298)) (fun _ hk=>hk.2) (.float .f64 t299)) (fun _ hk=>hk.2) (.string t300)) (fun _ hk=>hk.2) (.slice Ao23 t301.length co23)) (fun _ hk=>⟨hk.1.1.1.1,⟨hk.1.1.1.2.1,⟨hk.1.1.1.2.2.1,⟨hk.1.1.2,⟨hk.1.1.1.2.2.2,hk.1.2⟩⟩⟩⟩⟩)⟩,⟨by refine Zr ?_;exact Kd.Yr (Kd.YN (p:=⟨gb304,7,none⟩) (Kd.YN (p:=⟨gb304,6,none⟩) (Kd.YN (p:=⟨gb304,5,none⟩) (Kd.YN (p:=⟨gb304,4,none⟩) (Kd.YN (p:=⟨gb304,3,none⟩) (Kd.YN (p:=⟨gb304,2,none⟩) (Kd.YN (p:=⟨gb304,1,none⟩) (Kd.YN (p:=⟨gb304,0,none⟩) (Kd.qI HO_25.out BK304.out Zd) (fun _ hk=>hk.2) (.string t294)) (fun _ hk=>hk.2) (.int .i64 t295)) (fun _ hk=>hk.2) (.bool t296)) (fun _ hk=>hk.2) (.int .i64 t297)) (fun _ hk=>hk.2) (.int .u64 t298)) (fun _ hk=>hk.2) (.float .f64 t299)) (fun _ hk=>hk.2) (.string t300)) (fun _ hk=>hk.2) (.slice Ao23 t301.length co23)) (fun _ hk=>hk.1)⟩,⟨by refine Zn ?_;exact Kd.YC (Kd.YO (p:=⟨gb304,7,none⟩) (Kd.YO (p:=⟨gb304,6,none⟩) (Kd.YO (p:=⟨gb304,5,none⟩) (Kd.YO (p:=⟨gb304,4,none⟩) (Kd.YO (p:=⟨gb304,3,none⟩) (Kd.YO (p:=⟨gb304,2,none⟩) (Kd.YO (p:=⟨gb304,1,none⟩) (Kd.YO (p:=⟨gb304,0,none⟩) (Kd.YC HO303.out (fun k_ hk=>(⟨hk,hk.2⟩:_∧k_≠gb304))) (fun _ hk=>hk.2) (.string t294)) (fun _ hk=>hk.2) (.int .i64 t295)) (fun _ hk=>hk.2) (.bool t296)) (fun _ hk=>hk.2) (.int .i64 t297)) (fun _ hk=>hk.2) (.int .u64 t298)) (fun _ hk=>hk.2) (.float .f64 t299)) (fun _ hk=>hk.2) (.string t300)) (fun _ hk=>hk.2) (.slice Ao23 t301.length co23)) (fun _ hk=>⟨hk.1.1.1,⟨hk.1.1.2.1,⟨hk.1.1.2.2.1,⟨hk.1.1.2.2.2.1,⟨hk.1.1.2.2.2.2,hk.1.2⟩⟩⟩⟩⟩)⟩,⟨by refine Zb ?_;refine yH ?_ NB275_304.out _;refine Zb ?_;refine yH ?_ NB275_304.out _;refine Zb ?_;refine yH ?_ NB275_304.out _;refine Zb ?_;refine yH ?_ NB275_304.out _;refine Zb ?_;refine yH ?_ NB275_304.out _;refine Zb ?_;refine yH ?_ NB275_304.out _;refine Zb ?_;refine yH ?_ NB275_304.out _;refine Zb ?_;refine yH ?_ NB275_304.out _;refine Zb ?_;exact BK275.out⟩,⟨by refine Zb ?_;refine yy (cs:=#[.string t294,.int .i64 t295,.bool t296,.int .i64 t297,.int .u64 t298,.float .f64 t299,.string t300,.slice none 0 0]) ?_ 7 _ rfl;refine Zb ?_;refine yy (cs:=#[.string t294,.int .i64 t295,.bool t296,.int .i64 t297,.int .u64 t298,.float .f64 t299,.string (⟨#[]⟩:ByteArray),.slice none 0 0]) ?_ 6 _ rfl;refine Zb ?_;refine yy (cs:=#[.string t294,.int .i64 t295,.bool t296,.int .i64 t297,.int .u64 t298,.float .f64 0,.string (⟨#[]⟩:ByteArray),.slice none 0 0]) ?_ 5 _ rfl;refine Zb ?_;refine yy (cs:=#[.string t294,.int .i64 t295,.bool t296,.int .i64 t297,.int .u64 0,.float .f64 0,.string (⟨#[]⟩:ByteArray),.slice none 0 0]) ?_ 4 _ rfl;refine Zb ?_;refine yy (cs:=#[.string t294,.int .i64 t295,.bool t296,.int .i64 0,.int .u64 0,.float .f64 0,.string (⟨#[]⟩:ByteArray),.slice none 0 0]) ?_ 3 _ rfl;refine Zb ?_;refine yy (cs:=#[.string t294,.int .i64 t295,.bool false,.int .i64 0,.int .u64 0,.float .f64 0,.string (⟨#[]⟩:ByteArray),.slice none 0 0]) ?_ 2 _ rfl;refine Zb ?_;refine yy (cs:=#[.string t294,.int .i64 0,.bool false,.int .i64 0,.int .u64 0,.float .f64 0,.string (⟨#[]⟩:ByteArray),.slice none 0 0]) ?_ 1 _ rfl;refine Zb ?_;refine yy (cs:=#[.string (⟨#[]⟩:ByteArray),.int .i64 0,.bool false,.int .i64 0,.int .u64 0,.float .f64 0,.string (⟨#[]⟩:ByteArray),.slice none 0 0]) ?_ 0 _ rfl;refine Zb ?_;exact BK304.out⟩,⟨by repeat (first|(with_reducible first|exact HB.out|apply yl|apply ym|apply yp|refine yu ?_ GE275.out|refine yu ?_ GE304.out)|exact HB.out)⟩⟩
                 case round=>
                  clear H'
                  try clear c1
                  try clear c2
                  try clear p2
                  try clear q2
                  try clear hx2
                  try clear c3
                  try clear c8
                  try clear c9
                  try clear c9b0
                  try clear c10
                  try clear c10b0
                  try clear c11
                  try clear c11b0
                  try clear c15
                  try clear c15b0
                  try clear c16
                  try clear c16b0
                  try clear c17
                  try clear c17b0
                  try clear c21
                  try clear hcz22_0
                  try clear hcz22_1
                  try clear hcz22_2
                  try clear hcz22_3
                  try clear hcz22_4
                  try clear hcz22_5
                  try clear hcz22_6
                  try clear hcz22_7
                  try clear hfz22_0
                  try clear hfz22_1
                  try clear hfz22_2
                  try clear hfz22_3
                  try clear hfz22_4
                  try clear hfz22_5
                  try clear hfz22_6
                  try clear hfz22_7
                  try clear hx289_0
                  try clear hx293_0
                  try clear p2
                  try clear p289
                  try clear p293
                  try clear q2
                  try clear q289
                  try clear q293
                  obtain ⟨x35_3,x305000_3,x305001_3,x305002_3,x305003_3,x305004_3,x305005_3,x305006_3,x305007_3,u305007,rfl,HA,HK3,HO_5,HO_8,HO_25,HO_305007,BK275,BK304,HB⟩:=hrel
                  cases gk with
                  | zero=>exact absurd HA.out (by simp [yo.l2])
                  | succ k3=>
                   have H:=HA.out
                   clear HA
                   simp only [yo.l2] at H
                   by_cases c24:x35_3<(l0.length:Int)
                   · rw [if_pos c24] at H
                     have c24b0:decide (x35_3<(l0.length:Int))=true:=decide_eq_true c24
                     clear c24
                     by_cases c25:0≤x35_3
                     · rw [if_pos c25] at H
                       have c25b0:decide (0≤x35_3)=true:=decide_eq_true c25
                       clear c25
                       by_cases c26:x35_3<(l0.length:Int)
                       · rw [if_pos c26] at H
                         have c26b0:decide (x35_3<(l0.length:Int))=true:=decide_eq_true c26
                         clear c26
                         have H':=yc.mk H
                         clear H
                         have p308:0≤(x35_3:Int):=of_decide_eq_true (by first|(with_reducible assumption)|assumption)
                         have q308:x35_3<(l0.length:Int):=of_decide_eq_true (by first|(with_reducible assumption)|assumption)
                         obtain ⟨ad308,A308_1,c308_1,A308_2,c308_2,e308,hx308_0,hx308_1,hx308_2,hl308_1,hi308_1,hl308_2,hi308_2⟩:=ybo HR0.out x35_3 p308 q308
                         cases e308
                         replace hx308_0:=(HB.out.cell (World.block_lt_of_cell? w _ hx308_0)).trans hx308_0
                         replace hx308_1:=(HB.out.cell (World.block_lt_of_cell? w _ hx308_1)).trans hx308_1
                         replace hx308_2:=(HB.out.cell (World.block_lt_of_cell? w _ hx308_2)).trans hx308_2
                         have HR308_1:=yc.mk hi308_1
                         have HC308_1:=yc.mk hl308_1
                         clear hi308_1 hl308_1
                         have HR308_2:=yc.mk hi308_2
                         have HC308_2:=yc.mk hl308_2
                         clear hi308_2 hl308_2
                         replace p308:=eq_true p308
                         replace q308:=eq_true q308
                         go_wp2_with (first|((with_reducible refine YX (N:=13) rfl ?_);refine YW ?hg (N:=13) ?hd (cs:=#[.string (⟨#[]⟩:ByteArray),.slice none 0 0,.slice none 0 0]) (t:=71) ?hr ?_;(case hd=>rfl);(case hg=>rfl);(case hr=>first|(go_simp;done)|(go_simp;rfl));intro gb309 hg w27 hbox hb;have n0_:=yc.mk (Kd.JO (Kd.QL (Zn HO_5.out) gb309 (Nat.le_of_eq hg.symm)) hb);have n1_:=yc.mk (Kd.JO (Kd.QL (Zn HO_8.out) gb309 (Nat.le_of_eq hg.symm)) hb);have n2_:=yc.mk (Kd.Y1 (Zr HO_25.out) hb);have n3_:=yc.mk (Kd.JO (Kd.QL (Zn HO_305007.out) gb309 (Nat.le_of_eq hg.symm)) hb);have n4_:=yc.mk (yI (g:=gb275) (o:=.cells #[.string (⟨#[]⟩:ByteArray),.int .i64 0,.bool false,.int .i64 0,.int .u64 0,.float .f64 0,.string (⟨#[]⟩:ByteArray),.slice none 0 0] 38 (0,0)) (Zb BK275.out) hb);have n5_:=yc.mk (yI (g:=gb304) (o:=.cells #[.string x305000_3,.int .i64 x305001_3,.bool x305002_3,.int .i64 x305003_3,.int .u64 x305004_3,.float .f64 x305005_3,.string x305006_3,u305007] 38 (0,0)) (Zb BK304.out) hb);have n6_:=yc.mk (yw (Zg2 GE275.out GE304.out) hb);have n7_:=yc.mk (hbox);have n8_:=yc.mk ((by rw [hg];exact (yt (Zg2 GE275.out GE304.out)):w.heap.size≤gb309));have n9_:=yc.mk ((by rw [hg];exact (yt (Zg2 GE275.out GE304.out)):w.heap.size≤gb309));have n10_:=yc.mk ((by rw [hg];exact Nat.ne_of_lt (YQ (g:=gb275) (o:=.cells #[.string (⟨#[]⟩:ByteArray),.int .i64 0,.bool false,.int .i64 0,.int .u64 0,.float .f64 0,.string (⟨#[]⟩:ByteArray),.slice none 0 0] 38 (0,0)) (Zb BK275.out)):gb275≠gb309));have n11_:=yc.mk ((by rw [hg];exact Nat.ne_of_gt (YQ (g:=gb275) (o:=.cells #[.string (⟨#[]⟩:ByteArray),.int .i64 0,.bool false,.int .i64 0,.int .u64 0,.float .f64 0,.string (⟨#[]⟩:ByteArray),.slice none 0 0] 38 (0,0)) (Zb BK275.out)):gb309≠gb275));have n12_:=yc.mk ((by rw [hg];exact Nat.ne_of_lt (YQ (g:=gb304) (o:=.cells #[.string x305000_3,.int .i64 x305001_3,.bool x305002_3,.int .i64 x305003_3,.int .u64 x305004_3,.float .f64 x305005_3,.string x305006_3,u305007] 38 (0,0)) (Zb BK304.out)):gb304≠gb309));have n13_:=yc.mk ((by rw [hg];exact Nat.ne_of_gt (YQ (g:=gb304) (o:=.cells #[.string x305000_3,.int .i64 x305001_3,.bool x305002_3,.int .i64 x305003_3,.int .u64 x305004_3,.float .f64 x305005_3,.string x305006_3,u305007] 38 (0,0)) (Zb BK304.out)):gb309≠gb304));clear HO_5 HO_8 HO_25 HO_305007 BK275 BK304 HB;have HO_5:=n0_;have HO_8:=n1_;have HO_25:=n2_;have HO_305007:=n3_;have BK275:=n4_;have BK304:=n5_;have HB:=n6_;have BK309:=n7_;have GW309:=n8_;have GE309:=n9_;have NB275_309:=n10_;have NB309_275:=n11_;have NB304_309:=n12_;have NB309_304:=n13_;clear n0_ n1_ n2_ n3_ n4_ n5_ n6_ n7_ n8_ n9_ n10_ n11_ n12_ n13_;clear hb hbox hg;have hnb28:=NB309_275.out;have hnc28:=NB275_309.out;have hnb29:=NB309_304.out;have hnc29:=NB304_309.out;have hcz30_0:w27.cell? ⟨gb309,0,none⟩=some (.string (⟨#[]⟩:ByteArray)):=(yg BK309.out 0).trans rfl;have hcz30_1:w27.cell? ⟨gb309,1,none⟩=some (.slice none 0 0):=(yg BK309.out 1).trans rfl;have hcz30_2:w27.cell? ⟨gb309,2,none⟩=some (.slice none 0 0):=(yg BK309.out 2).trans rfl;have hfz30_0:=yf BK309.out 0;have hfz30_1:=yf BK309.out 1;have hfz30_2:=yf BK309.out 2))
                         go_loopg [42] k3 (fun kq v42 w'=>∃ (x42_4:Int) (x305000_4:ByteArray) (x305001_4:Int) (x305002_4:Bool) (x305003_4:Int) (x305004_4:Int) (x305005_4:Nat) (x305006_4:ByteArray) (x305007_4:List (S38)) (u305007:Value),v42=.int .i64 x42_4∧yc (yo.l3 kq l0 x5_1 (yU ByteArray.empty l1 x20_1) x8_2 (yU ByteArray.empty t290 x27_2) l1 (l1.length:Int) x20_1 t290 (t290.length:Int) x27_2 l0 (l0.length:Int) x35_3 ((yj l0 x35_3).f2) (((yj l0 x35_3).f2).length:Int) x42_4 x305000_4 x305001_4 x305002_4 x305003_4 x305004_4 x305005_4 x305006_4 x305007_4 ((yj l0 x35_3).f0) ((yj l0 x35_3).f1) ((yj l0 x35_3).f2)=some (r1,r2,r3,r4,r5,r6,r7,r8))∧yc (kq≤k3)∧yc (Kd.N k38 38 w' w.heap.size (fun k_=>(w.heap.size≤k_)∧some k_≠(u8:Value).ownBlock∧some k_≠((.slice (some ad293) t290.length co14):Value).ownBlock∧some k_≠(u305007:Value).ownBlock∧k_≠gb275∧k_≠gb304∧k_≠gb309) u5 x5_1)∧yc (Kd.N k38 38 w' w.heap.size (fun k_=>(w.heap.size≤k_)∧some k_≠(u5:Value).ownBlock∧some k_≠((.slice (some ad293) t290.length co14):Value).ownBlock∧some k_≠(u305007:Value).ownBlock∧k_≠gb275∧k_≠gb304∧k_≠gb309) u8 x8_2)∧yc (Kd.R Kd.string 9 w' w.heap.size (fun k_=>(w.heap.size≤k_)) (.slice (some ad293) t290.length co14) t290)∧yc (Kd.N k38 38 w' w.heap.size (fun k_=>(w.heap.size≤k_)∧some k_≠(u5:Value).ownBlock∧some k_≠(u8:Value).ownBlock∧some k_≠((.slice (some ad293) t290.length co14):Value).ownBlock∧k_≠gb275∧k_≠gb304∧k_≠gb309) u305007 x305007_4)∧yc (w'.heap[gb275]?=some (.cells #[.string (⟨#[]⟩:ByteArray),.int .i64 0,.bool false,.int .i64 0,.int .u64 0,.float .f64 0,.string (⟨#[]⟩:ByteArray),(.slice none 0 0)] 38 (0,0)))∧yc (w'.heap[gb304]?=some (.cells #[.string x305000_4,.int .i64 x305001_4,.bool x305002_4,.int .i64 x305003_4,.int .u64 x305004_4,.float .f64 x305005_4,.string x305006_4,u305007] 38 (0,0)))∧yc (w'.heap[gb309]?=some (.cells #[.string ((yj l0 x35_3).f0),(.slice A308_1 ((yj l0 x35_3).f1).length c308_1),(.slice A308_2 ((yj l0 x35_3).f2).length c308_2)] 71 (0,0)))∧yc (Below w.heap.size w w'))
                         case atStart=>exact ⟨(0),(x305000_3),(x305001_3),(x305002_3),(x305003_3),(x305004_3),(x305005_3),(x305006_3),(x305007_3),(u305007),(by first|rfl|(simp;done)|(simp [*];done)|(simp [yn];done)),H',⟨Nat.le_refl _⟩,⟨by refine Zn ?_;exact Kd.YC (Kd.YO (p:=⟨gb309,2,none⟩) (Kd.YO (p:=⟨gb309,1,none⟩) (Kd.YO (p:=⟨gb309,0,none⟩) (Kd.YC HO_5.out (fun k_ hk=>(⟨hk,hk.2⟩:_∧k_≠gb309))) (fun _ hk=>hk.2) (.string ((yj l0 x35_3).f0))) (fun _ hk=>hk.2) (.slice A308_1 ((yj l0 x35_3).f1).length c308_1)) (fun _ hk=>hk.2) (.slice A308_2 ((yj l0 x35_3).f2).length c308_2)) (fun _ hk=>⟨hk.1.1.1,⟨hk.1.1.2.1,⟨hk.1.1.2.2.1,⟨hk.1.1.2.2.2.1,⟨hk.1.1.2.2.2.2.1,⟨hk.1.1.2.2.2.2.2,hk.1.2⟩⟩⟩⟩⟩⟩)⟩,⟨by refine Zn ?_;exact Kd.YC (Kd.YO (p:=⟨gb309,2,none⟩) (Kd.YO (p:=⟨gb309,1,none⟩) (Kd.YO (p:=⟨gb309,0,none⟩) (Kd.YC HO_8.out (fun k_ hk=>(⟨hk,hk.2⟩:_∧k_≠gb309))) (fun _ hk=>hk.2) (.string ((yj l0 x35_3).f0))) (fun _ hk=>hk.2) (.slice A308_1 ((yj l0 x35_3).f1).length c308_1)) (fun _ hk=>hk.2) (.slice A308_2 ((yj l0 x35_3).f2).length c308_2)) (fun _ hk=>⟨hk.1.1.1,⟨hk.1.1.2.1,⟨hk.1.1.2.2.1,⟨hk.1.1.2.2.2.1,⟨hk.1.1.2.2.2.2.1,⟨hk.1.1.2.2.2.2.2,hk.1.2⟩⟩⟩⟩⟩⟩)⟩,⟨by refine Zr ?_;exact Kd.Yr (Kd.YN (p:=⟨gb309,2,none⟩) (Kd.YN (p:=⟨gb309,1,none⟩) (Kd.YN (p:=⟨gb309,0,none⟩) (Kd.qI HO_25.out BK309.out Zd) (fun _ hk=>hk.2) (.string ((yj l0 x35_3).f0))) (fun _ hk=>hk.2) (.slice A308_1 ((yj l0 x35_3).f1).length c308_1)) (fun _ hk=>hk.2) (.slice A308_2 ((yj l0 x35_3).f2).length c308_2)) (fun _ hk=>hk.1)⟩,⟨by refine Zn ?_;exact Kd.YC (Kd.YO (p:=⟨gb309,2,none⟩) (Kd.YO (p:=⟨gb309,1,none⟩) (Kd.YO (p:=⟨gb309,0,none⟩) (Kd.YC HO_305007.out (fun k_ hk=>(⟨hk,hk.2⟩:_∧k_≠gb309))) (fun _ hk=>hk.2) (.string ((yj l0 x35_3).f0))) (fun _ hk=>hk.2) (.slice A308_1 ((yj l0 x35_3).f1).length c308_1)) (fun _ hk=>hk.2) (.slice A308_2 ((yj l0 x35_3).f2).length c308_2)) (fun _ hk=>⟨hk.1.1.1,⟨hk.1.1.2.1,⟨hk.1.1.2.2.1,⟨hk.1.1.2.2.2.1,⟨hk.1.1.2.2.2.2.1,⟨hk.1.1.2.2.2.2.2,hk.1.2⟩⟩⟩⟩⟩⟩)⟩,⟨by refine Zb ?_;refine yH ?_ NB275_309.out _;refine Zb ?_;refine yH ?_ NB275_309.out _;refine Zb ?_;refine yH ?_ NB275_309.out _;refine Zb ?_;exact BK275.out⟩,⟨by refine Zb ?_;refine yH ?_ NB304_309.out _;refine Zb ?_;refine yH ?_ NB304_309.out _;refine Zb ?_;refine yH ?_ NB304_309.out _;refine Zb ?_;exact BK304.out⟩,⟨by refine Zb ?_;refine yy (cs:=#[.string ((yj l0 x35_3).f0),.slice A308_1 ((yj l0 x35_3).f1).length c308_1,.slice none 0 0]) ?_ 2 _ rfl;refine Zb ?_;refine yy (cs:=#[.string ((yj l0 x35_3).f0),.slice none 0 0,.slice none 0 0]) ?_ 1 _ rfl;refine Zb ?_;refine yy (cs:=#[.string (⟨#[]⟩:ByteArray),.slice none 0 0,.slice none 0 0]) ?_ 0 _ rfl;refine Zb ?_;exact BK309.out⟩,⟨by repeat (first|(with_reducible first|exact HB.out|apply yl|apply ym|apply yp|refine yu ?_ GE275.out|refine yu ?_ GE304.out|refine yu ?_ GE309.out)|exact HB.out)⟩⟩
                         case round=>
                          clear H'
                          try clear c1
                          try clear c2
                          try clear p2
                          try clear q2
                          try clear hx2
                          try clear c3
                          try clear p3
                          try clear q3
                          try clear hx3
                          try clear c8
                          try clear c9
                          try clear c9b0
                          try clear c10
                          try clear c10b0
                          try clear c11
                          try clear c11b0
                          try clear c15
                          try clear c15b0
                          try clear c16
                          try clear c16b0
                          try clear c17
                          try clear c17b0
                          try clear c21
                          try clear c24
                          try clear c24b0
                          try clear c25
                          try clear c25b0
                          try clear c26
                          try clear c26b0
                          try clear c28
                          try clear p28
                          try clear q28
                          try clear hx28
                          try clear c29
                          try clear p29
                          try clear q29
                          try clear hx29
                          try clear c30
                          try clear p30
                          try clear q30
                          try clear hx30
                          try clear hcz22_0
                          try clear hcz22_1
                          try clear hcz22_2
                          try clear hcz22_3
                          try clear hcz22_4
                          try clear hcz22_5
                          try clear hcz22_6
                          try clear hcz22_7
                          try clear hcz30_0
                          try clear hcz30_1
                          try clear hcz30_2
                          try clear hfz22_0
                          try clear hfz22_1
                          try clear hfz22_2
                          try clear hfz22_3
                          try clear hfz22_4
                          try clear hfz22_5
                          try clear hfz22_6
                          try clear hfz22_7
                          try clear hfz30_0
                          try clear hfz30_1
                          try clear hfz30_2
                          try clear hx289_0
                          try clear hx293_0
                          try clear hx308_0
                          try clear hx308_1
                          try clear hx308_2
                          try clear p2
                          try clear p289
                          try clear p293
                          try clear p308
                          try clear q2
                          try clear q289
                          try clear q293
                          try clear q308
                          obtain ⟨x42_4,x305000_4,x305001_4,x305002_4,x305003_4,x305004_4,x305005_4,x305006_4,x305007_4,u305007,rfl,HA,HK4,HO_5,HO_8,HO_25,HO_305007,BK275,BK304,BK309,HB⟩:=hrel
                          cases gk with
                          | zero=>exact absurd HA.out (by simp [yo.l3])
                          | succ k4=>
                           have H:=HA.out
                           clear HA
                           simp only [yo.l3] at H
                           by_cases c31:x42_4<(((yj l0 x35_3).f2).length:Int)
                           · rw [if_pos c31] at H
                             have c31b0:decide (x42_4<(((yj l0 x35_3).f2).length:Int))=true:=decide_eq_true c31
                             clear c31
                             by_cases c32:0≤x42_4
                             · rw [if_pos c32] at H
                               have c32b0:decide (0≤x42_4)=true:=decide_eq_true c32
                               clear c32
                               by_cases c33:x42_4<(((yj l0 x35_3).f2).length:Int)
                               · rw [if_pos c33] at H
                                 have c33b0:decide (x42_4<(((yj l0 x35_3).f2).length:Int))=true:=decide_eq_true c33
                                 clear c33
                                 by_cases c34:((yj l0 x35_3).f0).toList=(yU ByteArray.empty l1 x20_1).toList
                                 · rw [if_pos c34] at H
                                   have c34b0:(((yj l0 x35_3).f0).toList == (yU ByteArray.empty l1 x20_1).toList)=true:=beq_iff_eq.mpr c34
                                   have c34b1:(((yj l0 x35_3).f0).toList != (yU ByteArray.empty l1 x20_1).toList)=false:=bne_eq_false_iff_eq.mpr c34
                                   clear c34
                                   by_cases c35:(yU ByteArray.empty ((yj l0 x35_3).f2) x42_4).toList=(yU ByteArray.empty t290 x27_2).toList
                                   · rw [if_pos c35] at H
                                     have c35b0:((yU ByteArray.empty ((yj l0 x35_3).f2) x42_4).toList == (yU ByteArray.empty t290 x27_2).toList)=true:=beq_iff_eq.mpr c35
                                     have c35b1:((yU ByteArray.empty ((yj l0 x35_3).f2) x42_4).toList != (yU ByteArray.empty t290 x27_2).toList)=false:=bne_eq_false_iff_eq.mpr c35
                                     clear c35
                                     by_cases c36:x42_4<(((yj l0 x35_3).f1).length:Int)
                                     · rw [if_pos c36] at H
                                       have c36b0:decide (x42_4<(((yj l0 x35_3).f1).length:Int))=true:=decide_eq_true c36
                                       clear c36
                                       replace H:=Option.bind_eq_some_iff.mp H
                                       obtain ⟨⟨t312,t313,t314,t315,t316,t317,t318,t319⟩,A370,H⟩:=H
                                       replace H:(yo.l3 k4 l0 x5_1 (yU ByteArray.empty l1 x20_1) x8_2 (yU ByteArray.empty t290 x27_2) l1 (l1.length:Int) x20_1 t290 (t290.length:Int) x27_2 l0 (l0.length:Int) x35_3 ((yj l0 x35_3).f2) (((yj l0 x35_3).f2).length:Int) (wrap64 (x42_4+1)) t312 t313 t314 t315 t316 t317 t318 t319 ((yj l0 x35_3).f0) ((yj l0 x35_3).f1) ((yj l0 x35_3).f2))=some (r1,r2,r3,r4,r5,r6,r7,r8):=H
                                       have A37:=yc.mk A370
                                       clear A370
                                       have H':=yc.mk H
                                       clear H
                                       have p310:0≤(x42_4:Int):=of_decide_eq_true (by first|(with_reducible assumption)|assumption)
                                       have q310:x42_4<(((yj l0 x35_3).f2).length:Int):=of_decide_eq_true (by first|(with_reducible assumption)|assumption)
                                       obtain ⟨ad310,e310,hx310_0⟩:=Kd.YH HR308_2.out x42_4 p310 q310
                                       cases e310
                                       replace hx310_0:=(HB.out.cell (World.block_lt_of_cell? w _ hx310_0)).trans hx310_0
                                       replace p310:=eq_true p310
                                       replace q310:=eq_true q310
                                       have hnb38:=NB309_275.out
                                       have hnc38:=NB275_309.out
                                       have hnb39:=NB309_304.out
                                       have hnc39:=NB304_309.out
                                       have hcz40_0:wr.cell? ⟨gb309,0,none⟩=some (.string ((yj l0 x35_3).f0)):=(yg BK309.out 0).trans rfl
                                       have hcz40_1:wr.cell? ⟨gb309,1,none⟩=some (.slice A308_1 ((yj l0 x35_3).f1).length c308_1):=(yg BK309.out 1).trans rfl
                                       have hcz40_2:wr.cell? ⟨gb309,2,none⟩=some (.slice (some ad310) ((yj l0 x35_3).f2).length c308_2):=(yg BK309.out 2).trans rfl
                                       have hfz40_0:=yf BK309.out 0
                                       have hfz40_1:=yf BK309.out 1
                                       have hfz40_2:=yf BK309.out 2
                                       have p311:0≤(x42_4:Int):=of_decide_eq_true (by first|(with_reducible assumption)|assumption)
                                       have q311:x42_4<(((yj l0 x35_3).f1).length:Int):=of_decide_eq_true (by first|(with_reducible assumption)|assumption)
                                       obtain ⟨ad311,e311,hx311_0⟩:=Kd.at_int HR308_1.out x42_4 p311 q311
                                       cases e311
                                       replace hx311_0:=(HB.out.cell (World.block_lt_of_cell? w _ hx311_0)).trans hx311_0
                                       replace p311:=eq_true p311
                                       replace q311:=eq_true q311
                                       go_wp2_with (first|((with_reducible refine yW (f:=35) rfl ?_);refine YD (some 64) rfl rfl Tryz.func35 Zk rfl #[.string (yU ByteArray.empty t290 x27_2),.float .f64 (floatOfInt .f64 (wrap64 (rd ((yj l0 x35_3).f1) x42_4)))] rfl (by (try simp only [List.map_toArray,List.map_cons,List.map_nil]);first|done|rfl|(simp only [List.length_drop,List.length_take];rfl)) ?_;(with_reducible refine (qY.calls (yU ByteArray.empty t290 x27_2) (floatOfInt .f64 (wrap64 (rd ((yj l0 x35_3).f1) x42_4))) t312 t313 t314 t315 t316 t317 t318 t319 _ A37.out).mono ?_);rintro e w41 ⟨v320,rfl,ho0,hb⟩;refine ⟨_,rfl,?_⟩;have n0_:=yc.mk (Kd.qR (Zn HO_5.out) (by first|exact Kd.Q5 ho0|exact Kd.Q5 (Kd.R_N ho0)) hb);have n1_:=yc.mk (Kd.qR (Zn HO_8.out) (by first|exact Kd.Q5 ho0|exact Kd.Q5 (Kd.R_N ho0)) hb);have n2_:=yc.mk (Kd.Y1 (Zr HO_25.out) hb);have n3_:=yc.mk (Kd.qR (Zn HO_305007.out) (by first|exact Kd.Q5 ho0|exact Kd.Q5 (Kd.R_N ho0)) hb);have n4_:=yc.mk (Kd.yaX (Kd.YC (ok':=fun k_=>(w.heap.size≤k_)∧some k_≠(u5:Value).ownBlock∧some k_≠(u8:Value).ownBlock∧some k_≠(.slice (some ad293) t290.length co14:Value).ownBlock∧some k_≠(u305007:Value).ownBlock∧k_≠gb275∧k_≠gb304∧k_≠gb309) (Kd.R_N (Kd.JP ho0)) (fun k_ hk_=>⟨(Nat.le_trans (yt (by repeat (first|(with_reducible first|exact HB.out|apply yl|apply ym|apply yp|refine yu ?_ GE275.out|refine yu ?_ GE304.out|refine yu ?_ GE309.out)|exact HB.out))) hk_.2.1),(Kd.fresh' (Kd.N_lt (Zn HO_5.out)) k_ hk_.2.1),(Kd.fresh' (Kd.N_lt (Zn HO_8.out)) k_ hk_.2.1),(Kd.fresh' (Kd.R_lt (Zr HO_25.out)) k_ hk_.2.1),(Kd.fresh' (Kd.N_lt (Zn HO_305007.out)) k_ hk_.2.1),(Kd.JZ (g:=gb275) (o:=.cells #[.string (⟨#[]⟩:ByteArray),.int .i64 0,.bool false,.int .i64 0,.int .u64 0,.float .f64 0,.string (⟨#[]⟩:ByteArray),.slice none 0 0] 38 (0,0)) (Zb BK275.out) k_ hk_.2.1),(Kd.JZ (g:=gb304) (o:=.cells #[.string x305000_4,.int .i64 x305001_4,.bool x305002_4,.int .i64 x305003_4,.int .u64 x305004_4,.float .f64 x305005_4,.string x305006_4,u305007] 38 (0,0)) (Zb BK304.out) k_ hk_.2.1),(Kd.JZ (g:=gb309) (o:=.cells #[.string ((yj l0 x35_3).f0),.slice (some ad311) ((yj l0 x35_3).f1).length c308_1,.slice (some ad310) ((yj l0 x35_3).f2).length c308_2] 71 (0,0)) (Zb BK309.out) k_ hk_.2.1)⟩)) (yt (by repeat (first|(with_reducible first|exact HB.out|apply yl|apply ym|apply yp|refine yu ?_ GE275.out|refine yu ?_ GE304.out|refine yu ?_ GE309.out)|exact HB.out))));have n5_:=yc.mk (yI (g:=gb275) (o:=.cells #[.string (⟨#[]⟩:ByteArray),.int .i64 0,.bool false,.int .i64 0,.int .u64 0,.float .f64 0,.string (⟨#[]⟩:ByteArray),.slice none 0 0] 38 (0,0)) (Zb BK275.out) hb);have n6_:=yc.mk (yI (g:=gb304) (o:=.cells #[.string x305000_4,.int .i64 x305001_4,.bool x305002_4,.int .i64 x305003_4,.int .u64 x305004_4,.float .f64 x305005_4,.string x305006_4,u305007] 38 (0,0)) (Zb BK304.out) hb);have n7_:=yc.mk (yI (g:=gb309) (o:=.cells #[.string ((yj l0 x35_3).f0),.slice (some ad311) ((yj l0 x35_3).f1).length c308_1,.slice (some ad310) ((yj l0 x35_3).f2).length c308_2] 71 (0,0)) (Zb BK309.out) hb);have n8_:=yc.mk (yw (by repeat (first|(with_reducible first|exact HB.out|apply yl|apply ym|apply yp|refine yu ?_ GE275.out|refine yu ?_ GE304.out|refine yu ?_ GE309.out)|exact HB.out)) hb);clear HO_5 HO_8 HO_25 HO_305007 BK275 BK304 BK309 HB;have HO_5:=n0_;have HO_8:=n1_;have HO_25:=n2_;have HO_305007:=n3_;have HO321:=n4_;have BK275:=n5_;have BK304:=n6_;have BK309:=n7_;have HB:=n8_;clear n0_ n1_ n2_ n3_ n4_ n5_ n6_ n7_ n8_;(try clear hb);(try clear hb2);(try clear hk);(try clear hi);(try clear ho0);have hnb42:=NB304_275.out;have hnc42:=NB275_304.out;have hcz43_0:w41.cell? ⟨gb304,0,none⟩=some (.string x305000_4):=(yg BK304.out 0).trans rfl;have hcz43_1:w41.cell? ⟨gb304,1,none⟩=some (.int .i64 x305001_4):=(yg BK304.out 1).trans rfl;have hcz43_2:w41.cell? ⟨gb304,2,none⟩=some (.bool x305002_4):=(yg BK304.out 2).trans rfl;have hcz43_3:w41.cell? ⟨gb304,3,none⟩=some (.int .i64 x305003_4):=(yg BK304.out 3).trans rfl;have hcz43_4:w41.cell? ⟨gb304,4,none⟩=some (.int .u64 x305004_4):=(yg BK304.out 4).trans rfl;have hcz43_5:w41.cell? ⟨gb304,5,none⟩=some (.float .f64 x305005_4):=(yg BK304.out 5).trans rfl;have hcz43_6:w41.cell? ⟨gb304,6,none⟩=some (.string x305006_4):=(yg BK304.out 6).trans rfl;have hcz43_7:w41.cell? ⟨gb304,7,none⟩=some (u305007):=(yg BK304.out 7).trans rfl;have hfz43_0:=yf BK304.out 0;have hfz43_1:=yf BK304.out 1;have hfz43_2:=yf BK304.out 2;have hfz43_3:=yf BK304.out 3;have hfz43_4:=yf BK304.out 4;have hfz43_5:=yf BK304.out 5;have hfz43_6:=yf BK304.out 6;have hfz43_7:=yf BK304.out 7;obtain ⟨Ao44,co44,eo44⟩:=Kd.QH HO321.out;subst eo44))
                                       go_roundg k4
                                       case measure=>have:=HK1.out;have:=HK2.out;have:=HK3.out;have:=HK4.out;omega
                                       case rel=>exact ⟨(wrap64 (x42_4+1)),(t312),(t313),(t314),(t315),(t316),(t317),(t318),(t319),(.slice Ao44 t319.length co44),(by first|rfl|(simp;done)|(simp [*];done)|(simp [yn];done)),H',⟨by have:=HK1.out;have:=HK2.out;have:=HK3.out;have:=HK4.out;omega⟩,⟨by refine Zn ?_;exact Kd.YC (Kd.YO (p:=⟨gb304,7,none⟩) (Kd.YO (p:=⟨gb304,6,none⟩) (Kd.YO (p:=⟨gb304,5,none⟩) (Kd.YO (p:=⟨gb304,4,none⟩) (Kd.YO (p:=⟨gb304,3,none⟩) (Kd.YO (p:=⟨gb304,2,none⟩) (Kd.YO (p:=⟨gb304,1,none⟩) (Kd.YO (p:=⟨gb304,0,none⟩) (Kd.YC HO_5.out (fun k_ hk=>(⟨hk,hk.1.2.2.2.2.2.1⟩:_∧k_≠gb304))) (fun _ hk=>hk.2) (.string t312)) (fun _ hk=>hk.2) (.int .i64 t313)) (fun _ hk=>hk.2) (.bool t314)) (fun _ hk=>hk.2) (.int .i64 t315)) (fun _ hk=>hk.2) (.int .u64 t316)) (fun _ hk=>hk.2) (.float .f64 t317)) (fun _ hk=>hk.2) (.string t318)) (fun _ hk=>hk.2) (.slice Ao44 t319.length co44)) (fun _ hk=>⟨hk.1.1.1,⟨hk.1.1.2.1,⟨hk.1.1.2.2.1,⟨hk.1.2,⟨hk.1.1.2.2.2.2.1,⟨hk.1.1.2.2.2.2.2.1,hk.1.1.2.2.2.2.2.2⟩⟩⟩⟩⟩⟩)⟩,⟨by refine Zn ?_;exact Kd.YC (Kd.YO (p:=⟨gb304,7,none⟩) (Kd.YO (p:=⟨gb304,6,none⟩) (Kd.YO (p:=⟨gb304,5,none⟩) (Kd.YO (p:=⟨gb304,4,none⟩) (Kd.YO (p:=⟨gb304,3,none⟩) (Kd.YO (p:=⟨gb304,2,none⟩) (Kd.YO (p:=⟨gb304,1,none⟩) (Kd.YO (p:=⟨gb304,0,none⟩) (Kd.YC HO_8.out (fun k_ hk=>(⟨hk,hk.1.2.2.2.2.2.1⟩:_∧k_≠gb304))) (fun _ hk=>hk.2) (.string t312)) (fun _ hk=>hk.2) (.int .i64 t313)) (fun _ hk=>hk.2) (.bool t314)) (fun _ hk=>hk.2) (.int .i64 t315)) (fun _ hk=>hk.2) (.int .u64 t316)) (fun _ hk=>hk.2) (.float .f64 t317)) (fun _ hk=>hk.2) (.string t318)) (fun _ hk=>hk.2) (.slice Ao44 t319.length co44)) (fun _ hk=>⟨hk.1.1.1,⟨hk.1.1.2.1,⟨hk.1.1.2.2.1,⟨hk.1.2,⟨hk.1.1.2.2.2.2.1,⟨hk.1.1.2.2.2.2.2.1,hk.1.1.2.2.2.2.2.2⟩⟩⟩⟩⟩⟩)⟩,⟨by refine Zr ?_;exact Kd.Yr (Kd.YN (p:=⟨gb304,7,none⟩) (Kd.YN (p:=⟨gb304,6,none⟩) (Kd.YN (p:=⟨gb304,5,none⟩) (Kd.YN (p:=⟨gb304,4,none⟩) (Kd.YN (p:=⟨gb304,3,none⟩) (Kd.YN (p:=⟨gb304,2,none⟩) (Kd.YN (p:=⟨gb304,1,none⟩) (Kd.YN (p:=⟨gb304,0,none⟩) (Kd.qI HO_25.out BK304.out Zd) (fun _ hk=>hk.2) (.string t312)) (fun _ hk=>hk.2) (.int .i64 t313)) (fun _ hk=>hk.2) (.bool t314)) (fun _ hk=>hk.2) (.int .i64 t315)) (fun _ hk=>hk.2) (.int .u64 t316)) (fun _ hk=>hk.2) (.float .f64 t317)) (fun _ hk=>hk.2) (.string t318)) (fun _ hk=>hk.2) (.slice Ao44 t319.length co44)) (fun _ hk=>hk.1)⟩,⟨by refine Zn ?_;exact Kd.YC (Kd.YO (p:=⟨gb304,7,none⟩) (Kd.YO (p:=⟨gb304,6,none⟩) (Kd.YO (p:=⟨gb304,5,none⟩) (Kd.YO (p:=⟨gb304,4,none⟩) (Kd.YO (p:=⟨gb304,3,none⟩) (Kd.YO (p:=⟨gb304,2,none⟩) (Kd.YO (p:=⟨gb304,1,none⟩) (Kd.YO (p:=⟨gb304,0,none⟩) (Kd.YC HO321.out (fun k_ hk=>(⟨hk,hk.2.2.2.2.2.2.1⟩:_∧k_≠gb304))) (fun _ hk=>hk.2) (.string t312)) (fun _ hk=>hk.2) (.int .i64 t313)) (fun _ hk=>hk.2) (.bool t314)) (fun _ hk=>hk.2) (.int .i64 t315)) (fun _ hk=>hk.2) (.int .u64 t316)) (fun _ hk=>hk.2) (.float .f64 t317)) (fun _ hk=>hk.2) (.string t318)) (fun _ hk=>hk.2) (.slice Ao44 t319.length co44)) (fun _ hk=>⟨hk.1.1,⟨hk.1.2.1,⟨hk.1.2.2.1,⟨hk.1.2.2.2.1,⟨hk.1.2.2.2.2.2.1,⟨hk.1.2.2.2.2.2.2.1,hk.1.2.2.2.2.2.2.2⟩⟩⟩⟩⟩⟩)⟩,⟨by refine Zb ?_;refine yH ?_ NB275_304.out _;refine Zb ?_;refine yH ?_ NB275_304.out _;refine Zb ?_;refine yH ?_ NB275_304.out _;refine Zb ?_;refine yH ?_ NB275_304.out _;refine Zb ?_;refine yH ?_ NB275_304.out _;refine Zb ?_;refine yH ?_ NB275_304.out _;refine Zb ?_;refine yH ?_ NB275_304.out _;refine Zb ?_;refine yH ?_ NB275_304.out _;refine Zb ?_;exact BK275.out⟩,⟨by refine Zb ?_;refine yy (cs:=#[.string t312,.int .i64 t313,.bool t314,.int .i64 t315,.int .u64 t316,.float .f64 t317,.string t318,u305007]) ?_ 7 _ rfl;refine Zb ?_;refine yy (cs:=#[.string t312,.int .i64 t313,.bool t314,.int .i64 t315,.int .u64 t316,.float .f64 t317,.string x305006_4,u305007]) ?_ 6 _ rfl;refine Zb ?_;refine yy (cs:=#[.string t312,.int .i64 t313,.bool t314,.int .i64 t315,.int .u64 t316,.float .f64 x305005_4,.string x305006_4,u305007]) ?_ 5 _ rfl;refine Zb ?_;refine yy (cs:=#[.string t312,.int .i64 t313,.bool t314,.int .i64 t315,.int .u64 x305004_4,.float .f64 x305005_4,.string x305006_4,u305007]) ?_ 4 _ rfl;refine Zb ?_;refine yy (cs:=#[.string t312,.int .i64 t313,.bool t314,.int .i64 x305003_4,.int .u64 x305004_4,.float .f64 x305005_4,.string x305006_4,u305007]) ?_ 3 _ rfl;refine Zb ?_;refine yy (cs:=#[.string t312,.int .i64 t313,.bool x305002_4,.int .i64 x305003_4,.int .u64 x305004_4,.float .f64 x305005_4,.string x305006_4,u305007]) ?_ 2 _ rfl;refine Zb ?_;refine yy (cs:=#[.string t312,.int .i64 x305001_4,.bool x305002_4,.int .i64 x305003_4,.int .u64 x305004_4,.float .f64 x305005_4,.string x305006_4,u305007]) ?_ 1 _ rfl;refine Zb ?_;refine yy (cs:=#[.string x305000_4,.int .i64 x305001_4,.bool x305002_4,.int .i64 x305003_4,.int .u64 x305004_4,.float .f64 x305005_4,.string x305006_4,u305007]) ?_ 0 _ rfl;refine Zb ?_;exact BK304.out⟩,⟨by refine Zb ?_;refine yH ?_ NB309_304.out _;refine Zb ?_;refine yH ?_ NB309_304.out _;refine Zb ?_;refine yH ?_ NB309_304.out _;refine Zb ?_;refine yH ?_ NB309_304.out _;refine Zb ?_;refine yH ?_ NB309_304.out _;refine Zb ?_;refine yH ?_ NB309_304.out _;refine Zb ?_;refine yH ?_ NB309_304.out _;refine Zb ?_;refine yH ?_ NB309_304.out _;refine Zb ?_;exact BK309.out⟩,⟨by repeat (first|(with_reducible first|exact HB.out|apply yl|apply ym|apply yp|refine yu ?_ GE275.out|refine yu ?_ GE304.out|refine yu ?_ GE309.out)|exact HB.out)⟩⟩
                                     · rw [if_neg c36] at H
                                       exact absurd H (by simp)
                                   · rw [if_neg c35] at H
                                     have c35b0:((yU ByteArray.empty ((yj l0 x35_3).f2) x42_4).toList == (yU ByteArray.empty t290 x27_2).toList)=false:=beq_eq_false_iff_ne.mpr c35
                                     have c35b1:((yU ByteArray.empty ((yj l0 x35_3).f2) x42_4).toList != (yU ByteArray.empty t290 x27_2).toList)=true:=bne_iff_ne.mpr c35
                                     have H':=yc.mk H
                                     clear H
                                     have p310:0≤(x42_4:Int):=of_decide_eq_true (by first|(with_reducible assumption)|assumption)
                                     have q310:x42_4<(((yj l0 x35_3).f2).length:Int):=of_decide_eq_true (by first|(with_reducible assumption)|assumption)
                                     obtain ⟨ad310,e310,hx310_0⟩:=Kd.YH HR308_2.out x42_4 p310 q310
                                     cases e310
                                     replace hx310_0:=(HB.out.cell (World.block_lt_of_cell? w _ hx310_0)).trans hx310_0
                                     replace p310:=eq_true p310
                                     replace q310:=eq_true q310
                                     have hnb45:=NB309_275.out
                                     have hnc45:=NB275_309.out
                                     have hnb46:=NB309_304.out
                                     have hnc46:=NB304_309.out
                                     have hcz47_0:wr.cell? ⟨gb309,0,none⟩=some (.string ((yj l0 x35_3).f0)):=(yg BK309.out 0).trans rfl
                                     have hcz47_1:wr.cell? ⟨gb309,1,none⟩=some (.slice A308_1 ((yj l0 x35_3).f1).length c308_1):=(yg BK309.out 1).trans rfl
                                     have hcz47_2:wr.cell? ⟨gb309,2,none⟩=some (.slice (some ad310) ((yj l0 x35_3).f2).length c308_2):=(yg BK309.out 2).trans rfl
                                     have hfz47_0:=yf BK309.out 0
                                     have hfz47_1:=yf BK309.out 1
                                     have hfz47_2:=yf BK309.out 2
                                     go_wp2
                                     go_roundg k4
                                     case measure=>have:=HK1.out;have:=HK2.out;have:=HK3.out;have:=HK4.out;omega
                                     case rel=>exact ⟨(wrap64 (x42_4+1)),(x305000_4),(x305001_4),(x305002_4),(x305003_4),(x305004_4),(x305005_4),(x305006_4),(x305007_4),(u305007),(by first|rfl|(simp;done)|(simp [*];done)|(simp [yn];done)),H',⟨by have:=HK1.out;have:=HK2.out;have:=HK3.out;have:=HK4.out;omega⟩,⟨by refine Zn ?_;exact HO_5.out⟩,⟨by refine Zn ?_;exact HO_8.out⟩,⟨by refine Zr ?_;exact HO_25.out⟩,⟨by refine Zn ?_;exact HO_305007.out⟩,⟨by refine Zb ?_;exact BK275.out⟩,⟨by refine Zb ?_;exact BK304.out⟩,⟨by refine Zb ?_;exact BK309.out⟩,⟨by repeat (first|(with_reducible first|exact HB.out|apply yl|apply ym|apply yp|refine yu ?_ GE275.out|refine yu ?_ GE304.out|refine yu ?_ GE309.out)|exact HB.out)⟩⟩
                                 · rw [if_neg c34] at H
                                   have c34b0:(((yj l0 x35_3).f0).toList == (yU ByteArray.empty l1 x20_1).toList)=false:=beq_eq_false_iff_ne.mpr c34
                                   have c34b1:(((yj l0 x35_3).f0).toList != (yU ByteArray.empty l1 x20_1).toList)=true:=bne_iff_ne.mpr c34
                                   have H':=yc.mk H
                                   clear H
                                   have p310:0≤(x42_4:Int):=of_decide_eq_true (by first|(with_reducible assumption)|assumption)
                                   have q310:x42_4<(((yj l0 x35_3).f2).length:Int):=of_decide_eq_true (by first|(with_reducible assumption)|assumption)
                                   obtain ⟨ad310,e310,hx310_0⟩:=Kd.YH HR308_2.out x42_4 p310 q310
                                   cases e310
                                   replace hx310_0:=(HB.out.cell (World.block_lt_of_cell? w _ hx310_0)).trans hx310_0
                                   replace p310:=eq_true p310
                                   replace q310:=eq_true q310
                                   have hnb48:=NB309_275.out
                                   have hnc48:=NB275_309.out
                                   have hnb49:=NB309_304.out
                                   have hnc49:=NB304_309.out
                                   have hcz50_0:wr.cell? ⟨gb309,0,none⟩=some (.string ((yj l0 x35_3).f0)):=(yg BK309.out 0).trans rfl
                                   have hcz50_1:wr.cell? ⟨gb309,1,none⟩=some (.slice A308_1 ((yj l0 x35_3).f1).length c308_1):=(yg BK309.out 1).trans rfl
                                   have hcz50_2:wr.cell? ⟨gb309,2,none⟩=some (.slice (some ad310) ((yj l0 x35_3).f2).length c308_2):=(yg BK309.out 2).trans rfl
                                   have hfz50_0:=yf BK309.out 0
                                   have hfz50_1:=yf BK309.out 1
                                   have hfz50_2:=yf BK309.out 2
                                   go_wp2
                                   go_roundg k4
                                   case measure=>have:=HK1.out;have:=HK2.out;have:=HK3.out;have:=HK4.out;omega
                                   case rel=>exact ⟨(wrap64 (x42_4+1)),(x305000_4),(x305001_4),(x305002_4),(x305003_4),(x305004_4),(x305005_4),(x305006_4),(x305007_4),(u305007),(by first|rfl|(simp;done)|(simp [*];done)|(simp [yn];done)),H',⟨by have:=HK1.out;have:=HK2.out;have:=HK3.out;have:=HK4.out;omega⟩,⟨by refine Zn ?_;exact HO_5.out⟩,⟨by refine Zn ?_;exact HO_8.out⟩,⟨by refine Zr ?_;exact HO_25.out⟩,⟨by refine Zn ?_;exact HO_305007.out⟩,⟨by refine Zb ?_;exact BK275.out⟩,⟨by refine Zb ?_;exact BK304.out⟩,⟨by refine Zb ?_;exact BK309.out⟩,⟨by repeat (first|(with_reducible first|exact HB.out|apply yl|apply ym|apply yp|refine yu ?_ GE275.out|refine yu ?_ GE304.out|refine yu ?_ GE309.out)|exact HB.out)⟩⟩
                               · rw [if_neg c33] at H
                                 exact absurd H (by simp)
                             · rw [if_neg c32] at H
                               exact absurd H (by simp)
                           · rw [if_neg c31] at H
                             have c31b0:decide (x42_4<(((yj l0 x35_3).f2).length:Int))=false:=decide_eq_false c31
                             clear c31
                             have H':=yc.mk H
                             clear H
                             go_wp2
                             go_roundg k4
                             case measure=>have:=HK1.out;have:=HK2.out;have:=HK3.out;have:=HK4.out;omega
                             case rel=>exact ⟨(wrap64 (x35_3+1)),(x305000_4),(x305001_4),(x305002_4),(x305003_4),(x305004_4),(x305005_4),(x305006_4),(x305007_4),(u305007),(by first|rfl|(simp;done)|(simp [*];done)|(simp [yn];done)),H',⟨by have:=HK1.out;have:=HK2.out;have:=HK3.out;have:=HK4.out;omega⟩,⟨by refine Zn ?_;exact Kd.YC HO_5.out (fun _ hk=>⟨hk.1,⟨hk.2.1,⟨hk.2.2.1,⟨hk.2.2.2.1,⟨hk.2.2.2.2.1,hk.2.2.2.2.2.1⟩⟩⟩⟩⟩)⟩,⟨by refine Zn ?_;exact Kd.YC HO_8.out (fun _ hk=>⟨hk.1,⟨hk.2.1,⟨hk.2.2.1,⟨hk.2.2.2.1,⟨hk.2.2.2.2.1,hk.2.2.2.2.2.1⟩⟩⟩⟩⟩)⟩,⟨by refine Zr ?_;exact HO_25.out⟩,⟨by refine Zn ?_;exact Kd.YC HO_305007.out (fun _ hk=>⟨hk.1,⟨hk.2.1,⟨hk.2.2.1,⟨hk.2.2.2.1,⟨hk.2.2.2.2.1,hk.2.2.2.2.2.1⟩⟩⟩⟩⟩)⟩,⟨by refine Zb ?_;exact BK275.out⟩,⟨by refine Zb ?_;exact BK304.out⟩,⟨by repeat (first|(with_reducible first|exact HB.out|apply yl|apply ym|apply yp|refine yu ?_ GE275.out|refine yu ?_ GE304.out|refine yu ?_ GE309.out)|exact HB.out)⟩⟩
                       · rw [if_neg c26] at H
                         exact absurd H (by simp)
                     · rw [if_neg c25] at H
                       exact absurd H (by simp)
                   · rw [if_neg c24] at H
                     have c24b0:decide (x35_3<(l0.length:Int))=false:=decide_eq_false c24
                     clear c24
                     by_cases c51:x8_2.length<1466015503701
                     · rw [if_pos c51] at H
                       have LMc51:=yc.mk c51
                       clear c51
                       obtain ⟨y305,hy305⟩:∃ y_:List (S38),y_=(x8_2++[(⟨x305000_3,x305001_3,x305002_3,x305003_3,x305004_3,x305005_3,x305006_3,x305007_3⟩:S38)]):=⟨_,rfl⟩
                       replace H:(yo.l1 k3 l0 x5_1 (yU ByteArray.empty l1 x20_1) y305 l1 (l1.length:Int) x20_1 t290 (t290.length:Int) (wrap64 (x27_2+1)))=some (r1,r2,r3,r4,r5,r6,r7,r8):=by first|(rw [hy305];with_reducible exact H)|(have H2_:=(Option.bind_some _ _).symm.trans H;rw [hy305];with_reducible exact H2_)|(have H2_:=(Option.bind_some _ _).symm.trans H;with_reducible exact H2_)|with_reducible exact H|(rw [hy305];exact H)|exact H
                       have Ny305:=yc.mk hy305
                       clear hy305
                       have H':=yc.mk H
                       clear H
                       have hnb52:=NB304_275.out
                       have hnc52:=NB275_304.out
                       have hcz53_0:wr.cell? ⟨gb304,0,none⟩=some (.string x305000_3):=(yg BK304.out 0).trans rfl
                       have hcz53_1:wr.cell? ⟨gb304,1,none⟩=some (.int .i64 x305001_3):=(yg BK304.out 1).trans rfl
                       have hcz53_2:wr.cell? ⟨gb304,2,none⟩=some (.bool x305002_3):=(yg BK304.out 2).trans rfl
                       have hcz53_3:wr.cell? ⟨gb304,3,none⟩=some (.int .i64 x305003_3):=(yg BK304.out 3).trans rfl
                       have hcz53_4:wr.cell? ⟨gb304,4,none⟩=some (.int .u64 x305004_3):=(yg BK304.out 4).trans rfl
                       have hcz53_5:wr.cell? ⟨gb304,5,none⟩=some (.float .f64 x305005_3):=(yg BK304.out 5).trans rfl
                       have hcz53_6:wr.cell? ⟨gb304,6,none⟩=some (.string x305006_3):=(yg BK304.out 6).trans rfl
                       have hcz53_7:wr.cell? ⟨gb304,7,none⟩=some (u305007):=(yg BK304.out 7).trans rfl
                       have hfz53_0:=yf BK304.out 0
                       have hfz53_1:=yf BK304.out 1
                       have hfz53_2:=yf BK304.out 2
                       have hfz53_3:=yf BK304.out 3
                       have hfz53_4:=yf BK304.out 4
                       have hfz53_5:=yf BK304.out 5
                       have hfz53_6:=yf BK304.out 6
                       have hfz53_7:=yf BK304.out 7
                       obtain ⟨Ao55,co55,eo55⟩:=Kd.QH HO_305007.out
                       subst eo55
                       go_wp2_with (first|((with_reducible refine Jl (b:=.append) (xs:=#[.tmp 67,.tmp 69]) rfl ?_);at_builtin;refine Kd.ycV k38 (w0:=w) w.heap.size rfl (.tmp 67) (.tmp 69) 36 38 (.agg #[(.string ⟨#[]⟩),(.int .i64 0),(.bool false),(.int .i64 0),(.int .u64 0),(.float .f64 0),(.string ⟨#[]⟩),(.slice none 0 0)]) 96 rfl Tryz.underlying36 info38 rfl Zd Zo u8 x8_2 (⟨x305000_3,x305001_3,x305002_3,x305003_3,x305004_3,x305005_3,x305006_3,x305007_3⟩:S38) [.string x305000_3,.int .i64 x305001_3,.bool x305002_3,.int .i64 x305003_3,.int .u64 x305004_3,.float .f64 x305005_3,.string x305006_3,.slice Ao55 x305007_3.length co55] (fun k_=>(w.heap.size≤k_)∧some k_≠(u5:Value).ownBlock∧some k_≠(.slice (some ad293) t290.length co14:Value).ownBlock∧k_≠gb275∧k_≠gb304) (fun k_=>((fun k_=>(w.heap.size≤k_)∧some k_≠(u5:Value).ownBlock∧some k_≠(.slice (some ad293) t290.length co14:Value).ownBlock∧k_≠gb275∧k_≠gb304)) k_∧some k_≠(u8:Value).ownBlock) rfl rfl ?aP (fun _ hk=>hk) ?aF ?aO ?aB ?aS ?aL ?_;(case aP=>exact (k38_mkF _ _ (⟨x305000_3,x305001_3,x305002_3,x305003_3,x305004_3,x305005_3,x305006_3,x305007_3⟩:S38) (Kd.Qp (Kd.YC (ok':=(fun k_=>((fun k_=>(w.heap.size≤k_)∧some k_≠(u5:Value).ownBlock∧some k_≠(.slice (some ad293) t290.length co14:Value).ownBlock∧k_≠gb275∧k_≠gb304)) k_∧some k_≠(u8:Value).ownBlock)) (HO_305007.out) (fun k_ hk=>⟨⟨hk.1,⟨hk.2.1,⟨hk.2.2.2.1,⟨hk.2.2.2.2.1,hk.2.2.2.2.2⟩⟩⟩⟩,hk.2.2.1⟩))).2.1 (Kd.N_F (Kd.YC (ok':=(fun k_=>((fun k_=>(w.heap.size≤k_)∧some k_≠(u5:Value).ownBlock∧some k_≠(.slice (some ad293) t290.length co14:Value).ownBlock∧k_≠gb275∧k_≠gb304)) k_∧some k_≠(u8:Value).ownBlock)) (HO_305007.out) (fun k_ hk=>⟨⟨hk.1,⟨hk.2.1,⟨hk.2.2.2.1,⟨hk.2.2.2.2.1,hk.2.2.2.2.2⟩⟩⟩⟩,hk.2.2.1⟩)))));(case aB=>exact (Zg2 GE275.out GE304.out));(case aF=>exact (fun k_ hk=>⟨(Nat.le_trans (yt (Zg2 GE275.out GE304.out)) hk),Kd.fresh' (Kd.N_lt (Zn HO_5.out)) k_ hk,Kd.fresh' (Kd.R_lt (Zr HO_25.out)) k_ hk,Kd.JZ (g:=gb275) (o:=.cells #[.string (⟨#[]⟩:ByteArray),.int .i64 0,.bool false,.int .i64 0,.int .u64 0,.float .f64 0,.string (⟨#[]⟩:ByteArray),.slice none 0 0] 38 (0,0)) (Zb BK275.out) k_ hk,Kd.JZ (g:=gb304) (o:=.cells #[.string x305000_3,.int .i64 x305001_3,.bool x305002_3,.int .i64 x305003_3,.int .u64 x305004_3,.float .f64 x305005_3,.string x305006_3,.slice Ao55 x305007_3.length co55] 38 (0,0)) (Zb BK304.out) k_ hk⟩));(case aO=>exact (by refine Zn ?_;exact Kd.YC HO_8.out (fun _ hk=>⟨hk.1,⟨hk.2.1,⟨hk.2.2.1,⟨hk.2.2.2.2.1,hk.2.2.2.2.2⟩⟩⟩⟩)));(case aS=>exact (yt (Zg2 GE275.out GE304.out)));(case aL=>have:=LMc51.out;omega);intro v306 w54 ho hb hg hat;rw [← Ny305.out] at ho;have n0_:=yc.mk (Kd.ycU (ok:=(fun k_=>(w.heap.size≤k_)∧some k_≠(.slice (some ad293) t290.length co14:Value).ownBlock∧some k_≠(.slice Ao55 x305007_3.length co55:Value).ownBlock∧k_≠gb275∧k_≠gb304)) (by refine Zn ?_;exact Kd.YC HO_5.out (fun _ hk=>⟨⟨hk.1,⟨hk.2.2.1,⟨hk.2.2.2.1,⟨hk.2.2.2.2.1,hk.2.2.2.2.2⟩⟩⟩⟩,hk.2.1⟩)) hg hat);have n1_:=yc.mk (Kd.ycG (Zr HO_25.out) (Kd.yao (Zn HO_8.out)) Zd hg);have n2_:=yc.mk (YV (g:=gb275) (o:=.cells #[.string (⟨#[]⟩:ByteArray),.int .i64 0,.bool false,.int .i64 0,.int .u64 0,.float .f64 0,.string (⟨#[]⟩:ByteArray),.slice none 0 0] 38 (0,0)) (Zb BK275.out) hg (Kd.N_away HO_8.out (fun _ hk=>hk.2.2.2.2.1)));have n3_:=yc.mk (YV (g:=gb304) (o:=.cells #[.string x305000_3,.int .i64 x305001_3,.bool x305002_3,.int .i64 x305003_3,.int .u64 x305004_3,.float .f64 x305005_3,.string x305006_3,.slice Ao55 x305007_3.length co55] 38 (0,0)) (Zb BK304.out) hg (Kd.N_away HO_8.out (fun _ hk=>hk.2.2.2.2.2)));have n4_:=yc.mk (hb);have n5_:=yc.mk (ho);clear HO_5 HO_25 BK275 BK304 HB HO_8 HO_305007;have HO_5:=n0_;have HO_25:=n1_;have BK275:=n2_;have BK304:=n3_;have HB:=n4_;have HO307:=n5_;clear n0_ n1_ n2_ n3_ n4_ n5_;clear ho hb hg hat))
                       go_roundg k3
                       case measure=>have:=HK1.out;have:=HK2.out;have:=HK3.out;omega
                       case rel=>exact ⟨(y305),(wrap64 (x27_2+1)),(by first|rfl|(simp;done)|(simp [*];done)|(simp [yn];done)),H',⟨by have:=HK1.out;have:=HK2.out;have:=HK3.out;omega⟩,⟨by refine Zn ?_;exact Kd.YC HO_5.out (fun _ hk=>⟨hk.1.1,⟨hk.2,⟨hk.1.2.1,hk.1.2.2.2.1⟩⟩⟩)⟩,⟨by refine Zn ?_;exact Kd.YC HO307.out (fun _ hk=>⟨hk.1,⟨hk.2.1,⟨hk.2.2.1,hk.2.2.2.1⟩⟩⟩)⟩,⟨by refine Zr ?_;exact HO_25.out⟩,⟨by refine Zb ?_;exact BK275.out⟩,⟨by repeat (first|(with_reducible first|exact HB.out|apply yl|apply ym|apply yp|refine yu ?_ GE275.out|refine yu ?_ GE304.out)|exact HB.out)⟩⟩
                     · rw [if_neg c51] at H
                       exact absurd H (by simp)
               · rw [if_neg c17] at H
                 exact absurd H (by simp)
             · rw [if_neg c16] at H
               exact absurd H (by simp)
           · rw [if_neg c15] at H
             have c15b0:decide (x27_2<(t290.length:Int))=false:=decide_eq_false c15
             clear c15
             replace H:=Option.bind_eq_some_iff.mp H
             obtain ⟨⟨t322,t323,t324,t325,t326,t327,t328,t329⟩,A560,H⟩:=H
             replace H:(if x5_1.length<1466015503701 then (yo.l0 k2 l0 (x5_1++[(⟨t322,t323,t324,t325,t326,t327,t328,t329⟩:S38)]) l1 (l1.length:Int) (wrap64 (x20_1+1))) else (none))=some (r1,r2,r3,r4,r5,r6,r7,r8):=H
             have A56:=yc.mk A560
             clear A560
             by_cases c57:x5_1.length<1466015503701
             · rw [if_pos c57] at H
               have LMc57:=yc.mk c57
               clear c57
               obtain ⟨y332,hy332⟩:∃ y_:List (S38),y_=(x5_1++[(⟨t322,t323,t324,t325,t326,t327,t328,t329⟩:S38)]):=⟨_,rfl⟩
               replace H:(yo.l0 k2 l0 y332 l1 (l1.length:Int) (wrap64 (x20_1+1)))=some (r1,r2,r3,r4,r5,r6,r7,r8):=by first|(rw [hy332];with_reducible exact H)|(have H2_:=(Option.bind_some _ _).symm.trans H;rw [hy332];with_reducible exact H2_)|(have H2_:=(Option.bind_some _ _).symm.trans H;with_reducible exact H2_)|with_reducible exact H|(rw [hy332];exact H)|exact H
               have Ny332:=yc.mk hy332
               clear hy332
               have H':=yc.mk H
               clear H
               obtain ⟨Ao58,co58,eo58⟩:=Kd.QH HO_8.out
               subst eo58
               go_wp2_with (first|((with_reducible refine yW (f:=36) rfl ?_);refine YD (some 75) rfl rfl Tryz.func36 Zk rfl #[.string (yU ByteArray.empty l1 x20_1),.slice Ao58 x8_2.length co58] rfl (by (try simp only [List.map_toArray,List.map_cons,List.map_nil]);first|done|rfl|(simp only [List.length_drop,List.length_take];rfl)) ?_;(with_reducible refine (JI.calls (yU ByteArray.empty l1 x20_1) (fun k_=>((w.heap.size≤k_)∧(some k_≠(u5:Value).ownBlock∧(some k_≠(.slice Ao14 t290.length co14:Value).ownBlock∧k_≠gb275)))) _ _ x8_2 t322 t323 t324 t325 t326 t327 t328 t329 _ ?side1 A56.out).mono ?_);(case side1=>exact Kd.N_V (HO_8.out));rintro e w59 ⟨v330,rfl,ho0,hb⟩;refine ⟨_,rfl,?_⟩;have n0_:=yc.mk (Kd.JO (Zn HO_5.out) hb);have n1_:=yc.mk (Kd.JO (Zn HO_8.out) hb);have n2_:=yc.mk (Kd.Y1 (Zr HO_25.out) hb);have n3_:=yc.mk (Kd.V_lower (Kd.Jf (ok':=fun k_=>(w.heap.size≤k_)∧some k_≠(u5:Value).ownBlock∧some k_≠(.slice Ao14 t290.length co14:Value).ownBlock∧k_≠gb275) ho0 (fun k_ hk_=>⟨Or.elim hk_ (fun hs_=>hs_.1) (fun hn_=>(Nat.le_trans (yt (Zg GE275.out)) hn_)),Or.elim hk_ (fun hs_=>hs_.2.1) (fun hn_=>(Kd.fresh' (Kd.N_lt (Zn HO_5.out)) k_ hn_)),Or.elim hk_ (fun hs_=>hs_.2.2.1) (fun hn_=>(Kd.fresh' (Kd.R_lt (Zr HO_25.out)) k_ hn_)),Or.elim hk_ (fun hs_=>hs_.2.2.2) (fun hn_=>(Kd.JZ (g:=gb275) (o:=.cells #[.string (⟨#[]⟩:ByteArray),.int .i64 0,.bool false,.int .i64 0,.int .u64 0,.float .f64 0,.string (⟨#[]⟩:ByteArray),.slice none 0 0] 38 (0,0)) (Zb BK275.out) k_ hn_))⟩)) (yt (Zg GE275.out)));have n4_:=yc.mk (yI (g:=gb275) (o:=.cells #[.string (⟨#[]⟩:ByteArray),.int .i64 0,.bool false,.int .i64 0,.int .u64 0,.float .f64 0,.string (⟨#[]⟩:ByteArray),.slice none 0 0] 38 (0,0)) (Zb BK275.out) hb);have n5_:=yc.mk (yw (Zg GE275.out) hb);clear HO_5 HO_8 HO_25 BK275 HB;have HO_5:=n0_;have HO_8:=n1_;have HO_25:=n2_;have HO331:=n3_;have BK275:=n4_;have HB:=n5_;clear n0_ n1_ n2_ n3_ n4_ n5_;(try clear hb);(try clear hb2);(try clear hk);(try clear hi);(try clear ho0);obtain ⟨Ao61,co61,eo61⟩:=Kd.V_slice HO331.out;subst eo61)|((with_reducible refine Jl (b:=.append) (xs:=#[.tmp 72,.tmp 76]) rfl ?_);at_builtin;refine Kd.ycV k38 (w0:=w) w.heap.size rfl (.tmp 72) (.tmp 76) 36 38 (.agg #[(.string ⟨#[]⟩),(.int .i64 0),(.bool false),(.int .i64 0),(.int .u64 0),(.float .f64 0),(.string ⟨#[]⟩),(.slice none 0 0)]) 96 rfl Tryz.underlying36 info38 rfl Zd Zo u5 x5_1 (⟨t322,t323,t324,t325,t326,t327,t328,t329⟩:S38) [.string t322,.int .i64 t323,.bool t324,.int .i64 t325,.int .u64 t326,.float .f64 t327,.string t328,.slice Ao61 t329.length co61] (fun k_=>(w.heap.size≤k_)∧some k_≠(.slice Ao14 t290.length co14:Value).ownBlock∧k_≠gb275) (fun k_=>((fun k_=>(w.heap.size≤k_)∧some k_≠(.slice Ao14 t290.length co14:Value).ownBlock∧k_≠gb275)) k_∧some k_≠(u5:Value).ownBlock) rfl rfl ?aP (fun _ hk=>hk) ?aF ?aO ?aB ?aS ?aL ?_;(case aP=>exact (k38_mkF _ _ (⟨t322,t323,t324,t325,t326,t327,t328,t329⟩:S38) (Kd.yaM (Kd.Jf (ok':=(fun k_=>((fun k_=>(w.heap.size≤k_)∧some k_≠(.slice Ao14 t290.length co14:Value).ownBlock∧k_≠gb275)) k_∧some k_≠(u5:Value).ownBlock)) (HO331.out) (fun k_ hk=>⟨⟨hk.1,⟨hk.2.2.1,hk.2.2.2⟩⟩,hk.2.1⟩))).2.1 (Kd.V_F (Kd.Jf (ok':=(fun k_=>((fun k_=>(w.heap.size≤k_)∧some k_≠(.slice Ao14 t290.length co14:Value).ownBlock∧k_≠gb275)) k_∧some k_≠(u5:Value).ownBlock)) (HO331.out) (fun k_ hk=>⟨⟨hk.1,⟨hk.2.2.1,hk.2.2.2⟩⟩,hk.2.1⟩)))));(case aB=>exact (Zg GE275.out));(case aF=>exact (fun k_ hk=>⟨(Nat.le_trans (yt (Zg GE275.out)) hk),Kd.fresh' (Kd.R_lt (Zr HO_25.out)) k_ hk,Kd.JZ (g:=gb275) (o:=.cells #[.string (⟨#[]⟩:ByteArray),.int .i64 0,.bool false,.int .i64 0,.int .u64 0,.float .f64 0,.string (⟨#[]⟩:ByteArray),.slice none 0 0] 38 (0,0)) (Zb BK275.out) k_ hk⟩));(case aO=>exact (by refine Zn ?_;exact Kd.YC HO_5.out (fun _ hk=>⟨hk.1,⟨hk.2.2.1,hk.2.2.2⟩⟩)));(case aS=>exact (yt (Zg GE275.out)));(case aL=>have:=LMc57.out;omega);intro v333 w60 ho hb hg hat;rw [← Ny332.out] at ho;have n0_:=yc.mk (Kd.ycU (ok:=(fun k_=>(w.heap.size≤k_)∧some k_≠(.slice Ao14 t290.length co14:Value).ownBlock∧k_≠gb275)) (by refine Zn ?_;exact Kd.YC HO_8.out (fun _ hk=>⟨⟨hk.1,⟨hk.2.2.1,hk.2.2.2⟩⟩,hk.2.1⟩)) hg hat);have n1_:=yc.mk (Kd.ycG (Zr HO_25.out) (Kd.yao (Zn HO_5.out)) Zd hg);have n2_:=yc.mk (YV (g:=gb275) (o:=.cells #[.string (⟨#[]⟩:ByteArray),.int .i64 0,.bool false,.int .i64 0,.int .u64 0,.float .f64 0,.string (⟨#[]⟩:ByteArray),.slice none 0 0] 38 (0,0)) (Zb BK275.out) hg (Kd.N_away HO_5.out (fun _ hk=>hk.2.2.2)));have n3_:=yc.mk (Kd.yaL (ok:=(fun k_=>(w.heap.size≤k_)∧some k_≠(.slice Ao14 t290.length co14:Value).ownBlock∧k_≠gb275)) (by refine Zv ?_;exact Kd.Jf HO331.out (fun _ hk=>⟨⟨hk.1,⟨hk.2.2.1,hk.2.2.2⟩⟩,hk.2.1⟩)) hg hat);have n4_:=yc.mk (hb);have n5_:=yc.mk (ho);clear HO_8 HO_25 BK275 HO331 HB HO_5;have HO_8:=n0_;have HO_25:=n1_;have BK275:=n2_;have HO331:=n3_;have HB:=n4_;have HO334:=n5_;clear n0_ n1_ n2_ n3_ n4_ n5_;clear ho hb hg hat))
               go_roundg k2
               case measure=>have:=HK1.out;have:=HK2.out;omega
               case rel=>exact ⟨(y332),(wrap64 (x20_1+1)),(by first|rfl|(simp;done)|(simp [*];done)|(simp [yn];done)),H',⟨by have:=HK1.out;have:=HK2.out;omega⟩,⟨by refine Zn ?_;exact Kd.YC HO334.out (fun _ hk=>⟨hk.1,hk.2.2⟩)⟩,⟨by refine Zb ?_;exact BK275.out⟩,⟨by repeat (first|(with_reducible first|exact HB.out|apply yl|apply ym|apply yp|refine yu ?_ GE275.out)|exact HB.out)⟩⟩
             · rw [if_neg c57] at H
               exact absurd H (by simp)
       · rw [if_neg c11] at H
         exact absurd H (by simp)
     · rw [if_neg c10] at H
       exact absurd H (by simp)
   · rw [if_neg c9] at H
     have c9b0:decide (x20_1<(l1.length:Int))=false:=decide_eq_false c9
     clear c9
     replace H:=Option.bind_eq_some_iff.mp H
     obtain ⟨⟨t335,t336,t337,t338,t339,t340,t341,t342⟩,A620,H⟩:=H
     replace H:(some (t335,t336,t337,t338,t339,t340,t341,t342))=some (r1,r2,r3,r4,r5,r6,r7,r8):=H
     have A62:=yc.mk A620
     clear A620
     simp only [Option.some.injEq,Prod.mk.injEq] at H
     obtain ⟨rfl,rfl,rfl,rfl,rfl,rfl,rfl,rfl⟩:=H
     obtain ⟨Ao63,co63,eo63⟩:=Kd.QH HO_5.out
     subst eo63
     go_wp2_with (first|((with_reducible refine yW (f:=36) rfl ?_);refine YD (some 80) rfl rfl Tryz.func36 Zk rfl #[.string (⟨#[]⟩:ByteArray),.slice Ao63 x5_1.length co63] rfl (by (try simp only [List.map_toArray,List.map_cons,List.map_nil]);first|done|rfl|(simp only [List.length_drop,List.length_take];rfl)) ?_;(with_reducible refine (JI.calls (⟨#[]⟩:ByteArray) (fun k_=>((w.heap.size≤k_)∧k_≠gb275)) _ _ x5_1 t335 t336 t337 t338 t339 t340 t341 t342 _ ?side1 A62.out).mono ?_);(case side1=>exact Kd.N_V (HO_5.out));rintro e w64 ⟨v343,rfl,ho0,hb⟩;refine ⟨_,rfl,?_⟩;have n0_:=yc.mk (Kd.JO (Zn HO_5.out) hb);have n1_:=yc.mk (Kd.V_lower (Kd.Jf (ok':=fun k_=>(w.heap.size≤k_)∧k_≠gb275) ho0 (fun k_ hk_=>⟨Or.elim hk_ (fun hs_=>hs_.1) (fun hn_=>(Nat.le_trans (yt (Zg GE275.out)) hn_)),Or.elim hk_ (fun hs_=>hs_.2) (fun hn_=>(Kd.JZ (g:=gb275) (o:=.cells #[.string (⟨#[]⟩:ByteArray),.int .i64 0,.bool false,.int .i64 0,.int .u64 0,.float .f64 0,.string (⟨#[]⟩:ByteArray),.slice none 0 0] 38 (0,0)) (Zb BK275.out) k_ hn_))⟩)) (yt (Zg GE275.out)));have n2_:=yc.mk (yI (g:=gb275) (o:=.cells #[.string (⟨#[]⟩:ByteArray),.int .i64 0,.bool false,.int .i64 0,.int .u64 0,.float .f64 0,.string (⟨#[]⟩:ByteArray),.slice none 0 0] 38 (0,0)) (Zb BK275.out) hb);have n3_:=yc.mk (yw (Zg GE275.out) hb);clear HO_5 BK275 HB;have HO_5:=n0_;have HO344:=n1_;have BK275:=n2_;have HB:=n3_;clear n0_ n1_ n2_ n3_;(try clear hb);(try clear hb2);(try clear hk);(try clear hi);(try clear ho0);have hcz65_0:w64.cell? ⟨gb275,0,none⟩=some (.string (⟨#[]⟩:ByteArray)):=(yg BK275.out 0).trans rfl;have hcz65_1:w64.cell? ⟨gb275,1,none⟩=some (.int .i64 0):=(yg BK275.out 1).trans rfl;have hcz65_2:w64.cell? ⟨gb275,2,none⟩=some (.bool false):=(yg BK275.out 2).trans rfl;have hcz65_3:w64.cell? ⟨gb275,3,none⟩=some (.int .i64 0):=(yg BK275.out 3).trans rfl;have hcz65_4:w64.cell? ⟨gb275,4,none⟩=some (.int .u64 0):=(yg BK275.out 4).trans rfl;have hcz65_5:w64.cell? ⟨gb275,5,none⟩=some (.float .f64 0):=(yg BK275.out 5).trans rfl;have hcz65_6:w64.cell? ⟨gb275,6,none⟩=some (.string (⟨#[]⟩:ByteArray)):=(yg BK275.out 6).trans rfl;have hcz65_7:w64.cell? ⟨gb275,7,none⟩=some (.slice none 0 0):=(yg BK275.out 7).trans rfl;have hfz65_0:=yf BK275.out 0;have hfz65_1:=yf BK275.out 1;have hfz65_2:=yf BK275.out 2;have hfz65_3:=yf BK275.out 3;have hfz65_4:=yf BK275.out 4;have hfz65_5:=yf BK275.out 5;have hfz65_6:=yf BK275.out 6;have hfz65_7:=yf BK275.out 7;obtain ⟨Ao66,co66,eo66⟩:=Kd.V_slice HO344.out;subst eo66))
     refine bodyPost_ret (results_cell_row rfl _ _ gb275 38 #[.string t335,.int .i64 t336,.bool t337,.int .i64 t338,.int .u64 t339,.float .f64 t340,.string t341,.slice Ao66 t342.length co66] (0,0) _ rfl (by refine Zb ?_;refine yy (cs:=#[.string t335,.int .i64 t336,.bool t337,.int .i64 t338,.int .u64 t339,.float .f64 t340,.string t341,.slice none 0 0]) ?_ 7 _ rfl;refine Zb ?_;refine yy (cs:=#[.string t335,.int .i64 t336,.bool t337,.int .i64 t338,.int .u64 t339,.float .f64 t340,.string (⟨#[]⟩:ByteArray),.slice none 0 0]) ?_ 6 _ rfl;refine Zb ?_;refine yy (cs:=#[.string t335,.int .i64 t336,.bool t337,.int .i64 t338,.int .u64 t339,.float .f64 0,.string (⟨#[]⟩:ByteArray),.slice none 0 0]) ?_ 5 _ rfl;refine Zb ?_;refine yy (cs:=#[.string t335,.int .i64 t336,.bool t337,.int .i64 t338,.int .u64 0,.float .f64 0,.string (⟨#[]⟩:ByteArray),.slice none 0 0]) ?_ 4 _ rfl;refine Zb ?_;refine yy (cs:=#[.string t335,.int .i64 t336,.bool t337,.int .i64 0,.int .u64 0,.float .f64 0,.string (⟨#[]⟩:ByteArray),.slice none 0 0]) ?_ 3 _ rfl;refine Zb ?_;refine yy (cs:=#[.string t335,.int .i64 t336,.bool false,.int .i64 0,.int .u64 0,.float .f64 0,.string (⟨#[]⟩:ByteArray),.slice none 0 0]) ?_ 2 _ rfl;refine Zb ?_;refine yy (cs:=#[.string t335,.int .i64 0,.bool false,.int .i64 0,.int .u64 0,.float .f64 0,.string (⟨#[]⟩:ByteArray),.slice none 0 0]) ?_ 1 _ rfl;refine Zb ?_;refine yy (cs:=#[.string (⟨#[]⟩:ByteArray),.int .i64 0,.bool false,.int .i64 0,.int .u64 0,.float .f64 0,.string (⟨#[]⟩:ByteArray),.slice none 0 0]) ?_ 0 _ rfl;refine Zb ?_;exact BK275.out) Tryz.underlying38 rfl Zk) rfl ?_
     exact ⟨_,by first|rfl|(simp [yK,yL] <;> rfl)|(simp [*,yK,yL] <;> rfl),by refine Zv ?_; exact Kd.Jf (Kd.JV (p:=⟨gb275,7,none⟩) (Kd.JV (p:=⟨gb275,6,none⟩) (Kd.JV (p:=⟨gb275,5,none⟩) (Kd.JV (p:=⟨gb275,4,none⟩) (Kd.JV (p:=⟨gb275,3,none⟩) (Kd.JV (p:=⟨gb275,2,none⟩) (Kd.JV (p:=⟨gb275,1,none⟩) (Kd.JV (p:=⟨gb275,0,none⟩) (Kd.Jf HO344.out (fun k_ hk=>(⟨hk,hk.2⟩:_∧k_≠gb275))) (fun _ hk=>hk.2) (.string t335)) (fun _ hk=>hk.2) (.int .i64 t336)) (fun _ hk=>hk.2) (.bool t337)) (fun _ hk=>hk.2) (.int .i64 t338)) (fun _ hk=>hk.2) (.int .u64 t339)) (fun _ hk=>hk.2) (.float .f64 t340)) (fun _ hk=>hk.2) (.string t341)) (fun _ hk=>hk.2) (.slice Ao66 t342.length co66)) (fun _ hk=>hk.1.1),by repeat (first|(with_reducible first|exact HB.out|apply yl|apply ym|apply yp|refine yu ?_ GE275.out)|exact HB.out)⟩
end Go.Proofs.YtlmennkeggmdbaaGreatDoor
