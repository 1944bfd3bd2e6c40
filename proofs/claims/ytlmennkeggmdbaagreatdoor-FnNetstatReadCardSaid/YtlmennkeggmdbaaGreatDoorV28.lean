/- Part 28 of 34 of the proof of the tied card of FnNetstatRead. -/
import Derived.Test.YtlmennkeggmdbaaGreatDoorVz
import Derived.Test.YtlmennkeggmdbaaGreatDoorV3
import Derived.Test.YtlmennkeggmdbaaGreatDoorV25
import Derived.Test.YtlmennkeggmdbaaGreatDoorV26
import Derived.Test.YtlmennkeggmdbaaGreatDoorV27
set_option linter.unusedVariables false
set_option linter.unusedSimpArgs false
namespace Go.Proofs.YtlmennkeggmdbaaGreatDoor
open Go.RowKit Go.Proofs.YtlmennkeggmdbaaGreatDoorW.PrintWords Go.Proofs.YtlmennkeggmdbaaGreatDoorW.PrintLast Go.Proofs.YtlmennkeggmdbaaGreatDoorW.PrintMore
attribute [local go_sem] Yt Yp YE YB Yj Yk Yu Yv
def Yf.f  : Option (List ByteArray):=some (([(⟨#[84,99,112,69,120,116]⟩:ByteArray),(⟨#[73,112,69,120,116]⟩:ByteArray)]:List ByteArray))
set_option maxHeartbeats 8000000 in
set_option maxRecDepth 100000 in
theorem Yf.calls  (r:List ByteArray) (w:World) (h:Yf.f  = some r) :
 Calls Tryz.prog 14 #[] w fun e w'=>∃ v0_:Value,e=.returned (v0_)∧Kd.R Kd.string 9 w' w.heap.size (fun _=>True) v0_ r∧Below w.heap.size w w':=by
 have HB:=yc.mk (Below.refl w.heap.size w)
 have H:(some (([(⟨#[84,99,112,69,120,116]⟩:ByteArray),(⟨#[73,112,69,120,116]⟩:ByteArray)]:List ByteArray)))=some r:=h
 clear h
 obtain ⟨y258,hy258⟩:∃ y_:List ByteArray,y_=(([(⟨#[84,99,112,69,120,116]⟩:ByteArray),(⟨#[73,112,69,120,116]⟩:ByteArray)]:List ByteArray)):=⟨_,rfl⟩
 replace H:(some y258)=some r:=by first|(rw [hy258];with_reducible exact H)|(have H2_:=(Option.bind_some _ _).symm.trans H;rw [hy258];with_reducible exact H2_)|(have H2_:=(Option.bind_some _ _).symm.trans H;with_reducible exact H2_)|with_reducible exact H|(rw [hy258];exact H)|exact H
 have Ny258:=yc.mk hy258
 clear hy258
 obtain rfl:=Option.some.inj H
 go_enter Tryz.func14,Tryz.ntmps14
 go_wp2_with (first|((with_reducible refine YX (N:=1) rfl ?_);refine Kd.R_lit Kd.string _ 9 ?hg (N:=1) ?hd (xs:=([(⟨#[84,99,112,69,120,116]⟩:ByteArray),(⟨#[73,112,69,120,116]⟩:ByteArray)]:List ByteArray)) (inner:=[.string (⟨#[84,99,112,69,120,116]⟩:ByteArray),.string (⟨#[73,112,69,120,116]⟩:ByteArray)]) (ok:=fun _=>True) (okp:=fun _=>True) ?hr ?hp (fun _ hk=>hk) trivial (Below.refl _ _) (Nat.le_refl _) (by simp) ?_;(case hd=>rfl);(case hg=>rfl);(case hr=>first|(go_simp;done)|(go_simp;rfl));(case hp=>exact (YM.one (show Kd.M Kd.string _ _ _ (⟨#[84,99,112,69,120,116]⟩:ByteArray) [.string (⟨#[84,99,112,69,120,116]⟩:ByteArray)] from rfl) (YM.one (show Kd.M Kd.string _ _ _ (⟨#[73,112,69,120,116]⟩:ByteArray) [.string (⟨#[73,112,69,120,116]⟩:ByteArray)] from rfl) (YM.none _ _))));intro v259 w1 ho2 hb hg_ hnew_;clear hg_ hnew_;(first|rw [← Ny258.out] at ho2|(simp only [Int.reduceToNat] at ho2;rw [← Ny258.out] at ho2));have n0_:=yc.mk (Kd.Ji ho2 (yt Zh));have n1_:=yc.mk (yw Zh hb);clear HB;have HO260:=n0_;have HB:=n1_;clear n0_ n1_;clear hb ho2))
 go_ret
 exact ⟨_,by first|rfl|(simp [yK,yL] <;> rfl)|(simp [*,yK,yL] <;> rfl),by refine Zr ?_; exact HO260.out,by repeat (first|(with_reducible first|exact HB.out|apply yl|apply ym|apply yp)|exact HB.out)⟩
end Go.Proofs.YtlmennkeggmdbaaGreatDoor
namespace Go.Proofs.YtlmennkeggmdbaaGreatDoor
open Go.RowKit Go.Proofs.YtlmennkeggmdbaaGreatDoorW.PrintWords Go.Proofs.YtlmennkeggmdbaaGreatDoorW.PrintLast Go.Proofs.YtlmennkeggmdbaaGreatDoorW.PrintMore
attribute [local go_sem] Yt Yp YE YB Yj Yk Yu Yv
def Y5.f (k:Nat) (a0:ByteArray):Option ((List (S71)) × Bool × Int):=(yh.f k a0).bind fun bt261=>(if bt261.2=true then ((Yf.f).bind fun t265=>((ye.f k bt261.1 t265).bind fun t268=>((Y7.f t268).bind fun t269=>(some (bt261.1,bt261.2,t269))))) else ((Y7.f false).bind fun t270=>(some (bt261.1,bt261.2,t270))))
theorem Y5.mono:∀ a0 k,LeO (Y5.f k a0) (Y5.f (k+1) a0):=by
 intro a0 k
 unfold Y5.f
 repeat' first
  | (with_reducible exact ye.mono _ _ _)
  | (with_reducible exact yh.mono _ _)
  | (with_reducible exact LeO.refl _)
  | (with_reducible exact LeO.none _)
  | (with_reducible refine LeO.ite ?_ ?_)
  | (with_reducible refine LeO.bind ?_ (fun _=>?_))
  | exact ye.mono _ _ _
  | exact yh.mono _ _
  | exact LeO.none _
  | refine LeO.ite ?_ ?_
  | refine LeO.bind ?_ (fun _=>?_)
set_option maxHeartbeats 8000000 in
set_option maxRecDepth 100000 in
theorem Y5.calls (k:Nat) (a0:ByteArray) (r1:List (S71)) (r2:Bool) (r3:Int) (w:World) (h:Y5.f k a0=some (r1,r2,r3)) :
 Calls Tryz.prog 5 #[.string a0] w fun e w'=>∃ v0_:Value,e=.returned (.tuple #[v0_,.bool r2,.int .i64 r3])∧Kd.N k71 71 w' w.heap.size (fun k_=>(w.heap.size≤k_)) v0_ r1∧Below w.heap.size w w':=by
 have HB:=yc.mk (Below.refl w.heap.size w)
 have H:((yh.f k a0).bind fun bt261=>(if bt261.2=true then ((Yf.f).bind fun t265=>((ye.f k bt261.1 t265).bind fun t268=>((Y7.f t268).bind fun t269=>(some (bt261.1,bt261.2,t269))))) else ((Y7.f false).bind fun t270=>(some (bt261.1,bt261.2,t270)))))=some (r1,r2,r3):=h
 clear h
 replace H:=Option.bind_eq_some_iff.mp H
 obtain ⟨⟨t261,t264⟩,A20,H⟩:=H
 replace H:(if t264=true then ((Yf.f).bind fun t265=>((ye.f k t261 t265).bind fun t268=>((Y7.f t268).bind fun t269=>(some (t261,t264,t269))))) else ((Y7.f false).bind fun t270=>(some (t261,t264,t270))))=some (r1,r2,r3):=H
 have A2:=yc.mk A20
 clear A20
 by_cases c3:t264=true
 · subst c3
   have H1:((Yf.f).bind fun t265=>((ye.f k t261 t265).bind fun t268=>((Y7.f t268).bind fun t269=>(some (t261,true,t269)))))=some (r1,r2,r3):=by rw [if_pos rfl] at H;exact H
   clear H
   have H:=H1
   clear H1
   replace H:=Option.bind_eq_some_iff.mp H
   obtain ⟨t265,A40,H⟩:=H
   replace H:((ye.f k t261 t265).bind fun t268=>((Y7.f t268).bind fun t269=>(some (t261,true,t269))))=some (r1,r2,r3):=H
   have A4:=yc.mk A40
   clear A40
   replace H:=Option.bind_eq_some_iff.mp H
   obtain ⟨t268,A50,H⟩:=H
   replace H:((Y7.f t268).bind fun t269=>(some (t261,true,t269)))=some (r1,r2,r3):=H
   have A5:=yc.mk A50
   clear A50
   replace H:=Option.bind_eq_some_iff.mp H
   obtain ⟨t269,A60,H⟩:=H
   replace H:(some (t261,true,t269))=some (r1,r2,r3):=H
   have A6:=yc.mk A60
   clear A60
   simp only [Option.some.injEq,Prod.mk.injEq] at H
   obtain ⟨rfl,rfl,rfl⟩:=H
   go_enter Tryz.func5,Tryz.ntmps5
   go_wp2_with (first|((with_reducible refine yW (f:=11) rfl ?_);refine YD (some 9) rfl rfl Tryz.func11 Zk rfl #[.string a0] rfl (by (try simp only [List.map_toArray,List.map_cons,List.map_nil]);first|done|rfl|(simp only [List.length_drop,List.length_take];rfl)) ?_;(with_reducible refine (yh.calls k a0 t261 true _ A2.out).mono ?_);rintro e w7 ⟨v262,rfl,ho0,hb⟩;refine ⟨_,rfl,?_⟩;have n0_:=yc.mk (Kd.yaX (Kd.YC (ok':=fun k_=>(w.heap.size≤k_)) ho0 (fun k_ hk_=>(Nat.le_trans (yt Zh) hk_))) (yt Zh));have n1_:=yc.mk (yw Zh hb);clear HB;have HO263:=n0_;have HB:=n1_;clear n0_ n1_;(try clear hb);(try clear hb2);(try clear hk);(try clear hi);(try clear ho0))|(go_at_call 14;(with_reducible refine (Yf.calls  t265 _ A4.out).mono ?_);rintro e w8 ⟨v266,rfl,ho0,hb⟩;have n0_:=yc.mk (Kd.qR (Zn HO263.out) (Kd.Q8 ho0) hb);have n1_:=yc.mk (Kd.Ji (Kd.yaJ (M:=fun k_=>(w.heap.size≤k_)) ho0 (yt Zh) (fun k_ h_=>h_)) (yt Zh));have n2_:=yc.mk (yw Zh hb);clear HO263 HB;have HO263:=n0_;have HO267:=n1_;have HB:=n2_;clear n0_ n1_ n2_;(try clear hb);(try clear hb2);(try clear hk);(try clear hi);(try clear ho0);obtain ⟨Ao9,co9,eo9⟩:=Kd.QH HO263.out;subst eo9;obtain ⟨Ao10,co10,eo10⟩:=Kd.YF HO267.out;subst eo10)|(go_at_call 13;(with_reducible refine (ye.calls k _ _ t261 _ _ t265 t268 _ ?side1 ?side2 ?side3 ?side4 A5.out).mono ?_);(case side1=>repeat (first|exact (Kd.Qp HO263.out).2.2|(with_reducible refine Kd.qG ?_ _)|(with_reducible refine Kd.qH ?_ _)|(with_reducible refine Kd.Qv ?_)));(case side2=>exact (Kd.Qp HO263.out).2.1);(case side3=>repeat (first|exact (Kd.YK HO267.out).2.2|(with_reducible refine Kd.qG ?_ _)|(with_reducible refine Kd.qH ?_ _)|(with_reducible refine Kd.Qv ?_)));(case side4=>exact (Kd.YK HO267.out).2.1);rintro e w11 ⟨rfl,hb⟩;have n0_:=yc.mk (Kd.JO (Zn HO263.out) hb);have n1_:=yc.mk (Kd.Y1 (Zr HO267.out) hb);have n2_:=yc.mk (yw Zh hb);clear HO263 HO267 HB;have HO263:=n0_;have HO267:=n1_;have HB:=n2_;clear n0_ n1_ n2_;(try clear hb);(try clear hb2);(try clear hk);(try clear hi))|((with_reducible refine yW (f:=12) rfl ?_);refine YD (some 20) rfl rfl Tryz.func12 Zk rfl #[.bool t268] rfl (by (try simp only [List.map_toArray,List.map_cons,List.map_nil]);first|done|rfl|(simp only [List.length_drop,List.length_take];rfl)) ?_;(with_reducible refine (Y7.calls t268 t269 _ A6.out).mono ?_);rintro e w' ⟨rfl,⟨nd,rfl⟩⟩;refine ⟨_,rfl,?_⟩))
   go_ret3
   exact ⟨_,by first|rfl|(simp [yK,yL] <;> rfl)|(simp [*,yK,yL] <;> rfl),by refine Zn ?_; exact Kd.YC HO263.out (fun _ hk=>hk.1),by repeat (first|(with_reducible first|exact HB.out|apply yl|apply ym|apply yp)|exact HB.out)⟩
 · replace c3:=Bool.eq_false_iff.mpr c3
   subst c3
   have H1:((Y7.f false).bind fun t270=>(some (t261,false,t270)))=some (r1,r2,r3):=by rw [if_neg (show ¬ (false=true) by decide)] at H;exact H
   clear H
   have H:=H1
   clear H1
   replace H:=Option.bind_eq_some_iff.mp H
   obtain ⟨t270,A120,H⟩:=H
   replace H:(some (t261,false,t270))=some (r1,r2,r3):=H
   have A12:=yc.mk A120
   clear A120
   simp only [Option.some.injEq,Prod.mk.injEq] at H
   obtain ⟨rfl,rfl,rfl⟩:=H
   go_enter Tryz.func5,Tryz.ntmps5
   go_wp2_with (first|((with_reducible refine yW (f:=11) rfl ?_);refine YD (some 9) rfl rfl Tryz.func11 Zk rfl #[.string a0] rfl (by (try simp only [List.map_toArray,List.map_cons,List.map_nil]);first|done|rfl|(simp only [List.length_drop,List.length_take];rfl)) ?_;(with_reducible refine (yh.calls k a0 t261 false _ A2.out).mono ?_);rintro e w13 ⟨v262,rfl,ho0,hb⟩;refine ⟨_,rfl,?_⟩;have n0_:=yc.mk (Kd.yaX (Kd.YC (ok':=fun k_=>(w.heap.size≤k_)) ho0 (fun k_ hk_=>(Nat.le_trans (yt Zh) hk_))) (yt Zh));have n1_:=yc.mk (yw Zh hb);clear HB;have HO263:=n0_;have HB:=n1_;clear n0_ n1_;(try clear hb);(try clear hb2);(try clear hk);(try clear hi);(try clear ho0))|((with_reducible refine yW (f:=12) rfl ?_);refine YD (some 20) rfl rfl Tryz.func12 Zk rfl #[.bool false] rfl (by (try simp only [List.map_toArray,List.map_cons,List.map_nil]);first|done|rfl|(simp only [List.length_drop,List.length_take];rfl)) ?_;(with_reducible refine (Y7.calls false t270 _ A12.out).mono ?_);rintro e w' ⟨rfl,⟨nd,rfl⟩⟩;refine ⟨_,rfl,?_⟩))
   go_ret3
   exact ⟨_,by first|rfl|(simp [yK,yL] <;> rfl)|(simp [*,yK,yL] <;> rfl),by refine Zn ?_; exact HO263.out,by repeat (first|(with_reducible first|exact HB.out|apply yl|apply ym|apply yp)|exact HB.out)⟩
end Go.Proofs.YtlmennkeggmdbaaGreatDoor
namespace Go.Proofs.YtlmennkeggmdbaaGreatDoor
open Go.RowKit Go.Proofs.YtlmennkeggmdbaaGreatDoorW.PrintWords Go.Proofs.YtlmennkeggmdbaaGreatDoorW.PrintLast Go.Proofs.YtlmennkeggmdbaaGreatDoorW.PrintMore
attribute [local go_sem] Yt Yp YE YB Yj Yk Yu Yv
def qZ.f (a0:ByteArray) (a1:Int):Option (ByteArray × Int × Bool × Int × Int × Nat × ByteArray × (List (S38))):=some (a0,2,false,a1,0,0,(⟨#[]⟩:ByteArray),([]:List (S38)))
set_option maxHeartbeats 8000000 in
set_option maxRecDepth 100000 in
theorem qZ.calls (a0:ByteArray) (a1:Int) (r1:ByteArray) (r2:Int) (r3:Bool) (r4:Int) (r5:Int) (r6:Nat) (r7:ByteArray) (r8:List (S38)) (w:World) (h:qZ.f a0 a1=some (r1,r2,r3,r4,r5,r6,r7,r8)) :
 Calls Tryz.prog 33 #[.string a0,.int .i64 a1] w fun e w'=>∃ v7_:Value,e=.returned (.agg #[.string r1,.int .i64 r2,.bool r3,.int .i64 r4,.int .u64 r5,.float .f64 r6,.string r7,v7_])∧Kd.R k38 38 w' w.heap.size (fun _=>True) v7_ r8∧Below w.heap.size w w':=by
 have hu38:=Tryz.underlying38
 have HB:=yc.mk (Below.refl w.heap.size w)
 have H:(some (a0,2,false,a1,0,0,(⟨#[]⟩:ByteArray),([]:List (S38))))=some (r1,r2,r3,r4,r5,r6,r7,r8):=h
 clear h
 simp only [Option.some.injEq,Prod.mk.injEq] at H
 obtain ⟨rfl,rfl,rfl,rfl,rfl,rfl,rfl,rfl⟩:=H
 go_enter Tryz.func33,Tryz.ntmps33
 go_wp2_with (first|((with_reducible refine YX (N:=4) rfl ?_);refine YW ?hg (N:=4) ?hd (cs:=#[.string (⟨#[]⟩:ByteArray),.int .i64 0,.bool false,.int .i64 0,.int .u64 0,.float .f64 0,.string (⟨#[]⟩:ByteArray),.slice none 0 0]) (t:=38) ?hr ?_;(case hd=>rfl);(case hg=>rfl);(case hr=>first|(go_simp;done)|(go_simp;rfl));intro gb271 hg w3 hbox hb;have n0_:=yc.mk (yw Zh hb);have n1_:=yc.mk (hbox);have n2_:=yc.mk ((by rw [hg];exact (yt Zh):w.heap.size≤gb271));have n3_:=yc.mk ((by rw [hg];exact (yt Zh):w.heap.size≤gb271));clear HB;have HB:=n0_;have BK271:=n1_;have GW271:=n2_;have GE271:=n3_;clear n0_ n1_ n2_ n3_;clear hb hbox hg;have hcz4_0:w3.cell? ⟨gb271,0,none⟩=some (.string (⟨#[]⟩:ByteArray)):=(yg BK271.out 0).trans rfl;have hcz4_1:w3.cell? ⟨gb271,1,none⟩=some (.int .i64 0):=(yg BK271.out 1).trans rfl;have hcz4_2:w3.cell? ⟨gb271,2,none⟩=some (.bool false):=(yg BK271.out 2).trans rfl;have hcz4_3:w3.cell? ⟨gb271,3,none⟩=some (.int .i64 0):=(yg BK271.out 3).trans rfl;have hcz4_4:w3.cell? ⟨gb271,4,none⟩=some (.int .u64 0):=(yg BK271.out 4).trans rfl;have hcz4_5:w3.cell? ⟨gb271,5,none⟩=some (.float .f64 0):=(yg BK271.out 5).trans rfl;have hcz4_6:w3.cell? ⟨gb271,6,none⟩=some (.string (⟨#[]⟩:ByteArray)):=(yg BK271.out 6).trans rfl;have hcz4_7:w3.cell? ⟨gb271,7,none⟩=some (.slice none 0 0):=(yg BK271.out 7).trans rfl;have hfz4_0:=yf BK271.out 0;have hfz4_1:=yf BK271.out 1;have hfz4_2:=yf BK271.out 2;have hfz4_3:=yf BK271.out 3;have hfz4_4:=yf BK271.out 4;have hfz4_5:=yf BK271.out 5;have hfz4_6:=yf BK271.out 6;have hfz4_7:=yf BK271.out 7))
 refine bodyPost_ret (results_cell_row rfl _ _ gb271 38 #[.string a0,.int .i64 2,.bool false,.int .i64 a1,.int .u64 0,.float .f64 0,.string (⟨#[]⟩:ByteArray),.slice none 0 0] (0,0) _ rfl (by refine Zb ?_;refine yy (cs:=#[.string a0,.int .i64 2,.bool false,.int .i64 a1,.int .u64 0,.float .f64 0,.string (⟨#[]⟩:ByteArray),.slice none 0 0]) ?_ 7 _ rfl;refine Zb ?_;refine yy (cs:=#[.string a0,.int .i64 2,.bool false,.int .i64 a1,.int .u64 0,.float .f64 0,.string (⟨#[]⟩:ByteArray),.slice none 0 0]) ?_ 6 _ rfl;refine Zb ?_;refine yy (cs:=#[.string a0,.int .i64 2,.bool false,.int .i64 a1,.int .u64 0,.float .f64 0,.string (⟨#[]⟩:ByteArray),.slice none 0 0]) ?_ 5 _ rfl;refine Zb ?_;refine yy (cs:=#[.string a0,.int .i64 2,.bool false,.int .i64 a1,.int .u64 0,.float .f64 0,.string (⟨#[]⟩:ByteArray),.slice none 0 0]) ?_ 4 _ rfl;refine Zb ?_;refine yy (cs:=#[.string a0,.int .i64 2,.bool false,.int .i64 0,.int .u64 0,.float .f64 0,.string (⟨#[]⟩:ByteArray),.slice none 0 0]) ?_ 3 _ rfl;refine Zb ?_;refine yy (cs:=#[.string a0,.int .i64 2,.bool false,.int .i64 0,.int .u64 0,.float .f64 0,.string (⟨#[]⟩:ByteArray),.slice none 0 0]) ?_ 2 _ rfl;refine Zb ?_;refine yy (cs:=#[.string a0,.int .i64 0,.bool false,.int .i64 0,.int .u64 0,.float .f64 0,.string (⟨#[]⟩:ByteArray),.slice none 0 0]) ?_ 1 _ rfl;refine Zb ?_;refine yy (cs:=#[.string (⟨#[]⟩:ByteArray),.int .i64 0,.bool false,.int .i64 0,.int .u64 0,.float .f64 0,.string (⟨#[]⟩:ByteArray),.slice none 0 0]) ?_ 0 _ rfl;refine Zb ?_;exact BK271.out) Tryz.underlying38 rfl Zk) rfl ?_
 exact ⟨_,by first|rfl|(simp [yK,yL] <;> rfl)|(simp [*,yK,yL] <;> rfl),by first|exact Kd.qm _ _ _ _ _|exact Kd.yae _ _ _ _ _|exact Kd.QV _ _ _ _ _|exact Kd.yaf _ _ _ _ _|exact Kd.yah _ _ _ _ _,by repeat (first|(with_reducible first|exact HB.out|apply yl|apply ym|apply yp|refine yu ?_ GE271.out)|exact HB.out)⟩
end Go.Proofs.YtlmennkeggmdbaaGreatDoor
namespace Go.Proofs.YtlmennkeggmdbaaGreatDoor
open Go.RowKit Go.Proofs.YtlmennkeggmdbaaGreatDoorW.PrintWords Go.Proofs.YtlmennkeggmdbaaGreatDoorW.PrintLast Go.Proofs.YtlmennkeggmdbaaGreatDoorW.PrintMore
attribute [local go_sem] Yt Yp YE YB Yj Yk Yu Yv
def qF.f (a0:ByteArray):Option (ByteArray × Int × Bool × Int × Int × Nat × ByteArray × (List (S38))):=some (a0,0,false,0,0,0,(⟨#[]⟩:ByteArray),([]:List (S38)))
set_option maxHeartbeats 8000000 in
set_option maxRecDepth 100000 in
theorem qF.calls (a0:ByteArray) (r1:ByteArray) (r2:Int) (r3:Bool) (r4:Int) (r5:Int) (r6:Nat) (r7:ByteArray) (r8:List (S38)) (w:World) (h:qF.f a0=some (r1,r2,r3,r4,r5,r6,r7,r8)) :
 Calls Tryz.prog 34 #[.string a0] w fun e w'=>∃ v7_:Value,e=.returned (.agg #[.string r1,.int .i64 r2,.bool r3,.int .i64 r4,.int .u64 r5,.float .f64 r6,.string r7,v7_])∧Kd.R k38 38 w' w.heap.size (fun _=>True) v7_ r8∧Below w.heap.size w w':=by
 have hu38:=Tryz.underlying38
 have HB:=yc.mk (Below.refl w.heap.size w)
 have H:(some (a0,0,false,0,0,0,(⟨#[]⟩:ByteArray),([]:List (S38))))=some (r1,r2,r3,r4,r5,r6,r7,r8):=h
 clear h
 simp only [Option.some.injEq,Prod.mk.injEq] at H
 obtain ⟨rfl,rfl,rfl,rfl,rfl,rfl,rfl,rfl⟩:=H
 go_enter Tryz.func34,Tryz.ntmps34
 go_wp2_with (first|((with_reducible refine YX (N:=2) rfl ?_);refine YW ?hg (N:=2) ?hd (cs:=#[.string (⟨#[]⟩:ByteArray),.int .i64 0,.bool false,.int .i64 0,.int .u64 0,.float .f64 0,.string (⟨#[]⟩:ByteArray),.slice none 0 0]) (t:=38) ?hr ?_;(case hd=>rfl);(case hg=>rfl);(case hr=>first|(go_simp;done)|(go_simp;rfl));intro gb272 hg w2 hbox hb;have n0_:=yc.mk (yw Zh hb);have n1_:=yc.mk (hbox);have n2_:=yc.mk ((by rw [hg];exact (yt Zh):w.heap.size≤gb272));have n3_:=yc.mk ((by rw [hg];exact (yt Zh):w.heap.size≤gb272));clear HB;have HB:=n0_;have BK272:=n1_;have GW272:=n2_;have GE272:=n3_;clear n0_ n1_ n2_ n3_;clear hb hbox hg;have hcz3_0:w2.cell? ⟨gb272,0,none⟩=some (.string (⟨#[]⟩:ByteArray)):=(yg BK272.out 0).trans rfl;have hcz3_1:w2.cell? ⟨gb272,1,none⟩=some (.int .i64 0):=(yg BK272.out 1).trans rfl;have hcz3_2:w2.cell? ⟨gb272,2,none⟩=some (.bool false):=(yg BK272.out 2).trans rfl;have hcz3_3:w2.cell? ⟨gb272,3,none⟩=some (.int .i64 0):=(yg BK272.out 3).trans rfl;have hcz3_4:w2.cell? ⟨gb272,4,none⟩=some (.int .u64 0):=(yg BK272.out 4).trans rfl;have hcz3_5:w2.cell? ⟨gb272,5,none⟩=some (.float .f64 0):=(yg BK272.out 5).trans rfl;have hcz3_6:w2.cell? ⟨gb272,6,none⟩=some (.string (⟨#[]⟩:ByteArray)):=(yg BK272.out 6).trans rfl;have hcz3_7:w2.cell? ⟨gb272,7,none⟩=some (.slice none 0 0):=(yg BK272.out 7).trans rfl;have hfz3_0:=yf BK272.out 0;have hfz3_1:=yf BK272.out 1;have hfz3_2:=yf BK272.out 2;have hfz3_3:=yf BK272.out 3;have hfz3_4:=yf BK272.out 4;have hfz3_5:=yf BK272.out 5;have hfz3_6:=yf BK272.out 6;have hfz3_7:=yf BK272.out 7))
 refine bodyPost_ret (results_cell_row rfl _ _ gb272 38 #[.string a0,.int .i64 0,.bool false,.int .i64 0,.int .u64 0,.float .f64 0,.string (⟨#[]⟩:ByteArray),.slice none 0 0] (0,0) _ rfl (by refine Zb ?_;refine yy (cs:=#[.string a0,.int .i64 0,.bool false,.int .i64 0,.int .u64 0,.float .f64 0,.string (⟨#[]⟩:ByteArray),.slice none 0 0]) ?_ 7 _ rfl;refine Zb ?_;refine yy (cs:=#[.string a0,.int .i64 0,.bool false,.int .i64 0,.int .u64 0,.float .f64 0,.string (⟨#[]⟩:ByteArray),.slice none 0 0]) ?_ 6 _ rfl;refine Zb ?_;refine yy (cs:=#[.string a0,.int .i64 0,.bool false,.int .i64 0,.int .u64 0,.float .f64 0,.string (⟨#[]⟩:ByteArray),.slice none 0 0]) ?_ 5 _ rfl;refine Zb ?_;refine yy (cs:=#[.string a0,.int .i64 0,.bool false,.int .i64 0,.int .u64 0,.float .f64 0,.string (⟨#[]⟩:ByteArray),.slice none 0 0]) ?_ 4 _ rfl;refine Zb ?_;refine yy (cs:=#[.string a0,.int .i64 0,.bool false,.int .i64 0,.int .u64 0,.float .f64 0,.string (⟨#[]⟩:ByteArray),.slice none 0 0]) ?_ 3 _ rfl;refine Zb ?_;refine yy (cs:=#[.string a0,.int .i64 0,.bool false,.int .i64 0,.int .u64 0,.float .f64 0,.string (⟨#[]⟩:ByteArray),.slice none 0 0]) ?_ 2 _ rfl;refine Zb ?_;refine yy (cs:=#[.string a0,.int .i64 0,.bool false,.int .i64 0,.int .u64 0,.float .f64 0,.string (⟨#[]⟩:ByteArray),.slice none 0 0]) ?_ 1 _ rfl;refine Zb ?_;refine yy (cs:=#[.string (⟨#[]⟩:ByteArray),.int .i64 0,.bool false,.int .i64 0,.int .u64 0,.float .f64 0,.string (⟨#[]⟩:ByteArray),.slice none 0 0]) ?_ 0 _ rfl;refine Zb ?_;exact BK272.out) Tryz.underlying38 rfl Zk) rfl ?_
 exact ⟨_,by first|rfl|(simp [yK,yL] <;> rfl)|(simp [*,yK,yL] <;> rfl),by first|exact Kd.qm _ _ _ _ _|exact Kd.yae _ _ _ _ _|exact Kd.QV _ _ _ _ _|exact Kd.yaf _ _ _ _ _|exact Kd.yah _ _ _ _ _,by repeat (first|(with_reducible first|exact HB.out|apply yl|apply ym|apply yp|refine yu ?_ GE272.out)|exact HB.out)⟩
end Go.Proofs.YtlmennkeggmdbaaGreatDoor
namespace Go.Proofs.YtlmennkeggmdbaaGreatDoor
open Go.RowKit Go.Proofs.YtlmennkeggmdbaaGreatDoorW.PrintWords Go.Proofs.YtlmennkeggmdbaaGreatDoorW.PrintLast Go.Proofs.YtlmennkeggmdbaaGreatDoorW.PrintMore
attribute [local go_sem] Yt Yp YE YB Yj Yk Yu Yv
def qY.f (a0:ByteArray) (a1:Nat):Option (ByteArray × Int × Bool × Int × Int × Nat × ByteArray × (List (S38))):=some (a0,4,false,0,0,a1,(⟨#[]⟩:ByteArray),([]:List (S38)))
set_option maxHeartbeats 8000000 in
set_option maxRecDepth 100000 in
theorem qY.calls (a0:ByteArray) (a1:Nat) (r1:ByteArray) (r2:Int) (r3:Bool) (r4:Int) (r5:Int) (r6:Nat) (r7:ByteArray) (r8:List (S38)) (w:World) (h:qY.f a0 a1=some (r1,r2,r3,r4,r5,r6,r7,r8)) :
 Calls Tryz.prog 35 #[.string a0,.float .f64 a1] w fun e w'=>∃ v7_:Value,e=.returned (.agg #[.string r1,.int .i64 r2,.bool r3,.int .i64 r4,.int .u64 r5,.float .f64 r6,.string r7,v7_])∧Kd.R k38 38 w' w.heap.size (fun _=>True) v7_ r8∧Below w.heap.size w w':=by
 have hu38:=Tryz.underlying38
 have HB:=yc.mk (Below.refl w.heap.size w)
 have H:(some (a0,4,false,0,0,a1,(⟨#[]⟩:ByteArray),([]:List (S38))))=some (r1,r2,r3,r4,r5,r6,r7,r8):=h
 clear h
 simp only [Option.some.injEq,Prod.mk.injEq] at H
 obtain ⟨rfl,rfl,rfl,rfl,rfl,rfl,rfl,rfl⟩:=H
 go_enter Tryz.func35,Tryz.ntmps35
 go_wp2_with (first|((with_reducible refine YX (N:=4) rfl ?_);refine YW ?hg (N:=4) ?hd (cs:=#[.string (⟨#[]⟩:ByteArray),.int .i64 0,.bool false,.int .i64 0,.int .u64 0,.float .f64 0,.string (⟨#[]⟩:ByteArray),.slice none 0 0]) (t:=38) ?hr ?_;(case hd=>rfl);(case hg=>rfl);(case hr=>first|(go_simp;done)|(go_simp;rfl));intro gb273 hg w3 hbox hb;have n0_:=yc.mk (yw Zh hb);have n1_:=yc.mk (hbox);have n2_:=yc.mk ((by rw [hg];exact (yt Zh):w.heap.size≤gb273));have n3_:=yc.mk ((by rw [hg];exact (yt Zh):w.heap.size≤gb273));clear HB;have HB:=n0_;have BK273:=n1_;have GW273:=n2_;have GE273:=n3_;clear n0_ n1_ n2_ n3_;clear hb hbox hg;have hcz4_0:w3.cell? ⟨gb273,0,none⟩=some (.string (⟨#[]⟩:ByteArray)):=(yg BK273.out 0).trans rfl;have hcz4_1:w3.cell? ⟨gb273,1,none⟩=some (.int .i64 0):=(yg BK273.out 1).trans rfl;have hcz4_2:w3.cell? ⟨gb273,2,none⟩=some (.bool false):=(yg BK273.out 2).trans rfl;have hcz4_3:w3.cell? ⟨gb273,3,none⟩=some (.int .i64 0):=(yg BK273.out 3).trans rfl;have hcz4_4:w3.cell? ⟨gb273,4,none⟩=some (.int .u64 0):=(yg BK273.out 4).trans rfl;have hcz4_5:w3.cell? ⟨gb273,5,none⟩=some (.float .f64 0):=(yg BK273.out 5).trans rfl;have hcz4_6:w3.cell? ⟨gb273,6,none⟩=some (.string (⟨#[]⟩:ByteArray)):=(yg BK273.out 6).trans rfl;have hcz4_7:w3.cell? ⟨gb273,7,none⟩=some (.slice none 0 0):=(yg BK273.out 7).trans rfl;have hfz4_0:=yf BK273.out 0;have hfz4_1:=yf BK273.out 1;have hfz4_2:=yf BK273.out 2;have hfz4_3:=yf BK273.out 3;have hfz4_4:=yf BK273.out 4;have hfz4_5:=yf BK273.out 5;have hfz4_6:=yf BK273.out 6;have hfz4_7:=yf BK273.out 7))
 refine bodyPost_ret (results_cell_row rfl _ _ gb273 38 #[.string a0,.int .i64 4,.bool false,.int .i64 0,.int .u64 0,.float .f64 a1,.string (⟨#[]⟩:ByteArray),.slice none 0 0] (0,0) _ rfl (by refine Zb ?_;refine yy (cs:=#[.string a0,.int .i64 4,.bool false,.int .i64 0,.int .u64 0,.float .f64 a1,.string (⟨#[]⟩:ByteArray),.slice none 0 0]) ?_ 7 _ rfl;refine Zb ?_;refine yy (cs:=#[.string a0,.int .i64 4,.bool false,.int .i64 0,.int .u64 0,.float .f64 a1,.string (⟨#[]⟩:ByteArray),.slice none 0 0]) ?_ 6 _ rfl;refine Zb ?_;refine yy (cs:=#[.string a0,.int .i64 4,.bool false,.int .i64 0,.int .u64 0,.float .f64 0,.string (⟨#[]⟩:ByteArray),.slice none 0 0]) ?_ 5 _ rfl;refine Zb ?_;refine yy (cs:=#[.string a0,.int .i64 4,.bool false,.int .i64 0,.int .u64 0,.float .f64 0,.string (⟨#[]⟩:ByteArray),.slice none 0 0]) ?_ 4 _ rfl;refine Zb ?_;refine yy (cs:=#[.string a0,.int .i64 4,.bool false,.int .i64 0,.int .u64 0,.float .f64 0,.string (⟨#[]⟩:ByteArray),.slice none 0 0]) ?_ 3 _ rfl;refine Zb ?_;refine yy (cs:=#[.string a0,.int .i64 4,.bool false,.int .i64 0,.int .u64 0,.float .f64 0,.string (⟨#[]⟩:ByteArray),.slice none 0 0]) ?_ 2 _ rfl;refine Zb ?_;refine yy (cs:=#[.string a0,.int .i64 0,.bool false,.int .i64 0,.int .u64 0,.float .f64 0,.string (⟨#[]⟩:ByteArray),.slice none 0 0]) ?_ 1 _ rfl;refine Zb ?_;refine yy (cs:=#[.string (⟨#[]⟩:ByteArray),.int .i64 0,.bool false,.int .i64 0,.int .u64 0,.float .f64 0,.string (⟨#[]⟩:ByteArray),.slice none 0 0]) ?_ 0 _ rfl;refine Zb ?_;exact BK273.out) Tryz.underlying38 rfl Zk) rfl ?_
 exact ⟨_,by first|rfl|(simp [yK,yL] <;> rfl)|(simp [*,yK,yL] <;> rfl),by first|exact Kd.qm _ _ _ _ _|exact Kd.yae _ _ _ _ _|exact Kd.QV _ _ _ _ _|exact Kd.yaf _ _ _ _ _|exact Kd.yah _ _ _ _ _,by repeat (first|(with_reducible first|exact HB.out|apply yl|apply ym|apply yp|refine yu ?_ GE273.out)|exact HB.out)⟩
end Go.Proofs.YtlmennkeggmdbaaGreatDoor
namespace Go.Proofs.YtlmennkeggmdbaaGreatDoor
open Go.RowKit Go.Proofs.YtlmennkeggmdbaaGreatDoorW.PrintWords Go.Proofs.YtlmennkeggmdbaaGreatDoorW.PrintLast Go.Proofs.YtlmennkeggmdbaaGreatDoorW.PrintMore
attribute [local go_sem] Yt Yp YE YB Yj Yk Yu Yv
def JI.f (a0:ByteArray) (l1:List (S38)):Option (ByteArray × Int × Bool × Int × Int × Nat × ByteArray × (List (S38))):=some (a0,8,false,0,0,0,(⟨#[]⟩:ByteArray),l1)
set_option maxHeartbeats 8000000 in
set_option maxRecDepth 100000 in
theorem JI.calls (a0:ByteArray) (P1_:Nat→Prop) (A1:Option Addr) (c1:Nat) (l1:List (S38)) (r1:ByteArray) (r2:Int) (r3:Bool) (r4:Int) (r5:Int) (r6:Nat) (r7:ByteArray) (r8:List (S38)) (w:World) (hs1:Kd.V k38 38 w w.heap.size (fun k_=>P1_ k_) (.slice A1 l1.length c1) l1) (h:JI.f a0 l1=some (r1,r2,r3,r4,r5,r6,r7,r8)) :
 Calls Tryz.prog 36 #[.string a0,.slice A1 l1.length c1] w fun e w'=>∃ v7_:Value,e=.returned (.agg #[.string r1,.int .i64 r2,.bool r3,.int .i64 r4,.int .u64 r5,.float .f64 r6,.string r7,v7_])∧Kd.V k38 38 w' w.heap.size (fun k_=>(P1_ k_∨w.heap.size≤k_)) v7_ r8∧Below w.heap.size w w':=by
 have hu38:=Tryz.underlying38
 have HO1:=yc.mk (show Kd.V k38 38 w w.heap.size (fun k_=>(P1_ k_∨w.heap.size≤k_)) (.slice A1 l1.length c1) l1 from Kd.Jf hs1 (fun k_ hk=>.inl hk))
 have HB:=yc.mk (Below.refl w.heap.size w)
 have H:(some (a0,8,false,0,0,0,(⟨#[]⟩:ByteArray),l1))=some (r1,r2,r3,r4,r5,r6,r7,r8):=h
 clear h
 simp only [Option.some.injEq,Prod.mk.injEq] at H
 obtain ⟨rfl,rfl,rfl,rfl,rfl,rfl,rfl,rfl⟩:=H
 go_enter Tryz.func36,Tryz.ntmps36
 go_wp2_with (first|((with_reducible refine YX (N:=4) rfl ?_);refine YW ?hg (N:=4) ?hd (cs:=#[.string (⟨#[]⟩:ByteArray),.int .i64 0,.bool false,.int .i64 0,.int .u64 0,.float .f64 0,.string (⟨#[]⟩:ByteArray),.slice none 0 0]) (t:=38) ?hr ?_;(case hd=>rfl);(case hg=>rfl);(case hr=>first|(go_simp;done)|(go_simp;rfl));intro gb274 hg w3 hbox hb;have n0_:=yc.mk (Kd.yaq (Kd.V_elderB (Zv HO1.out) gb274 (Nat.le_of_eq hg.symm)) hb);have n1_:=yc.mk (yw Zh hb);have n2_:=yc.mk (hbox);have n3_:=yc.mk ((by rw [hg];exact (yt Zh):w.heap.size≤gb274));have n4_:=yc.mk ((by rw [hg];exact (yt Zh):w.heap.size≤gb274));clear HO1 HB;have HO1:=n0_;have HB:=n1_;have BK274:=n2_;have GW274:=n3_;have GE274:=n4_;clear n0_ n1_ n2_ n3_ n4_;clear hb hbox hg;have hcz4_0:w3.cell? ⟨gb274,0,none⟩=some (.string (⟨#[]⟩:ByteArray)):=(yg BK274.out 0).trans rfl;have hcz4_1:w3.cell? ⟨gb274,1,none⟩=some (.int .i64 0):=(yg BK274.out 1).trans rfl;have hcz4_2:w3.cell? ⟨gb274,2,none⟩=some (.bool false):=(yg BK274.out 2).trans rfl;have hcz4_3:w3.cell? ⟨gb274,3,none⟩=some (.int .i64 0):=(yg BK274.out 3).trans rfl;have hcz4_4:w3.cell? ⟨gb274,4,none⟩=some (.int .u64 0):=(yg BK274.out 4).trans rfl;have hcz4_5:w3.cell? ⟨gb274,5,none⟩=some (.float .f64 0):=(yg BK274.out 5).trans rfl;have hcz4_6:w3.cell? ⟨gb274,6,none⟩=some (.string (⟨#[]⟩:ByteArray)):=(yg BK274.out 6).trans rfl;have hcz4_7:w3.cell? ⟨gb274,7,none⟩=some (.slice none 0 0):=(yg BK274.out 7).trans rfl;have hfz4_0:=yf BK274.out 0;have hfz4_1:=yf BK274.out 1;have hfz4_2:=yf BK274.out 2;have hfz4_3:=yf BK274.out 3;have hfz4_4:=yf BK274.out 4;have hfz4_5:=yf BK274.out 5;have hfz4_6:=yf BK274.out 6;have hfz4_7:=yf BK274.out 7))
 refine bodyPost_ret (results_cell_row rfl _ _ gb274 38 #[.string a0,.int .i64 8,.bool false,.int .i64 0,.int .u64 0,.float .f64 0,.string (⟨#[]⟩:ByteArray),.slice A1 l1.length c1] (0,0) _ rfl (by refine Zb ?_;refine yy (cs:=#[.string a0,.int .i64 8,.bool false,.int .i64 0,.int .u64 0,.float .f64 0,.string (⟨#[]⟩:ByteArray),.slice none 0 0]) ?_ 7 _ rfl;refine Zb ?_;refine yy (cs:=#[.string a0,.int .i64 8,.bool false,.int .i64 0,.int .u64 0,.float .f64 0,.string (⟨#[]⟩:ByteArray),.slice none 0 0]) ?_ 6 _ rfl;refine Zb ?_;refine yy (cs:=#[.string a0,.int .i64 8,.bool false,.int .i64 0,.int .u64 0,.float .f64 0,.string (⟨#[]⟩:ByteArray),.slice none 0 0]) ?_ 5 _ rfl;refine Zb ?_;refine yy (cs:=#[.string a0,.int .i64 8,.bool false,.int .i64 0,.int .u64 0,.float .f64 0,.string (⟨#[]⟩:ByteArray),.slice none 0 0]) ?_ 4 _ rfl;refine Zb ?_;refine yy (cs:=#[.string a0,.int .i64 8,.bool false,.int .i64 0,.int .u64 0,.float .f64 0,.string (⟨#[]⟩:ByteArray),.slice none 0 0]) ?_ 3 _ rfl;refine Zb ?_;refine yy (cs:=#[.string a0,.int .i64 8,.bool false,.int .i64 0,.int .u64 0,.float .f64 0,.string (⟨#[]⟩:ByteArray),.slice none 0 0]) ?_ 2 _ rfl;refine Zb ?_;refine yy (cs:=#[.string a0,.int .i64 0,.bool false,.int .i64 0,.int .u64 0,.float .f64 0,.string (⟨#[]⟩:ByteArray),.slice none 0 0]) ?_ 1 _ rfl;refine Zb ?_;refine yy (cs:=#[.string (⟨#[]⟩:ByteArray),.int .i64 0,.bool false,.int .i64 0,.int .u64 0,.float .f64 0,.string (⟨#[]⟩:ByteArray),.slice none 0 0]) ?_ 0 _ rfl;refine Zb ?_;exact BK274.out) Tryz.underlying38 rfl Zk) rfl ?_
 exact ⟨_,by first|rfl|(simp [yK,yL] <;> rfl)|(simp [*,yK,yL] <;> rfl),by refine Zv ?_; exact Kd.Jf (Kd.JV (p:=⟨gb274,7,none⟩) (Kd.JV (p:=⟨gb274,6,none⟩) (Kd.JV (p:=⟨gb274,5,none⟩) (Kd.JV (p:=⟨gb274,4,none⟩) (Kd.JV (p:=⟨gb274,3,none⟩) (Kd.JV (p:=⟨gb274,2,none⟩) (Kd.JV (p:=⟨gb274,1,none⟩) (Kd.JV (p:=⟨gb274,0,none⟩) (Kd.Jf HO1.out (fun k_ hk=>(⟨hk,hk.2⟩:_∧k_≠gb274))) (fun _ hk=>hk.2) (.string a0)) (fun _ hk=>hk.2) (.int .i64 8)) (fun _ hk=>hk.2) (.bool false)) (fun _ hk=>hk.2) (.int .i64 0)) (fun _ hk=>hk.2) (.int .u64 0)) (fun _ hk=>hk.2) (.float .f64 0)) (fun _ hk=>hk.2) (.string (⟨#[]⟩:ByteArray))) (fun _ hk=>hk.2) (.slice A1 l1.length c1)) (fun _ hk=>hk.1.1),by repeat (first|(with_reducible first|exact HB.out|apply yl|apply ym|apply yp|refine yu ?_ GE274.out)|exact HB.out)⟩
end Go.Proofs.YtlmennkeggmdbaaGreatDoor
