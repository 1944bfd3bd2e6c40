/- Part 15 of 44 of the proof of the tied card of FnXfsRead. -/
import Derived.Test.YtdcaggoicdfehaaGreatDoorVz
import Derived.Test.YtdcaggoicdfehaaGreatDoorV7
import Derived.Ground.MpProg
import Derived.Shelf.Pu.ParseUintPublic10
import Derived.Shelf.Strings.Fields
import Derived.Test.YtdcaggoicdfehaaGreatDoorProg
set_option linter.unusedVariables false
set_option linter.unusedSimpArgs false
namespace Go.Proofs.YtdcaggoicdfehaaGreatDoor
open Go.RowKit Go.Proofs.YtdcaggoicdfehaaGreatDoorW.PrintWords Go.Proofs.YtdcaggoicdfehaaGreatDoorW.PrintLast Go.Proofs.YtdcaggoicdfehaaGreatDoorW.PrintMore
set_option maxRecDepth 100000
theorem store_u32 (W:World) (b c:Nat) (y:Int) (ht:W.there b c 1):(Instr.storeAt 70 (.pointer (some ⟨b,c,none⟩)) (.int .u32 y)).run Tryz.prog W=.ok () (W.setCells b c [.int .u32 y]):=by
 have h:=ht 0 Zd
 obtain ⟨v,hv⟩:=Option.isSome_iff_exists.1 h.1
 have hf:=h.2
 simp only [Nat.add_zero] at hv hf
 simp [Instr.storeAt,Instr.sureAddr,go_sem,hv,hf,World.setCells]
set_option maxHeartbeats 1000000 in
theorem ycF (g cap:Nat) (x:Nat→Int) (w:World) (hg:g<w.heap.size) (hx:∀ j:Nat,j<8→w.cell? ⟨g,j,none⟩=some (.int .u32 (x j))):Calls Tryz.prog 61 #[.slice (some ⟨g,0,none⟩) 8 cap] w fun e w'=>e=.returned (.tuple #[.agg #[.int .u32 (x 0),.int .u32 (x 1),.int .u32 (x 2),.int .u32 (x 3),.int .u32 (x 4),.int .u32 (x 5),.int .u32 (x 6),.int .u32 (x 7)],.nilIface])∧Below w.heap.size w w':=by
 go_enter Tryz.func61,Tryz.ntmps61
 generalize ha0:(Act.mk _ _)=a0
 have hsz:a0.tmps.size=Tryz.f61.ntmps:=by rw [← ha0];rfl
 replace hsz:a0.tmps.size=46:=hsz.trans Zk
 have hdf:a0.defers=[]:=by rw [← ha0]
 have e0:a0.eval (.tmp 0)=.slice (some ⟨g,0,none⟩) 8 cap:=by rw [← ha0];rfl
 clear ha0
 refine ycW (c:=7) (L:=8) (k:=16) (n:=46) (K:=.u32) (LT:=70) (x:=x) (cells:=#[.int .u32 (x 0),.int .u32 (x 1),.int .u32 (x 2),.int .u32 (x 3),.int .u32 (x 4),.int .u32 (x 5),.int .u32 (x 6),.int .u32 0]) (zero:=#[.int .u32 0,.int .u32 0,.int .u32 0,.int .u32 0,.int .u32 0,.int .u32 0,.int .u32 0,.int .u32 0]) Tryz.underlying154 Zk ZW Zk Zd ZW rfl ZW ZW rfl Zk ?_ rfl Zk Zk Zk Zk rfl rfl Zk Zd Zd hsz e0 hdf hg hx ?_
 · intro a' o ho h W
   obtain rfl:=Option.some.inj ho
   have h0:a'.eval (.tmp 18)=.int .u32 (x 0):=h 0 Zd
   have h1:a'.eval (.tmp 21)=.int .u32 (x 1):=h 1 Zd
   have h2:a'.eval (.tmp 24)=.int .u32 (x 2):=h 2 Zd
   have h3:a'.eval (.tmp 27)=.int .u32 (x 3):=h 3 Zd
   have h4:a'.eval (.tmp 30)=.int .u32 (x 4):=h 4 Zd
   have h5:a'.eval (.tmp 33)=.int .u32 (x 5):=h 5 Zd
   have h6:a'.eval (.tmp 36)=.int .u32 (x 6):=h 6 Zd
   exact YQ (vs:=#[(0,.int .u32 (x 0)),(1,.int .u32 (x 1)),(2,.int .u32 (x 2)),(3,.int .u32 (x 3)),(4,.int .u32 (x 4)),(5,.int .u32 (x 5)),(6,.int .u32 (x 6))]) (by simp [h0,h1,h2,h3,h4,h5,h6]) Zk
 intro a1 w1 g0 g1 hS
 refine wp_seq ?_
 refine yB ?_
 refine yf rfl run_move ?_
 refine yf rfl (Jg (u:=.int .i64 8) (v:=.int .i64 7) (r:=.bool false) ?_ rfl Zk) ?_
 · rw [ya _ (by rw [hS.size];decide)];exact hS.e4
 refine yG ?_
 refine wp_cond_false (ya _ (by simp only [size_put,hS.size];decide)) ?_
 refine wp_skip ?_
 simp only [Exit.then]
 have hS1:RecS w 92 8 g cap g0 g1 .u32 x ([.int .u32 (x 0),.int .u32 (x 1),.int .u32 (x 2),.int .u32 (x 3),.int .u32 (x 4),.int .u32 (x 5),.int .u32 (x 6)]++[.int .u32 0]) 46 ((a1.put (some 38) (a1.eval (.tmp 4))).put (some 39) (.bool false)) w1:=
  ⟨by simp only [size_put];exact hS.size,by simp only [yq];exact hS.defers,(yb _ Zd).trans ((yb _ Zd).trans hS.e0),(yb _ Zd).trans ((yb _ Zd).trans hS.e2),(yb _ Zd).trans ((yb _ Zd).trans hS.e4),(yb _ Zd).trans ((yb _ Zd).trans hS.e5),hS.ge0,hS.ge1,hS.ne,hS.there0,hS.range,hS.there1,hS.below,hS.nums⟩
 refine set_field (c:=7) (k:=41) Tryz.underlying154 Zk ZW Zk (fun W g=>by kernel_rfl) (fun W b y ht=>store_u32 W b 7 y ht) Zd rfl rfl Zd Zd hS1 hg ?_
 intro a2 w2 hS2
 refine ret_rec (k:=45) (n:=46) (L:=8) (cs:=[.int .u32 (x 0),.int .u32 (x 1),.int .u32 (x 2),.int .u32 (x 3),.int .u32 (x 4),.int .u32 (x 5),.int .u32 (x 6),.int .u32 (x 7)]) Tryz.underlying92 rfl Zk rfl Zk rfl Zd Zd hS2 ?_
 exact fun w' hB=>⟨rfl,hB⟩
set_option maxHeartbeats 1000000 in
theorem yaA (g cap:Nat) (x:Nat→Int) (w:World) (hg:g<w.heap.size) (hx:∀ j:Nat,j<9→w.cell? ⟨g,j,none⟩=some (.int .u32 (x j))):Calls Tryz.prog 77 #[.slice (some ⟨g,0,none⟩) 9 cap] w fun e w'=>e=.returned (.tuple #[.agg #[.int .u32 (x 0),.int .u32 (x 1),.int .u32 (x 2),.int .u32 (x 3),.int .u32 (x 4),.int .u32 (x 5),.int .u32 (x 6),.int .u32 (x 7),.int .u32 (x 8)],.nilIface])∧Below w.heap.size w w':=by
 go_enter Tryz.func77,Tryz.ntmps77
 generalize ha0:(Act.mk _ _)=a0
 have hsz:a0.tmps.size=Tryz.f77.ntmps:=by rw [← ha0];rfl
 replace hsz:a0.tmps.size=48:=hsz.trans Zk
 have hdf:a0.defers=[]:=by rw [← ha0]
 have e0:a0.eval (.tmp 0)=.slice (some ⟨g,0,none⟩) 9 cap:=by rw [← ha0];rfl
 clear ha0
 refine ycW (c:=8) (L:=9) (k:=16) (n:=48) (K:=.u32) (LT:=70) (x:=x) (cells:=#[.int .u32 (x 0),.int .u32 (x 1),.int .u32 (x 2),.int .u32 (x 3),.int .u32 (x 4),.int .u32 (x 5),.int .u32 (x 6),.int .u32 (x 7),.int .u32 0]) (zero:=#[.int .u32 0,.int .u32 0,.int .u32 0,.int .u32 0,.int .u32 0,.int .u32 0,.int .u32 0,.int .u32 0,.int .u32 0]) Tryz.underlying154 Zk ZW Zk Zd ZW rfl ZW ZW rfl Zk ?_ rfl Zk Zk Zk Zk rfl rfl Zk Zd Zd hsz e0 hdf hg hx ?_
 · intro a' o ho h W
   obtain rfl:=Option.some.inj ho
   have h0:a'.eval (.tmp 18)=.int .u32 (x 0):=h 0 Zd
   have h1:a'.eval (.tmp 21)=.int .u32 (x 1):=h 1 Zd
   have h2:a'.eval (.tmp 24)=.int .u32 (x 2):=h 2 Zd
   have h3:a'.eval (.tmp 27)=.int .u32 (x 3):=h 3 Zd
   have h4:a'.eval (.tmp 30)=.int .u32 (x 4):=h 4 Zd
   have h5:a'.eval (.tmp 33)=.int .u32 (x 5):=h 5 Zd
   have h6:a'.eval (.tmp 36)=.int .u32 (x 6):=h 6 Zd
   have h7:a'.eval (.tmp 39)=.int .u32 (x 7):=h 7 Zd
   exact YQ (vs:=#[(0,.int .u32 (x 0)),(1,.int .u32 (x 1)),(2,.int .u32 (x 2)),(3,.int .u32 (x 3)),(4,.int .u32 (x 4)),(5,.int .u32 (x 5)),(6,.int .u32 (x 6)),(7,.int .u32 (x 7))]) (by simp [h0,h1,h2,h3,h4,h5,h6,h7]) Zk
 intro a1 w1 g0 g1 hS
 refine wp_seq ?_
 refine yB ?_
 refine yf rfl run_move ?_
 refine yf rfl (Jg (u:=.int .i64 9) (v:=.int .i64 8) (r:=.bool true) ?_ rfl Zk) ?_
 · rw [ya _ (by rw [hS.size];decide)];exact hS.e4
 refine yG ?_
 refine wp_cond_true (ya _ (by simp only [size_put,hS.size];decide)) ?_
 have hS1:RecS w 104 9 g cap g0 g1 .u32 x ([.int .u32 (x 0),.int .u32 (x 1),.int .u32 (x 2),.int .u32 (x 3),.int .u32 (x 4),.int .u32 (x 5),.int .u32 (x 6),.int .u32 (x 7)]++[.int .u32 0]) 48 ((a1.put (some 41) (a1.eval (.tmp 4))).put (some 42) (.bool true)) w1:=
  ⟨by simp only [size_put];exact hS.size,by simp only [yq];exact hS.defers,(yb _ Zd).trans ((yb _ Zd).trans hS.e0),(yb _ Zd).trans ((yb _ Zd).trans hS.e2),(yb _ Zd).trans ((yb _ Zd).trans hS.e4),(yb _ Zd).trans ((yb _ Zd).trans hS.e5),hS.ge0,hS.ge1,hS.ne,hS.there0,hS.range,hS.there1,hS.below,hS.nums⟩
 refine ycq (c:=8) (k:=43) Tryz.underlying154 Zk ZW Zk (fun W g=>by kernel_rfl) (fun W b y ht=>store_u32 W b 8 y ht) Zd rfl rfl Zd Zd hS1 hg ?_
 intro a2 w2 hS2
 simp only [Exit.then]
 refine ret_rec (k:=47) (n:=48) (L:=9) (cs:=[.int .u32 (x 0),.int .u32 (x 1),.int .u32 (x 2),.int .u32 (x 3),.int .u32 (x 4),.int .u32 (x 5),.int .u32 (x 6),.int .u32 (x 7),.int .u32 (x 8)]) Tryz.underlying104 rfl Zk rfl Zk rfl Zd Zd hS2 ?_
 exact fun w' hB=>⟨rfl,hB⟩
end Go.Proofs.YtdcaggoicdfehaaGreatDoor
namespace Go.Proofs
open Go.Shelf
def Tryz.laysPu14_ren:Go.Shelf.Ren:=⟨fun|14=>128|16=>136|17=>137|19=>142|20=>143|21=>144|22=>145|23=>146|24=>147|25=>149|27=>150|26=>125|28=>152|29=>155|30=>169|31=>170|32=>171|33=>172|35=>176|34=>187|36=>180|37=>188|38=>189|39=>194|40=>195|n=>n,fun|9=>9|3=>3|22=>30|24=>63|25=>272|4=>4|34=>305|5=>5|36=>307|37=>144|0=>0|39=>308|21=>21|44=>315|47=>319|50=>283|48=>281|2=>2|52=>348|55=>351|59=>372|60=>70|20=>20|61=>373|65=>389|66=>390|67=>391|n=>n,fun|0=>3|1=>4|2=>11|3=>14|4=>15|n=>n⟩
theorem Tryz.laysPu14:Go.Proofs.LaysPu.n14 Tryz.prog Tryz.laysPu14_ren:={
 mixed:=by kernel_rfl
 f14:=Tryz.func128.trans (congrArg some Zk)
 f16:=Tryz.func136.trans (congrArg some Zk)
 f17:=Tryz.func137.trans (congrArg some Zk)
 f19:=Tryz.func142.trans (congrArg some Zk)
 f20:=Tryz.func143.trans (congrArg some Zk)
 f21:=Tryz.func144.trans (congrArg some Zk)
 f22:=Tryz.func145.trans (congrArg some Zk)
 f23:=Tryz.func146.trans (congrArg some Zk)
 f24:=Tryz.func147.trans (congrArg some Zk)
 f25:=Tryz.func149.trans (congrArg some Zk)
 f26:=Tryz.func125.trans (congrArg some Zk)
 f27:=Tryz.func150.trans (congrArg some Zk)
 f28:=Tryz.func152.trans (congrArg some Zk)
 f29:=Tryz.func155.trans (congrArg some Zk)
 f30:=Tryz.func169.trans (congrArg some Zk)
 f31:=Tryz.func170.trans (congrArg some Zk)
 f32:=Tryz.func171.trans (congrArg some Zk)
 f33:=Tryz.func172.trans (congrArg some Zk)
 f34:=Tryz.func187.trans (congrArg some Zk)
 f35:=Tryz.func176.trans (congrArg some Zk)
 f36:=Tryz.func180.trans (congrArg some Zk)
 f37:=Tryz.func188.trans (congrArg some Zk)
 f38:=Tryz.func189.trans (congrArg some Zk)
 f39:=Tryz.func194.trans (congrArg some Zk)
 f40:=Tryz.func195.trans (congrArg some Zk)
 t0:=Tryz.underlying0
 a0:=Tryz.isAgg0
 z0:=Tryz.sizeOf0
 v0:=Tryz.zeroValue0
 i0:=by kernel_rfl
 t2:=Tryz.underlying2
 a2:=Tryz.isAgg2
 z2:=Tryz.sizeOf2
 v2:=Tryz.zeroValue2
 i2:=by kernel_rfl
 t3:=Tryz.underlying3
 a3:=Tryz.isAgg3
 z3:=Tryz.sizeOf3
 v3:=Tryz.zeroValue3
 i3:=by kernel_rfl
 t4:=Tryz.underlying4
 a4:=Tryz.isAgg4
 z4:=Tryz.sizeOf4
 v4:=Tryz.zeroValue4
 i4:=by kernel_rfl
 t5:=Tryz.underlying5
 a5:=Tryz.isAgg5
 z5:=Tryz.sizeOf5
 v5:=Tryz.zeroValue5
 i5:=by kernel_rfl
 t9:=Tryz.underlying9
 a9:=Tryz.isAgg9
 z9:=Tryz.sizeOf9
 v9:=Tryz.zeroValue9
 i9:=by kernel_rfl
 t20:=Tryz.underlying20
 a20:=Tryz.isAgg20
 z20:=Tryz.sizeOf20
 v20:=Tryz.zeroValue20
 i20:=by kernel_rfl
 t21:=Tryz.underlying21
 a21:=Tryz.isAgg21
 z21:=Tryz.sizeOf21
 v21:=Tryz.zeroValue21
 i21:=by kernel_rfl
 t22:=Tryz.underlying30
 a22:=Tryz.isAgg30
 z22:=Tryz.sizeOf30
 v22:=Tryz.zeroValue30
 i22:=by kernel_rfl
 t24:=Tryz.underlying63
 a24:=Tryz.isAgg63
 z24:=Tryz.sizeOf63
 v24:=Tryz.zeroValue63
 i24:=by kernel_rfl
 t25:=Tryz.underlying272
 a25:=Tryz.isAgg272
 z25:=Tryz.sizeOf272
 v25:=Tryz.zeroValue272
 i25:=by kernel_rfl
 t34:=Tryz.underlying305
 a34:=Tryz.isAgg305
 z34:=Tryz.sizeOf305
 v34:=Tryz.zeroValue305
 i34:=by kernel_rfl
 c34:=by kernel_rfl
 t36:=Tryz.underlying307
 a36:=Tryz.isAgg307
 z36:=Tryz.sizeOf307
 v36:=Tryz.zeroValue307
 i36:=by kernel_rfl
 t37:=Tryz.underlying144
 a37:=Tryz.isAgg144
 z37:=Tryz.sizeOf144
 v37:=Tryz.zeroValue144
 i37:=by kernel_rfl
 t39:=Tryz.underlying308
 a39:=Tryz.isAgg308
 z39:=Tryz.sizeOf308
 v39:=Tryz.zeroValue308
 i39:=by kernel_rfl
 t44:=Tryz.underlying315
 a44:=Tryz.isAgg315
 z44:=Tryz.sizeOf315
 v44:=Tryz.zeroValue315
 i44:=by kernel_rfl
 t47:=Tryz.underlying319
 a47:=Tryz.isAgg319
 z47:=Tryz.sizeOf319
 v47:=Tryz.zeroValue319
 i47:=by kernel_rfl
 t48:=Tryz.underlying281
 a48:=Tryz.isAgg281
 z48:=Tryz.sizeOf281
 v48:=Tryz.zeroValue281
 i48:=by kernel_rfl
 t50:=Tryz.underlying283
 a50:=Tryz.isAgg283
 z50:=Tryz.sizeOf283
 v50:=Tryz.zeroValue283
 i50:=by kernel_rfl
 t52:=Tryz.underlying348
 a52:=Tryz.isAgg348
 z52:=Tryz.sizeOf348
 v52:=Tryz.zeroValue348
 i52:=by kernel_rfl
 t55:=Tryz.underlying351
 a55:=Tryz.isAgg351
 z55:=Tryz.sizeOf351
 v55:=Tryz.zeroValue351
 i55:=by kernel_rfl
 t59:=Tryz.underlying372
 a59:=Tryz.isAgg372
 z59:=Tryz.sizeOf372
 v59:=Tryz.zeroValue372
 i59:=by kernel_rfl
 t60:=Tryz.underlying70
 a60:=Tryz.isAgg70
 z60:=Tryz.sizeOf70
 v60:=Tryz.zeroValue70
 i60:=by kernel_rfl
 t61:=Tryz.underlying373
 a61:=Tryz.isAgg373
 z61:=Tryz.sizeOf373
 t65:=Tryz.underlying389
 a65:=Tryz.isAgg389
 z65:=Tryz.sizeOf389
 v65:=Tryz.zeroValue389
 i65:=by kernel_rfl
 t66:=Tryz.underlying390
 a66:=Tryz.isAgg390
 z66:=Tryz.sizeOf390
 v66:=Tryz.zeroValue390
 i66:=by kernel_rfl
 t67:=Tryz.underlying391
 a67:=Tryz.isAgg391
 z67:=Tryz.sizeOf391
 v67:=Tryz.zeroValue391
 i67:=by kernel_rfl
 g0:=by kernel_rfl
 m0:=by kernel_rfl
 g1:=by kernel_rfl
 m1:=by kernel_rfl
 g2:=by kernel_rfl
 m2:=by kernel_rfl
 g3:=by kernel_rfl
 m3:=by kernel_rfl
 g4:=by kernel_rfl
 m4:=by kernel_rfl }
open Go.RowKit in
theorem Tryz.strconv_ParseUint_10_at64_ok (s:ByteArray) (hmax:s.size≤9223372036854775806) (u:Nat) (h:Lib.parseUintB 64 s.data.toList=.ok u) (w:World) :
 Calls Tryz.prog 128 #[.string s,.int .i64 10,.int .i64 64] w fun e w'=>e=.returned (.tuple #[.int .u64 u,.nilIface])∧(w'=w∨w'=Lib.bytesWorld w 5 s):=Any.strconv_ParseUint_10_at64_ok Tryz.laysPu14 s hmax u h w
open Go.RowKit in
theorem Tryz.strconv_ParseUint_10_at32_ok (s:ByteArray) (hmax:s.size≤9223372036854775806) (u:Nat) (h:Lib.parseUintB 32 s.data.toList=.ok u) (w:World) :
 Calls Tryz.prog 128 #[.string s,.int .i64 10,.int .i64 32] w fun e w'=>e=.returned (.tuple #[.int .u64 u,.nilIface])∧(w'=w∨w'=Lib.bytesWorld w 5 s):=Any.strconv_ParseUint_10_at32_ok Tryz.laysPu14 s hmax u h w
def Tryz.lays157_ren:Go.Shelf.Ren:=⟨fun|157=>44|229=>126|199=>127|261=>135|311=>140|312=>141|n=>n,fun|9=>9|31=>44|3=>3|5=>5|4=>4|119=>269|0=>0|40=>271|152=>284|21=>21|154=>286|51=>70|141=>288|196=>297|193=>294|198=>300|49=>298|194=>295|201=>303|226=>311|46=>307|227=>312|n=>n,fun|0=>1|6=>2|n=>n⟩
theorem Tryz.lays157:Go.Proofs.Lays.n157 Tryz.prog Tryz.lays157_ren:={
 mixed:=by kernel_rfl
 f157:=Tryz.func44.trans (congrArg some Zk)
 f199:=Tryz.func127.trans (congrArg some Zk)
 f229:=Tryz.func126.trans (congrArg some Zk)
 f261:=Tryz.func135.trans (congrArg some Zk)
 f311:=Tryz.func140.trans (congrArg some Zk)
 f312:=Tryz.func141.trans (congrArg some Zk)
 t0:=Tryz.underlying0
 a0:=Tryz.isAgg0
 z0:=Tryz.sizeOf0
 v0:=Tryz.zeroValue0
 t3:=Tryz.underlying3
 a3:=Tryz.isAgg3
 z3:=Tryz.sizeOf3
 v3:=Tryz.zeroValue3
 t4:=Tryz.underlying4
 a4:=Tryz.isAgg4
 z4:=Tryz.sizeOf4
 v4:=Tryz.zeroValue4
 t5:=Tryz.underlying5
 a5:=Tryz.isAgg5
 z5:=Tryz.sizeOf5
 v5:=Tryz.zeroValue5
 t9:=Tryz.underlying9
 a9:=Tryz.isAgg9
 z9:=Tryz.sizeOf9
 v9:=Tryz.zeroValue9
 t21:=Tryz.underlying21
 a21:=Tryz.isAgg21
 z21:=Tryz.sizeOf21
 v21:=Tryz.zeroValue21
 t31:=Tryz.underlying44
 a31:=Tryz.isAgg44
 z31:=Tryz.sizeOf44
 v31:=Tryz.zeroValue44
 t40:=Tryz.underlying271
 a40:=Tryz.isAgg271
 z40:=Tryz.sizeOf271
 v40:=Tryz.zeroValue271
 t46:=Tryz.underlying307
 a46:=Tryz.isAgg307
 z46:=Tryz.sizeOf307
 v46:=Tryz.zeroValue307
 t49:=Tryz.underlying298
 a49:=Tryz.isAgg298
 z49:=Tryz.sizeOf298
 v49:=Tryz.zeroValue298
 t51:=Tryz.underlying70
 a51:=Tryz.isAgg70
 z51:=Tryz.sizeOf70
 v51:=Tryz.zeroValue70
 t119:=Tryz.underlying269
 a119:=Tryz.isAgg269
 z119:=Tryz.sizeOf269
 t141:=Tryz.underlying288
 a141:=Tryz.isAgg288
 z141:=Tryz.sizeOf288
 v141:=Tryz.zeroValue288
 t152:=Tryz.underlying284
 a152:=Tryz.isAgg284
 z152:=Tryz.sizeOf284
 v152:=Tryz.zeroValue284
 t154:=Tryz.underlying286
 a154:=Tryz.isAgg286
 z154:=Tryz.sizeOf286
 v154:=Tryz.zeroValue286
 t193:=Tryz.underlying294
 a193:=Tryz.isAgg294
 z193:=Tryz.sizeOf294
 v193:=Tryz.zeroValue294
 t194:=Tryz.underlying295
 a194:=Tryz.isAgg295
 z194:=Tryz.sizeOf295
 v194:=Tryz.zeroValue295
 t196:=Tryz.underlying297
 a196:=Tryz.isAgg297
 z196:=Tryz.sizeOf297
 v196:=Tryz.zeroValue297
 t198:=Tryz.underlying300
 a198:=Tryz.isAgg300
 z198:=Tryz.sizeOf300
 v198:=Tryz.zeroValue300
 t201:=Tryz.underlying303
 a201:=Tryz.isAgg303
 z201:=Tryz.sizeOf303
 v201:=Tryz.zeroValue303
 t226:=Tryz.underlying311
 a226:=Tryz.isAgg311
 z226:=Tryz.sizeOf311
 v226:=Tryz.zeroValue311
 t227:=Tryz.underlying312
 a227:=Tryz.isAgg312
 z227:=Tryz.sizeOf312
 v227:=Tryz.zeroValue312
 g0:=by kernel_rfl
 g6:=by kernel_rfl }
open Go.RowKit Go.Lib in
theorem Tryz.strings_Fields (s:ByteArray) (w:World) (hs:s.size<4294967281) (hascii:∀ (j:Nat) b,s.data.toList[j]?=some b→b.toNat<128) (htab:Lib.TabIs Tryz.prog w "strings.asciiSpace" .u8 Lib.asciiSpaceTab) :
 Calls Tryz.prog 44 #[.string s] w fun e w'=>
  e=.returned (.slice (some ⟨w.heap.size,0,none⟩) (Lib.fields s.data.toList).length (Lib.fields s.data.toList).length)∧w'=w.alloc (.cells ((Lib.fields s.data.toList).map fun l=>Value.string ⟨l.toArray⟩).toArray 9):=Any.strings_Fields Tryz.lays157 Zk Zk s w hs hascii htab
end Go.Proofs
