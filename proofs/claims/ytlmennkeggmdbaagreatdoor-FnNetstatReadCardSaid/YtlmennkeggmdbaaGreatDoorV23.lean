/- Part 23 of 34 of the proof of the tied card of FnNetstatRead. -/
import Derived.Test.YtlmennkeggmdbaaGreatDoorVz
import Derived.Test.YtlmennkeggmdbaaGreatDoorRows
import Derived.Test.YtlmennkeggmdbaaGreatDoorV22
import Derived.Test.YtlmennkeggmdbaaGreatDoorV6
import Derived.Lib.LaidU8
import Derived.OpenShut
import Derived.LaidMore
import Derived.Lay
import Derived.Lib.SmallJoins
set_option linter.unusedVariables false
set_option linter.unusedSimpArgs false
namespace Go.Proofs.YtlmennkeggmdbaaGreatDoor
open Go.Lib Go.RowKit
set_option maxRecDepth 100000
theorem ge_size_none {w:World} {a:Addr} (h:w.heap.size≤a.block):w.cell? a=none:=by
 unfold World.cell?
 rw [Array.getElem?_eq_none h]
theorem qK {w W:World} (hb:Below w.heap.size w W) {a:Addr} {v:Value} (h:w.cell? a=some v):W.cell? a=some v:=by
 have hlt:a.block<w.heap.size:=by
  rcases Nat.lt_or_ge a.block w.heap.size with h'|h'
  · exact h'
  · rw [ge_size_none h'] at h;cases h
 unfold World.cell? at *
 rw [hb.block _ hlt]
 exact h
theorem laid_in (n:String) (d:DataW Unit) (h:(n,d) ∈ Rows.fnNetstatReadRow.laid) {W:World} (hL:laidMetH Tryz.prog Rows.fnNetstatReadRow.laid W):VarReads Tryz.prog W n d:=by
 rw [MakeChecks.laidMetH_plain _ _ _ Zk] at hL
 exact laidMet.reads hL h
theorem cells_one {w:World} {base:Nat} {a:Addr} {l:List Value} (h:w.cells? base a 1=some l):∃ v,l=[v]∧w.cell? a=some v:=by
 unfold World.cells? at h
 split at h
 · have e:(List.range 1).mapM (fun i=>w.cell? (a.add i))=(do let x ← w.cell? (a.add 0);pure [x]):=by
    rw [show List.range 1=[0] from rfl,List.mapM_cons,List.mapM_nil]
    rfl
   rw [e] at h
   have e0:a.add 0=a:=by simp [Addr.add]
   rw [e0] at h
   cases hc:w.cell? a with
   | none=>simp [hc] at h
   | some v=>simp [hc] at h;exact ⟨v,h.symm,rfl⟩
 · cases h
theorem trod_float {H:Type} {enc:TypeId × Value→H} {P:Program} {w:World} {base:Nat} {spare:Nat→Bool} {held:Bool} {fuel:Nat} {t:TypeId} {cs:List Value} {x:DataW H × List MemPlace} {k:FloatKind} (ht:P.underlying t=some (.float k)) (h:DataW.trod enc P w base spare held fuel t cs=some x):∃ n,cs=[.float k n]∧x=(.lit (.float k n),[]):=by
 cases fuel with
 | zero=>simp [DataW.trod] at h
 | succ n=>
  unfold DataW.trod at h
  rw [ht] at h
  split at h <;> simp_all
theorem ybQ (i:Nat) (n:String) (d:DataW Unit) (h:Rows.fnNetstatReadRow.laid[i]?=some (n,d)) {W:World} (hL:laidMetH Tryz.prog Rows.fnNetstatReadRow.laid W):VarReads Tryz.prog W n d:=laid_in n d (List.mem_of_getElem? h) hL
theorem lay_tab {W:World} (hL:laidMetH Tryz.prog Rows.fnNetstatReadRow.laid W):Lib.TabIs Tryz.prog W "strings.asciiSpace" .u8 Lib.asciiSpaceTab:=by
 obtain ⟨g,t,cs,fuel,p,hg,ht,hv,hd⟩:=ybQ 12 "strings.asciiSpace" (tabData .u8 Lib.asciiSpaceTab) Zk hL
 obtain rfl:=Option.some.inj ((show Tryz.prog.globalNamed "strings.asciiSpace" = some 1 by kernel_rfl).symm.trans hg)
 obtain rfl:=Option.some.inj ((show (Tryz.prog.globals[1]?).map (·.type)=some 134 by kernel_rfl).symm.trans ht)
 unfold TabIs
 rw [hv,← cells_of_tab (n:=256) (e:=5) (show Tryz.prog.underlying 134=some (.array 256 5) by kernel_rfl) (show Tryz.prog.underlying 5=some (.int .u8) by kernel_rfl) Zk Zk hd]
theorem lay_opt {W:World} (hL:laidMetH Tryz.prog Rows.fnNetstatReadRow.laid W):W.cell? ⟨6,0,none⟩=some (.bool true):=by
 obtain ⟨g,t,cs,fuel,p,hg,ht,hv,hd⟩:=ybQ 4 "internal/strconv.optimize" (.lit (.bool true)) Zk hL
 obtain rfl:=Option.some.inj ((show Tryz.prog.globalNamed "internal/strconv.optimize" = some 6 by kernel_rfl).symm.trans hg)
 obtain rfl:=Option.some.inj ((show (Tryz.prog.globals[6]?).map (·.type)=some 4 by kernel_rfl).symm.trans ht)
 obtain ⟨b,hb,hx⟩:=DataW.trod_bool (show Tryz.prog.underlying 4=some .bool by kernel_rfl) hd
 simp only [Prod.mk.injEq,DataW.lit.injEq,Lit.bool.injEq] at hx
 rw [World.var?_cell hg hv 0,← Array.getElem?_toList,hb,← hx.1]
 rfl
def fieldOf (u:Option TypeDesc):Option (TypeId × Nat):=match u with
 | some (.struct fs)=>fs[0]?.map fun (f:Field)=>(f.type,f.offset)
 | _=>none
theorem yc4 {u:Option TypeDesc} {x:TypeId × Nat} (h:fieldOf u=some x):∃ fs:Array Field,u=some (.struct fs)∧(fs[0]?.map fun (f:Field)=>(f.type,f.offset))=some x:=by
 unfold fieldOf at h
 split at h
 · exact ⟨_,rfl,h⟩
 · cases h
theorem info_struct:∃ fs:Array Field,Tryz.prog.underlying 159=some (.struct fs)∧(fs[0]?.map fun (f:Field)=>(f.type,f.offset))=some (157,0):=yc4 Zk
theorem lay_info {W:World} (hL:laidMetH Tryz.prog Rows.fnNetstatReadRow.laid W):W.cell? ⟨7,0,none⟩=some (.int .u64 52):=by
 obtain ⟨g,t,cs,fuel,p,hg,ht,hv,hd⟩:=ybQ 3 "internal/strconv.float64info" (.agg [.lit (.int .u64 52),.lit (.int .u64 11),.lit (.int .i64 (-1023))]) Zk hL
 obtain rfl:=Option.some.inj ((show Tryz.prog.globalNamed "internal/strconv.float64info" = some 7 by kernel_rfl).symm.trans hg)
 obtain rfl:=Option.some.inj ((show (Tryz.prog.globals[7]?).map (·.type)=some 159 by kernel_rfl).symm.trans ht)
 obtain ⟨fs,hfs⟩:=info_struct
 obtain ⟨xs,n,rfl,hx,hl,hxl,hall⟩:=DataW.trod_struct hfs.1 hd
 obtain ⟨f,hf,hft⟩:=Option.map_eq_some_iff.1 hfs.2
 simp only [Prod.mk.injEq] at hft
 have h1:=hall 0 f hf
 rw [hft.1,hft.2,show Tryz.prog.cellsOf 157=1 by kernel_rfl] at h1
 have e3:=(DataW.agg.inj (Prod.mk.inj hx).1)
 cases xs with
 | nil=>simp at e3
 | cons y ys=>
  simp only [List.getElem?_cons_zero] at h1
  obtain ⟨z,hz,rfl,_⟩:=DataW.trod_int (show Tryz.prog.underlying 157=some (.int .u64) by kernel_rfl) h1
  simp only [List.map_cons,List.cons.injEq,DataW.lit.injEq,Lit.int.injEq,true_and] at e3
  rw [World.var?_cell hg hv 0,← Array.getElem?_toList,e3.1]
  have:((cs.toList.drop 0).take 1)[0]?=some (.int .u64 z):=by rw [hz];rfl
  simpa using this
def pows:List (DataW Unit):=match (Rows.laid_internal_strconv_float64pow10:DataW Unit) with|.slice es _=>es|_=>[]
theorem lay_pow {W:World} (hL:laidMetH Tryz.prog Rows.fnNetstatReadRow.laid W):∃ (tb:Addr) (c:Nat),W.cell? ⟨10,0,none⟩=some (.slice (some tb) 23 c)∧W.cell? ⟨tb.block,tb.off+1,none⟩=some (.float .f64 4621819117588971520)∧W.cell? ⟨tb.block,tb.off+2,none⟩=some (.float .f64 4636737291354636288):=by
 obtain ⟨g,t,cs,fuel,p,hg,ht,hv,hd⟩:=ybQ 6 "internal/strconv.float64pow10" Rows.laid_internal_strconv_float64pow10 Zk hL
 obtain rfl:=Option.some.inj ((show Tryz.prog.globalNamed "internal/strconv.float64pow10" = some 10 by kernel_rfl).symm.trans hg)
 obtain rfl:=Option.some.inj ((show (Tryz.prog.globals[10]?).map (·.type)=some 126 by kernel_rfl).symm.trans ht)
 rcases DataW.trod_slice (show Tryz.prog.underlying 126=some (.slice 31) by kernel_rfl) hd with ⟨_,hx⟩|⟨a,len,cap,elems,rest,n,rfl,hcs,hx,_,hlc,_,hel,hget,_,_⟩
 · simp only [Prod.mk.injEq] at hx
   exact nomatch (show (Rows.laid_internal_strconv_float64pow10:DataW Unit)=.nil from hx.1)
 · have hx1:=(Prod.mk.inj hx).1
   have hlist:elems.map (·.1)=pows:=(DataW.slice.inj (show (DataW.slice pows []:DataW Unit)=_ from hx1)).1.symm
   have hlen:elems.length=23:=by
    have:=congrArg List.length hlist
    rw [List.length_map] at this
    exact this.trans Zk
   have h31:Tryz.prog.cellsOf 31=1:=by kernel_rfl
   have pick:∀ (i:Nat) (v:Nat),i<23→pows[i]?=some (.lit (.float .f64 v))→W.cell? (a.add (i * 1))=some (.float .f64 v):=by
    intro i v hi hv
    have h1:=hget i Zo
    rw [h31] at h1
    obtain ⟨y,hy⟩:∃ y,elems[i]?=some y:=⟨elems[i]'(by omega),List.getElem?_eq_getElem Zo⟩
    rw [hy,Option.bind_eq_some_iff] at h1
    obtain ⟨l,hl,ht⟩:=h1
    obtain ⟨x,rfl,hc⟩:=cells_one hl
    obtain ⟨z,hz,rfl⟩:=trod_float (show Tryz.prog.underlying 31=some (.float .f64) by kernel_rfl) ht
    obtain rfl:x=.float .f64 z:=by simpa using hz
    have e4:(elems.map (·.1))[i]?=some (.lit (.float .f64 v)):=by rw [hlist];exact hv
    rw [List.getElem?_map,hy] at e4
    simp only [Option.map_some,Option.some.injEq,DataW.lit.injEq,Lit.float.injEq,true_and] at e4
    rw [hc,e4]
   refine ⟨a,cap,?_,?_,?_⟩
   · rw [World.var?_cell hg hv 0,← Array.getElem?_toList,hcs,← hel,hlen];rfl
   · exact pick 1 _ Zo Zk
   · exact pick 2 _ Zo Zk
theorem offs_struct {T:TypeId} {x:TypeId × Nat} {r:List (TypeId × Nat)} (h:offs (Tryz.prog.underlying T)=x::r):∃ fs:Array Field,Tryz.prog.underlying T=some (.struct fs)∧(fs.toList.map fun (f:Field)=>(f.type,f.offset))=x::r:=by
 unfold offs at h
 split at h
 · rename_i fs hu
   exact ⟨fs,hu,h⟩
 · cases h
theorem take_one {l:List Value} {i:Nat} {v:Value} (h:(l.drop i).take 1=[v]):l[i]?=some v:=by
 have:((l.drop i).take 1)[0]?=some v:=by rw [h];rfl
 simpa using this
theorem lay_hilo {W:World} (hL:laidMetH Tryz.prog Rows.fnNetstatReadRow.laid W):W.cell? ⟨11,696,none⟩=some (.int .u64 9223372036854775808)∧W.cell? ⟨11,697,none⟩=some (.int .u64 0):=by
 obtain ⟨g,t,cs,fuel,p,hg,ht,hv,hd⟩:=ybQ 14 "internal/strconv.pow10Tab" Rows.laid_internal_strconv_pow10Tab Zk hL
 obtain rfl:=Option.some.inj ((show Tryz.prog.globalNamed "internal/strconv.pow10Tab" = some 11 by kernel_rfl).symm.trans hg)
 obtain rfl:=Option.some.inj ((show (Tryz.prog.globals[11]?).map (·.type)=some 211 by kernel_rfl).symm.trans ht)
 obtain ⟨xs,m,_,hx,_,hxl,hall⟩:=DataW.trod_array (n:=696) (e:=210) Zk hd
 have h1:=hall 348 Zd
 rw [show Tryz.prog.cellsOf 210=2 by kernel_rfl] at h1
 have hxm:xs.map (·.1)=(Go.Pinned.pow10Rows.map fun x=>(.agg [.lit (.int .u64 x.1),.lit (.int .u64 x.2)]:DataW Unit)):=(DataW.agg.inj (Prod.mk.inj hx).1).symm
 have hrow:Go.Pinned.pow10Rows[348]?=some (9223372036854775808,0):=by kernel_rfl
 obtain ⟨y,hy⟩:∃ y,xs[348]?=some y:=⟨xs[348]'(by omega),List.getElem?_eq_getElem Zo⟩
 have hy1:y.1=(.agg [.lit (.int .u64 9223372036854775808),.lit (.int .u64 0)]:DataW Unit):=by
  have h2:=congrArg (fun l=>l[348]?) hxm
  simp only [List.getElem?_map,hy,hrow,Option.map_some,Option.some.injEq] at h2
  exact h2
 rw [hy] at h1
 obtain ⟨fs,hfs,hfo⟩:=offs_struct (T:=210) (x:=(30,0)) (r:=[(30,1)]) Zk
 obtain ⟨zs,m2,_,hyz,_,hzl,hz⟩:=DataW.trod_struct hfs h1
 have hl2:fs.toList.length=2:=by have:=congrArg List.length hfo;simpa using this
 have hzm:zs.map (·.1)=[.lit (.int .u64 9223372036854775808),.lit (.int .u64 0)]:=by
  have h3:y.1=.agg (zs.map (·.1)):=congrArg Prod.fst hyz
  rw [hy1] at h3
  exact (DataW.agg.inj h3).symm
 have pick:∀ (i:Nat) (v:Int),i<2→(fs.toList.map fun (f:Field)=>(f.type,f.offset))[i]?=some (30,i)→(zs.map (·.1))[i]?=some (.lit (.int .u64 v))→W.cell? ⟨11,696+i,none⟩=some (.int .u64 v):=by
  intro i v hi hf hzi
  rw [List.getElem?_map] at hf hzi
  obtain ⟨f,hf1,hf2⟩:=Option.map_eq_some_iff.1 hf
  obtain ⟨z,hz1,hz2⟩:=Option.map_eq_some_iff.1 hzi
  simp only [Prod.mk.injEq] at hf2
  have h4:=hz i f (by simpa using hf1)
  rw [hf2.1,hf2.2,show Tryz.prog.cellsOf 30=1 by kernel_rfl,hz1] at h4
  obtain ⟨n,hn,hzn,_⟩:=DataW.trod_int (show Tryz.prog.underlying 30=some (.int .u64) by kernel_rfl) h4
  have h5:=take_one hn
  rw [hzn] at hz2
  simp only [DataW.lit.injEq,Lit.int.injEq,true_and] at hz2
  subst hz2
  rw [List.getElem?_take_of_lt Zo,List.getElem?_drop] at h5
  rw [World.var?_cell hg hv (696+i),← Array.getElem?_toList]
  exact h5
 exact ⟨pick 0 _ Zd (by rw [hfo];rfl) (by rw [hzm];rfl),pick 1 _ Zd (by rw [hfo];rfl) (by rw [hzm];rfl)⟩
theorem Qj {T:TypeId} {v:Value} {W:World} {a:Addr} (hT:(isAgg T).run Tryz.prog W=.ok false W) (hc:W.cell? a=some v):(Instr.loadAt T (.pointer (some a))).run Tryz.prog W=.ok v W:=by
 simp [Instr.loadAt,Instr.sureAddr,go_sem,hc,hT]
theorem lives_of {W:World} (hL:laidMetH Tryz.prog Rows.fnNetstatReadRow.laid W):∃ (tb:Addr) (c:Nat),yaH W tb c:=by
 obtain ⟨tb,c,h10,h1,h2⟩:=lay_pow hL
 have h6:=lay_opt hL
 have h7:=lay_info hL
 have ht:=lay_tab hL
 obtain ⟨hhi,hlo⟩:=lay_hilo hL
 refine ⟨tb,c,fun W' hW=>Go.Joins.tab_stays (g:=1) Zk ht hW (Nat.le_refl _),fun W' hW=>⟨?_,?_,?_,?_,?_,?_,?_⟩⟩
 · exact Qj Zk (qK hW h6)
 · exact Qj Zk (qK hW h7)
 · exact Qj Zk (qK hW h10)
 · exact Qj Zk (qK hW hhi)
 · exact Qj Zk (qK hW hlo)
 · exact Qj Zk (qK hW h1)
 · exact Qj Zk (qK hW h2)
end Go.Proofs.YtlmennkeggmdbaaGreatDoor
namespace Go.Proofs.YtlmennkeggmdbaaGreatDoor
open Go.RowKit Go.Proofs.YtlmennkeggmdbaaGreatDoorW.PrintWords Go.Proofs.YtlmennkeggmdbaaGreatDoorW.PrintLast Go.Proofs.YtlmennkeggmdbaaGreatDoorW.PrintMore
set_option maxRecDepth 100000 in
theorem idx34 {ad:Addr} {n c:Nat} {i:Nat} (hi:i<n) (W:World):(Instr.indexAt 32 (.slice (some ad) n c) (.int .i64 i)).run Tryz.prog W=.ok (.pointer (some (ad.add (i * 8)))) W:=by
 have hu:Tryz.prog.underlying 32=some (.slice (Tryz.prog.elem 32)):=Tryz.underlying32
 have h1:(Tryz.prog.info? (Tryz.prog.elem 32)).map (·.size)=some 8:=by kernel_rfl
 rw [run_indexAt_slice (h:=hu),if_pos ⟨by omega,by omega⟩]
 cases hq:Tryz.prog.info? (Tryz.prog.elem 32) with
 | none=>rw [hq] at h1;cases h1
 | some i'=>
  rw [hq] at h1
  have h1:i'.size=8:=by simpa using h1
  simp [sizeOf,typeInfo,hq,h1]
theorem args_c {a:Act} {c:Value}:#[Operand.const c].map a.eval=#[c]:=by
 have:a.eval (.const c)=c:=rfl
 simp [this]
theorem ld_any {T:TypeId} {v:Value} {W:World} {p:Addr} (hT:(isAgg T).run Tryz.prog W=.ok false W) (hc:W.cell? p=some v):(Instr.loadAt T (.pointer (some p))).run Tryz.prog W=.ok v W:=by
 simp [Instr.loadAt,Instr.sureAddr,go_sem,hc,hT]
theorem fa34_5 (p:Addr) (W:World):(Instr.fieldAt 34 (Value.pointer (some p)) 5).run Tryz.prog W=.ok (.pointer (some (p.add 5))) W:=by kernel_rfl
theorem eqF (x:Nat) (hx:x=Yy 0∨x=Yy 1∨x=Yy 2) (a b:Operand) (w:World):(do eqGuard .eql 31 a b (.float .f64 x) (.float .f64 x);binOp .eql 31 (.float .f64 x) (.float .f64 x):Sem Value).run Tryz.prog w=.ok (.bool true) w:=by
 rcases hx with rfl|rfl|rfl <;> kernel_rfl
set_option maxRecDepth 100000 in
set_option maxHeartbeats 2000000 in
theorem yc9 (w:World) (tb:Addr) (c:Nat) (hl:yaH w tb c):Calls Tryz.prog 8 #[] w fun e w'=>e=.returned (.bool true)∧Below w.heap.size w w':=by
 go_enter Tryz.func8,Tryz.ntmps8
 generalize ha0:(Act.mk _ _)=a0
 have hsz:a0.tmps.size=39:=by rw [← ha0];rfl
 have hdf:a0.defers=[]:=by rw [← ha0]
 clear ha0
 refine yY ?_
 refine yq rfl (YL (v:=.bool false) rfl) ?_
 refine Yd ?_
 refine wp_seq ?_
 refine wp_region_list ?_
 refine YD (some 4) rfl rfl Tryz.func21 Zk rfl #[.string Y2] rfl (args_c (c:=.string Y2)) ?_
 refine (loadavg_walk w tb c hl).mono ?_
 rintro e w1 ⟨v,rfl,hR,hB⟩
 refine ⟨_,rfl,?_⟩
 refine Kd.yB rfl (yV (v:=.tuple #[.agg (Yl ⟨#[]⟩ v),.int .i64 0]) (ya _ Zs)) ?_
 refine Kd.yB rfl (JF (u:=.tuple #[.agg (Yl ⟨#[]⟩ v),.int .i64 0]) (v:=.agg (Yl ⟨#[]⟩ v)) (ya _ Zs) (J8 _ _ _)) ?_
 refine Kd.yB rfl (JF (u:=.tuple #[.agg (Yl ⟨#[]⟩ v),.int .i64 0]) (v:=.int .i64 0) ((yb _ Zd).trans (ya _ Zs)) (J9 _ _ _)) ?_
 refine Kd.yB rfl (YT (Jh w1)) ?_
 have hgr:=YP w1 (.cells #[.string ⟨#[]⟩,.int .i64 0,.bool false,.int .i64 0,.int .u64 0,.float .f64 0,.string ⟨#[]⟩,.slice none 0 0] 34 (0,0))
 have hB2:Below w.heap.size w (w1.alloc (.cells #[.string ⟨#[]⟩,.int .i64 0,.bool false,.int .i64 0,.int .u64 0,.float .f64 0,.string ⟨#[]⟩,.slice none 0 0] 34 (0,0))):=yl hB _
 have hR2:=Kd.R_elderB (Kd.qn hR (w1:=w1.alloc (.cells #[.string ⟨#[]⟩,.int .i64 0,.bool false,.int .i64 0,.int .u64 0,.float .f64 0,.string ⟨#[]⟩,.slice none 0 0] 34 (0,0))) (fun k _ hk=>Below.heap_alloc w1 _ k hk)) 0
 have hRn:Kd.R k34 34 (w1.alloc (.cells #[.string ⟨#[]⟩,.int .i64 0,.bool false,.int .i64 0,.int .u64 0,.float .f64 0,.string ⟨#[]⟩,.slice none 0 0] 34 (0,0))) w.heap.size (fun k=>k≠w1.heap.size) v (Qi (Yy 0) (Yy 1) (Yy 2)):=Kd.Yr (Kd.qn (Kd.JP hR) (w1:=w1.alloc (.cells #[.string ⟨#[]⟩,.int .i64 0,.bool false,.int .i64 0,.int .u64 0,.float .f64 0,.string ⟨#[]⟩,.slice none 0 0] 34 (0,0))) (fun k _ hk=>Below.heap_alloc w1 _ k hk)) (fun k hk=>by have:=hk.2.2.1;omega)
 clear hR2
 obtain ⟨A,c',hv1⟩:=Kd.YF hRn
 subst hv1
 have hge:=yt hB
 generalize hgk:w1.heap.size=gk at hgr hRn ⊢
 generalize (w1.alloc (.cells #[.string ⟨#[]⟩,.int .i64 0,.bool false,.int .i64 0,.int .u64 0,.float .f64 0,.string ⟨#[]⟩,.slice none 0 0] 34 (0,0)))=w2 at hgr hB2 hRn ⊢
 obtain ⟨w3,hrun3,hb3,hoth3,hbel3⟩:=J3 (s1:=⟨#[]⟩) (k:=8) (b:=false) (i:=0) (u:=0) (f:=0) (s2:=⟨#[]⟩) (A:=A) (n:=(Qi (Yy 0) (Yy 1) (Yy 2)).length) (c:=c') hgr rfl
 refine JH rfl rfl (run_store (p:=.pointer (some ⟨gk,0,none⟩)) (v:=.agg (Yl ⟨#[]⟩ (.slice A (Qi (Yy 0) (Yy 1) (Yy 2)).length c'))) (ya _ Zs) (by simp (disch:=exact Zq hsz) only [ya,yb]) hrun3) ?_
 refine Kd.yB rfl (YL (v:=.int .i64 0) (by simp (disch:=exact Zq hsz) only [ya,yb])) ?_
 refine wpList_nil ?_
 simp only [Exit.then]
 have hR3:=Kd.qn (w1:=w3) hRn (fun j hj _=>hoth3 j hj)
 have hB3:=hbel3 _ _ Zo hB2
 have hC:=(Kd.YK hR3).2.2
 obtain ⟨ad,rfl⟩:∃ ad,A=some ad:=by
  obtain ⟨ad,hA,_⟩:=hC.2.2 Zd
  exact ⟨ad,hA⟩
 have hcell:∀ i:Nat,i<3→w3.cell? ((ad.add (i * 8)).add 5)=some (.float .f64 (Yy i)):=fun i hi=>by
  obtain ⟨ad',ce,hA,hcl,hK,hce⟩:=Kd.C_get hC z34 (i:Int) Zo (by show (i:Int)<((3:Nat):Int);omega)
  obtain rfl:=Option.some.inj hA
  have hz:k34.sz=8:=rfl
  rw [hz,Int.toNat_natCast] at hce
  rw [Int.toNat_natCast] at hK
  obtain ⟨A7,c7,rfl,l7,g7⟩:=k34_open hK
  rw [add_add]
  refine (hce 5 _ rfl).trans ?_
  match i,hi with
  | 0,_=>rfl
  | 1,_=>rfl
  | 2,_=>rfl
 generalize hq:(Act.put _ (some 2) _)=b0
 have bsz:b0.tmps.size=39:=by rw [← hq];simp only [size_put];exact hsz
 have bdf:b0.defers=[]:=by rw [← hq];simp only [yJ];exact hdf
 have b1:b0.eval (.tmp 1)=.pointer (some ⟨gk,0,none⟩):=by rw [← hq];simp (disch:=exact Zq hsz) only [ya,yb]
 have b2:b0.eval (.tmp 2)=.int .i64 0:=by rw [← hq,ya _ Zs]
 clear hq
 refine wp_seq ?_
 refine wp_region_list (ya4 ?_)
 refine YG rfl (yV (v:=.int .i64 0) (by simp (disch:=exact Zq bsz) only [ya,yb,b1,b2])) ?_
 refine YG rfl (Y0 (u:=.int .i64 0) (v:=.int .i64 0) (r:=.bool true) (by simp (disch:=exact Zq bsz) only [ya,yb,b1,b2]) rfl Zk) ?_
 refine YG rfl (yV (v:=.bool true) (by simp (disch:=exact Zq bsz) only [ya,yb,b1,b2])) ?_
 refine YI (YA (d:=9) rfl rfl rfl (by simp only [size_put,bsz];decide) (by simp (disch:=exact Zq bsz) only [ya,yb,b1,b2])) (yG (p:=.pointer (some ⟨gk,0,none⟩)) (by simp (disch:=exact Zq bsz) only [ya,yb,b1,b2]) (Q0 ..)) ?_
 refine YI (YA (d:=9) rfl rfl rfl (by simp only [size_put,bsz];decide) (by simp (disch:=exact Zq bsz) only [ya,yb,b1,b2])) (run_load (p:=.pointer (some ⟨gk,7,none⟩)) (v:=.slice (some ad) 3 c') (by simp (disch:=exact Zq bsz) only [ya,yb,b1,b2]) (ya8 hb3 rfl)) ?_
 refine YI (YA (d:=9) rfl rfl rfl (by simp only [size_put,bsz];decide) (by simp (disch:=exact Zq bsz) only [ya,yb,b1,b2])) (Qm Tryz.underlying32 (n:=3) (cap:=c') (A:=some ad) (by simp (disch:=exact Zq bsz) only [ya,yb,b1,b2]) _) ?_
 refine YI (YA (d:=9) rfl rfl rfl (by simp only [size_put,bsz];decide) (by simp (disch:=exact Zq bsz) only [ya,yb,b1,b2])) (Y0 (u:=.int .i64 ((3:Nat):Int)) (v:=.int .i64 3) (r:=.bool true) (by simp (disch:=exact Zq bsz) only [ya,yb,b1,b2]) rfl Zk) ?_
 refine YG rfl ((Jv (b:=true) (by simp (disch:=exact Zq bsz) only [ya,yb,b1,b2])).trans (show _=Result.ok (Next.value (.bool true)) _ by rw [if_pos rfl];exact congrArg (fun v=>Result.ok (Next.value v) _) (show _=Value.bool true from (by simp (disch:=exact Zq bsz) only [ya,yb,b1,b2])))) ?_
 refine YG rfl (yV (v:=.bool true) (by simp (disch:=exact Zq bsz) only [ya,yb,b1,b2])) ?_
 refine YI (YA (d:=15) rfl rfl rfl (by simp only [size_put,bsz];decide) (by simp (disch:=exact Zq bsz) only [ya,yb,b1,b2])) (yG (p:=.pointer (some ⟨gk,0,none⟩)) (by simp (disch:=exact Zq bsz) only [ya,yb,b1,b2]) (Q0 ..)) ?_
 refine YI (YA (d:=15) rfl rfl rfl (by simp only [size_put,bsz];decide) (by simp (disch:=exact Zq bsz) only [ya,yb,b1,b2])) (run_load (p:=.pointer (some ⟨gk,7,none⟩)) (v:=.slice (some ad) 3 c') (by simp (disch:=exact Zq bsz) only [ya,yb,b1,b2]) (ya8 hb3 rfl)) ?_
 refine YI (YA (d:=15) rfl rfl rfl (by simp only [size_put,bsz];decide) (by simp (disch:=exact Zq bsz) only [ya,yb,b1,b2])) (qv (u:=.slice (some ad) 3 c') (i:=.int .i64 ((0:Nat):Int)) (by simp (disch:=exact Zq bsz) only [ya,yb,b1,b2]) rfl (idx34 (i:=0) Zd _)) ?_
 refine YI (YA (d:=15) rfl rfl rfl (by simp only [size_put,bsz];decide) (by simp (disch:=exact Zq bsz) only [ya,yb,b1,b2])) (yG (p:=.pointer (some (ad.add (0 * 8)))) (by simp (disch:=exact Zq bsz) only [ya,yb,b1,b2]) (fa34_5 _ _)) ?_
 refine YI (YA (d:=15) rfl rfl rfl (by simp only [size_put,bsz];decide) (by simp (disch:=exact Zq bsz) only [ya,yb,b1,b2])) (run_load (p:=.pointer (some ((ad.add (0 * 8)).add 5))) (v:=.float .f64 (Yy 0)) (by simp (disch:=exact Zq bsz) only [ya,yb,b1,b2]) (ld_any Zk (hcell 0 Zd))) ?_
 refine YI (YA (d:=15) rfl rfl rfl (by simp only [size_put,bsz];decide) (by simp (disch:=exact Zq bsz) only [ya,yb,b1,b2])) (Y0 (u:=.float .f64 (Yy 0)) (v:=.float .f64 (Yy 0)) (r:=.bool true) (by simp (disch:=exact Zq bsz) only [ya,yb,b1,b2]) rfl (eqF _ (by simp) _ _ _)) ?_
 refine YG rfl ((Jv (b:=true) (by simp (disch:=exact Zq bsz) only [ya,yb,b1,b2])).trans (show _=Result.ok (Next.value (.bool true)) _ by rw [if_pos rfl];exact congrArg (fun v=>Result.ok (Next.value v) _) (show _=Value.bool true from (by simp (disch:=exact Zq bsz) only [ya,yb,b1,b2])))) ?_
 refine YG rfl (yV (v:=.bool true) (by simp (disch:=exact Zq bsz) only [ya,yb,b1,b2])) ?_
 refine YI (YA (d:=23) rfl rfl rfl (by simp only [size_put,bsz];decide) (by simp (disch:=exact Zq bsz) only [ya,yb,b1,b2])) (yG (p:=.pointer (some ⟨gk,0,none⟩)) (by simp (disch:=exact Zq bsz) only [ya,yb,b1,b2]) (Q0 ..)) ?_
 refine YI (YA (d:=23) rfl rfl rfl (by simp only [size_put,bsz];decide) (by simp (disch:=exact Zq bsz) only [ya,yb,b1,b2])) (run_load (p:=.pointer (some ⟨gk,7,none⟩)) (v:=.slice (some ad) 3 c') (by simp (disch:=exact Zq bsz) only [ya,yb,b1,b2]) (ya8 hb3 rfl)) ?_
 refine YI (YA (d:=23) rfl rfl rfl (by simp only [size_put,bsz];decide) (by simp (disch:=exact Zq bsz) only [ya,yb,b1,b2])) (qv (u:=.slice (some ad) 3 c') (i:=.int .i64 ((1:Nat):Int)) (by simp (disch:=exact Zq bsz) only [ya,yb,b1,b2]) rfl (idx34 (i:=1) Zd _)) ?_
 refine YI (YA (d:=23) rfl rfl rfl (by simp only [size_put,bsz];decide) (by simp (disch:=exact Zq bsz) only [ya,yb,b1,b2])) (yG (p:=.pointer (some (ad.add (1 * 8)))) (by simp (disch:=exact Zq bsz) only [ya,yb,b1,b2]) (fa34_5 _ _)) ?_
 refine YI (YA (d:=23) rfl rfl rfl (by simp only [size_put,bsz];decide) (by simp (disch:=exact Zq bsz) only [ya,yb,b1,b2])) (run_load (p:=.pointer (some ((ad.add (1 * 8)).add 5))) (v:=.float .f64 (Yy 1)) (by simp (disch:=exact Zq bsz) only [ya,yb,b1,b2]) (ld_any Zk (hcell 1 Zd))) ?_
 refine YI (YA (d:=23) rfl rfl rfl (by simp only [size_put,bsz];decide) (by simp (disch:=exact Zq bsz) only [ya,yb,b1,b2])) (Y0 (u:=.float .f64 (Yy 1)) (v:=.float .f64 (Yy 1)) (r:=.bool true) (by simp (disch:=exact Zq bsz) only [ya,yb,b1,b2]) rfl (eqF _ (by simp) _ _ _)) ?_
 refine YG rfl ((Jv (b:=true) (by simp (disch:=exact Zq bsz) only [ya,yb,b1,b2])).trans (show _=Result.ok (Next.value (.bool true)) _ by rw [if_pos rfl];exact congrArg (fun v=>Result.ok (Next.value v) _) (show _=Value.bool true from (by simp (disch:=exact Zq bsz) only [ya,yb,b1,b2])))) ?_
 refine YG rfl (yV (v:=.bool true) (by simp (disch:=exact Zq bsz) only [ya,yb,b1,b2])) ?_
 refine YI (YA (d:=31) rfl rfl rfl (by simp only [size_put,bsz];decide) (by simp (disch:=exact Zq bsz) only [ya,yb,b1,b2])) (yG (p:=.pointer (some ⟨gk,0,none⟩)) (by simp (disch:=exact Zq bsz) only [ya,yb,b1,b2]) (Q0 ..)) ?_
 refine YI (YA (d:=31) rfl rfl rfl (by simp only [size_put,bsz];decide) (by simp (disch:=exact Zq bsz) only [ya,yb,b1,b2])) (run_load (p:=.pointer (some ⟨gk,7,none⟩)) (v:=.slice (some ad) 3 c') (by simp (disch:=exact Zq bsz) only [ya,yb,b1,b2]) (ya8 hb3 rfl)) ?_
 refine YI (YA (d:=31) rfl rfl rfl (by simp only [size_put,bsz];decide) (by simp (disch:=exact Zq bsz) only [ya,yb,b1,b2])) (qv (u:=.slice (some ad) 3 c') (i:=.int .i64 ((2:Nat):Int)) (by simp (disch:=exact Zq bsz) only [ya,yb,b1,b2]) rfl (idx34 (i:=2) Zd _)) ?_
 refine YI (YA (d:=31) rfl rfl rfl (by simp only [size_put,bsz];decide) (by simp (disch:=exact Zq bsz) only [ya,yb,b1,b2])) (yG (p:=.pointer (some (ad.add (2 * 8)))) (by simp (disch:=exact Zq bsz) only [ya,yb,b1,b2]) (fa34_5 _ _)) ?_
 refine YI (YA (d:=31) rfl rfl rfl (by simp only [size_put,bsz];decide) (by simp (disch:=exact Zq bsz) only [ya,yb,b1,b2])) (run_load (p:=.pointer (some ((ad.add (2 * 8)).add 5))) (v:=.float .f64 (Yy 2)) (by simp (disch:=exact Zq bsz) only [ya,yb,b1,b2]) (ld_any Zk (hcell 2 Zd))) ?_
 refine YI (YA (d:=31) rfl rfl rfl (by simp only [size_put,bsz];decide) (by simp (disch:=exact Zq bsz) only [ya,yb,b1,b2])) (Y0 (u:=.float .f64 (Yy 2)) (v:=.float .f64 (Yy 2)) (r:=.bool true) (by simp (disch:=exact Zq bsz) only [ya,yb,b1,b2]) rfl (eqF _ (by simp) _ _ _)) ?_
 refine YG rfl ((Jv (b:=true) (by simp (disch:=exact Zq bsz) only [ya,yb,b1,b2])).trans (show _=Result.ok (Next.value (.bool true)) _ by rw [if_pos rfl];exact congrArg (fun v=>Result.ok (Next.value v) _) (show _=Value.bool true from (by simp (disch:=exact Zq bsz) only [ya,yb,b1,b2])))) ?_
 refine YG rfl (YL (v:=.bool true) (by simp (disch:=exact Zq bsz) only [ya,yb,b1,b2])) ?_
 refine rg_nil ?_
 simp only [Exit.then]
 refine wp_ret ?_
 exact Jd rfl (by simp only [yJ];exact bdf) (ya _ Zs) ⟨rfl,hB3⟩
end Go.Proofs.YtlmennkeggmdbaaGreatDoor
namespace Go.Proofs.YtlmennkeggmdbaaGreatDoor
open Go.RowKit Go.Proofs.YtlmennkeggmdbaaGreatDoorW.PrintWords Go.Proofs.YtlmennkeggmdbaaGreatDoorW.PrintLast Go.Proofs.YtlmennkeggmdbaaGreatDoorW.PrintMore
section
variable {a:Act} {d:Option Tmp} {ty:TypeId} {pos:String} {aft:Array Edge} {gd:Option (Nat × Bool)} {w:World} {x y:Operand}
theorem run_notv {b:Bool} {T:TypeId} (hx:a.eval x=.bool b):(execOp a.eval ⟨d,.unOp .not T x,ty,pos,aft,gd⟩).run Tryz.prog w=.ok (.value (.bool (!b))) w:=by
 unfold execOp
 simp only [hx]
 rfl
theorem run_not_t {T:TypeId} (hx:a.eval x=.bool true):(execOp a.eval ⟨d,.unOp .not T x,ty,pos,aft,gd⟩).run Tryz.prog w=.ok (.value (.bool false)) w:=run_notv hx
theorem ydo {c u v:Operand} {r:Value} (hc:a.eval c=.bool true) (hu:a.eval u=r):(execOp a.eval ⟨d,.pick c u v,ty,pos,aft,gd⟩).run Tryz.prog w=.ok (.value r) w:=(Jv hc).trans (by rw [if_pos rfl,hu])
theorem run_pick_f {c u v:Operand} {r:Value} (hc:a.eval c=.bool false) (hv:a.eval v=r):(execOp a.eval ⟨d,.pick c u v,ty,pos,aft,gd⟩).run Tryz.prog w=.ok (.value r) w:=(Jv hc).trans (by rw [if_neg Zd,hv])
theorem ydn {i n:Int} (hx:a.eval x=.int .i64 i) (hy:a.eval y=.int .i64 n):(execOp a.eval ⟨d,.binOp .neq 3 x y 3,ty,pos,aft,gd⟩).run Tryz.prog w=.ok (.value (.bool (!(i == n)))) w:=Y0 hx hy Zk
theorem run_eqli {i n:Int} (hx:a.eval x=.int .i64 i) (hy:a.eval y=.int .i64 n):(execOp a.eval ⟨d,.binOp .eql 3 x y 3,ty,pos,aft,gd⟩).run Tryz.prog w=.ok (.value (.bool (i == n))) w:=Y0 hx hy Zk
end
theorem ext3_0 (u v x:Value) (w:World):(Instr.extract (.tuple #[u,v,x]) 0).run Tryz.prog w=.ok u w:=by kernel_rfl
theorem ext3_1 (u v x:Value) (w:World):(Instr.extract (.tuple #[u,v,x]) 1).run Tryz.prog w=.ok v w:=by kernel_rfl
theorem ext3_2 (u v x:Value) (w:World):(Instr.extract (.tuple #[u,v,x]) 2).run Tryz.prog w=.ok x w:=by kernel_rfl
theorem args4f {a:Act} {i f g h:Nat} {u:Value} (h1:a.eval (.tmp i)=u):#[Operand.tmp i,.func f,.func g,.func h].map a.eval=#[u,.func (.func f) #[] #[],.func (.func g) #[] #[],.func (.func h) #[] #[]]:=by
 have h2:∀ f:Nat,a.eval (.func f)=.func (.func f) #[] #[]:=fun _=>rfl
 simp [h1,h2]
end Go.Proofs.YtlmennkeggmdbaaGreatDoor
