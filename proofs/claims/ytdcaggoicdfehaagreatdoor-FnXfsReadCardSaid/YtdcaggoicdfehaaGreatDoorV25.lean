/- Part 25 of 44 of the proof of the tied card of FnXfsRead. -/
import Derived.Test.YtdcaggoicdfehaaGreatDoorVz
import Derived.Test.YtdcaggoicdfehaaGreatDoorV23
import Derived.Test.YtdcaggoicdfehaaGreatDoorV24
import Derived.Test.YtdcaggoicdfehaaGreatDoorRows
import Derived.Lib.LaidU8
import Derived.OpenShut
import Derived.LaidMore
import Derived.Lay
import Derived.Lib.SmallJoins
import Derived.Test.YtdcaggoicdfehaaGreatDoorV4
import Derived.Test.YtdcaggoicdfehaaGreatDoorV10
set_option linter.unusedVariables false
set_option linter.unusedSimpArgs false
namespace Go.Proofs.YtdcaggoicdfehaaGreatDoor
open Go.RowKit Go.Proofs.YtdcaggoicdfehaaGreatDoorW.PrintWords Go.Proofs.YtdcaggoicdfehaaGreatDoorW.PrintLast Go.Proofs.YtdcaggoicdfehaaGreatDoorW.PrintMore
structure ybL (w:World) (tb:Addr) (c:Nat):Prop where
 tab:∀ W,Below w.heap.size w W→Lib.TabIs Tryz.prog W "strings.asciiSpace" .u8 Lib.asciiSpaceTab
 fv:∀ W,Below w.heap.size w W→QG W tb c
theorem ybL.step {w w1:World} {tb:Addr} {c:Nat} (h:ybL w tb c) (hB:Below w.heap.size w w1):ybL w1 tb c:=⟨fun W hW=>h.tab W (yy hB hW),fun W hW=>h.fv W (yy hB hW)⟩
theorem run_lit1s {a:Act} {d ty pos aft gd} {w w1:World} {T:TypeId} {c v:Value} (hl:(Instr.buildSlice T 1 #[(0,c)]).run Tryz.prog w=.ok v w1):(execOp a.eval ⟨d,.buildSlice T 1 #[(0,.const c)],ty,pos,aft,gd⟩).run Tryz.prog w=.ok (.value v) w1:=by
 have:(execOp a.eval ⟨d,.buildSlice T 1 #[(0,.const c)],ty,pos,aft,gd⟩)=(do pure (Next.value (← Instr.buildSlice T 1 #[(0,c)])):Sem Next):=by simp [execOp,Act.eval]
 rw [this];exact Jc hl
theorem run_mff {P:Program} {a:Act} {d ty pos aft gd} {w:World} {f i:Nat} {v:Value} (h:a.eval (.tmp i)=v) :
 (execOp a.eval ⟨d,.makeFunc (.func f) #[.tmp i] #[],ty,pos,aft,gd⟩).run P w=.ok (.value (.func (.func f) #[v] #[])) w:=by
 unfold execOp
 simp [Instr.makeFunc,h]
set_option maxRecDepth 100000 in
theorem loadAvg_walk (w:World) (tb:Addr) (c:Nat) (hl:ybL w tb c):Calls Tryz.prog 118 #[.agg #[.string Je]] w fun e w'=>∃ gs,e=.returned (.tuple #[.pointer (some ⟨gs,0,none⟩),.nilIface])∧Below w.heap.size w w'∧w'.heap[gs]?=some (.cells #[.float .f64 (Yx 0),.float .f64 (Yx 1),.float .f64 (Yx 2)] 259 (0,0)):=by
 go_enter Tryz.func118,Tryz.ntmps118
 generalize ha0:(Act.mk _ _)=a0
 have hsz:a0.tmps.size=23:=by rw [← ha0];rfl
 have hdf:a0.defers=[]:=by rw [← ha0]
 have e0:a0.eval (.tmp 0)=.agg #[.string Je]:=by rw [← ha0];rfl
 clear ha0
 refine yB ?_
 refine yf rfl (ybh (v:=.pointer (some ⟨w.heap.size,0,none⟩)) e0 (show _=Result.ok _ (w.alloc (.cells #[.string Je] 255)) by kernel_rfl)) ?_
 have hb1:=Y2 w (.cells #[.string Je] 255 (0,0))
 have hB1:Below w.heap.size w (w.alloc (.cells #[.string Je] 255 (0,0))):=ym (Below.refl _ _) _
 generalize (w.alloc (.cells #[.string Je] 255 (0,0)))=w1 at hb1 hB1 ⊢
 refine yf rfl (yX (v:=.pointer none) rfl) ?_
 refine yf rfl (yX (v:=.nilIface) rfl) ?_
 refine yG ?_
 refine wp_seq ?_
 refine wp_region_list ?_
 refine Kd.yh rfl (yF (p:=.pointer (some ⟨w.heap.size,0,none⟩)) (by simp (disch:=exact Zq hsz) only [ya,yb]) (show _=Result.ok (Value.pointer (some ⟨w.heap.size,0,none⟩)) _ by kernel_rfl)) ?_
 refine Kd.yh rfl (run_load (p:=.pointer (some ⟨w.heap.size,0,none⟩)) (v:=.string Je) (ya _ Zs) (Jx (fun _=>by kernel_rfl) hb1 rfl)) ?_
 refine Kd.yh rfl (run_lit1s (show _=Result.ok (Value.slice (some ⟨w1.heap.size,0,none⟩) 1 1) (w1.alloc (.cells #[.string ⟨#[108,111,97,100,97,118,103]⟩] 9)) by kernel_rfl)) ?_
 have hB2:Below w.heap.size w (w1.alloc (.cells #[.string ⟨#[108,111,97,100,97,118,103]⟩] 9)):=ym hB1 _
 generalize (w1.alloc (.cells #[.string ⟨#[108,111,97,100,97,118,103]⟩] 9))=w2 at hB2 ⊢
 refine Yp (some 10) rfl rfl Tryz.func130 Zk rfl #[.string Je,.slice (some ⟨w1.heap.size,0,none⟩) 1 1] rfl (ybO ((yb _ Zd).trans (ya _ Zs)) (ya _ Zs)) ?_
 refine (path_walk Je _ w2).mono ?_
 rintro e w3 ⟨rfl,rfl⟩
 refine ⟨_,rfl,?_⟩
 refine Kd.yh rfl (yX (ya _ Zs)) ?_
 refine wpList_nil ?_
 simp only [Exit.then]
 refine wp_seq ?_
 refine wp_region_list ?_
 refine Kd.yh rfl (yJ (ya _ Zs)) ?_
 refine Yp (some 13) rfl rfl Tryz.func131 Zk rfl #[.string Je] rfl (JX (ya _ Zs)) ?_
 refine (ydx Je Zd w3).mono ?_
 rintro e w4 ⟨cap,rfl,rfl⟩
 refine ⟨_,rfl,?_⟩
 have hcell:∀ j (hj:j<qG.length),(Lib.bytesWorld w3 5 Je).cell? ((⟨w3.heap.size,0,none⟩:Addr).add j)=some (.int .u8 (qG[j].toNat:Int)):=fun j hj=>by
  have hls:Je.size=qG.length:=by simp [ByteArray.size]
  rw [Addr.add_mid,Nat.zero_add,Lib.bytesWorld_cell _ _ _ _ (by rw [hls];exact hj)]
  simp [List.getD_eq_getElem?_getD,hj]
 have hlt:w3.heap.size<(Lib.bytesWorld w3 5 Je).heap.size:=by
  have:=hcell 0 Zd
  exact World.block_lt_of_cell? _ _ this
 have hB4:=yy hB2 (Lib.bytesWorld_below w3 5 Je)
 generalize (Lib.bytesWorld w3 5 Je)=w4 at hcell hlt hB4 ⊢
 have hl4:=hl.step hB4
 refine Kd.yh rfl (yJ (v:=.tuple #[.slice (some ⟨w3.heap.size,0,none⟩) Je.size cap,.nilIface]) (ya _ Zs)) ?_
 refine Kd.yh rfl (YI (u:=.tuple #[.slice (some ⟨w3.heap.size,0,none⟩) Je.size cap,.nilIface]) (v:=.slice (some ⟨w3.heap.size,0,none⟩) Je.size cap) (ya _ Zs) (qh _ _ _)) ?_
 refine Kd.yh rfl (YI (u:=.tuple #[.slice (some ⟨w3.heap.size,0,none⟩) Je.size cap,.nilIface]) (v:=.nilIface) ((yb _ Zd).trans (ya _ Zs)) (qi _ _ _)) ?_
 refine Kd.yh rfl (yX (v:=.slice (some ⟨w3.heap.size,0,none⟩) Je.size cap) (by simp (disch:=exact Zq hsz) only [ya,yb])) ?_
 refine Kd.yh rfl (yX (v:=.nilIface) (by simp (disch:=exact Zq hsz) only [ya,yb])) ?_
 refine wpList_nil ?_
 simp only [Exit.then]
 refine Ql (k:=16) (sz:=23) (er:=6) (by simp only [size_put];exact hsz) Zd (ya _ Zs) ?_
 intro c0 csz cdf cev
 have c5:c0.eval (.tmp 5)=.slice (some ⟨w3.heap.size,0,none⟩) qG.length cap:=by
  rw [cev 5 Zd Zd,yb _ Zd,ya _ Zs]
  simp [ByteArray.size]
 replace cdf:c0.defers=[]:=by rw [cdf];simp only [yq];exact hdf
 clear cev
 refine wp_seq ?_
 refine wp_region_list ?_
 refine Kd.yh rfl (yJ c5) ?_
 refine Yp (some 20) rfl rfl Tryz.func132 Zk rfl #[.slice (some ⟨w3.heap.size,0,none⟩) qG.length cap] rfl (JX (ya _ Zo)) ?_
 refine (ycY w4 w3.heap.size cap tb c hcell hl4.tab hl4.fv hlt).mono ?_
 rintro e w5 ⟨gs,rfl,hgs,hB5⟩
 refine ⟨_,rfl,?_⟩
 refine Kd.yh rfl (YI (u:=.tuple #[.pointer (some ⟨gs,0,none⟩),.nilIface]) (v:=.pointer (some ⟨gs,0,none⟩)) (ya _ Zs) (qh _ _ _)) ?_
 refine Kd.yh rfl (YI (u:=.tuple #[.pointer (some ⟨gs,0,none⟩),.nilIface]) (v:=.nilIface) ((yb _ Zd).trans (ya _ Zs)) (qi _ _ _)) ?_
 refine Kd.yh rfl (yX (v:=.pointer (some ⟨gs,0,none⟩)) (by simp (disch:=exact Zq csz) only [ya,yb])) ?_
 refine Kd.yh rfl (yX (v:=.nilIface) (by simp (disch:=exact Zq csz) only [ya,yb])) ?_
 refine wpList_nil ?_
 simp only [Exit.then]
 refine wp_ret ?_
 have p2:∀ b:Act,b.tmps.getD 2 undef=b.eval (.tmp 2):=fun _=>rfl
 have p3:∀ b:Act,b.tmps.getD 3 undef=b.eval (.tmp 3):=fun _=>rfl
 refine bodyPost_ret (results_tmp2 rfl _ _ _) (by simp only [yq];exact cdf) ⟨gs,?_,yy hB4 hB5,hgs⟩
 rw [p2,p3,yb _ Zd,ya _ Zs,ya _ Zs]
set_option maxRecDepth 100000 in
theorem loadavg_walk (w:World) (tb:Addr) (c:Nat) (hl:ybL w tb c):Calls Tryz.prog 27 #[.string Je] w fun e w'=>∃ v,e=.returned (.tuple #[.agg (yK ⟨#[]⟩ v),.int .i64 0])∧Kd.R k34 34 w' w.heap.size (fun _=>True) v (Qa (Yx 0) (Yx 1) (Yx 2))∧Below w.heap.size w w':=by
 go_enter Tryz.func27,Tryz.ntmps27
 generalize ha0:(Act.mk _ _)=a0
 have hsz:a0.tmps.size=10:=by rw [← ha0];rfl
 have hdf:a0.defers=[]:=by rw [← ha0]
 have e0:a0.eval (.tmp 0)=.string Je:=by rw [← ha0];rfl
 clear ha0
 refine yB ?_
 refine yf rfl (Y9 (JC w)) ?_
 refine yf rfl (yX (v:=.int .i64 0) rfl) ?_
 refine yG ?_
 have hgr:=Y2 w (.cells #[.string ⟨#[]⟩,.int .i64 0,.bool false,.int .i64 0,.int .u64 0,.float .f64 0,.string ⟨#[]⟩,.slice none 0 0] 34 (0,0))
 have hB1:Below w.heap.size w (w.alloc (.cells #[.string ⟨#[]⟩,.int .i64 0,.bool false,.int .i64 0,.int .u64 0,.float .f64 0,.string ⟨#[]⟩,.slice none 0 0] 34 (0,0))):=ym (Below.refl _ _) _
 generalize (w.alloc (.cells #[.string ⟨#[]⟩,.int .i64 0,.bool false,.int .i64 0,.int .u64 0,.float .f64 0,.string ⟨#[]⟩,.slice none 0 0] 34 (0,0)))=w1 at hgr hB1 ⊢
 refine wp_seq ?_
 refine wp_region_list ?_
 refine Kd.yh rfl (yJ (v:=.string Je) (by simp (disch:=exact Zq hsz) only [ya,yb,e0])) ?_
 refine Yp (some 5) rfl rfl Tryz.func117 Zk rfl #[.string Je] rfl (JX (ya _ Zs)) ?_
 refine (textFS_walk Je w1).mono ?_
 rintro e w2 ⟨rfl,hB2⟩
 refine ⟨_,rfl,?_⟩
 have hgr2:=yE hgr hB2
 have hB2w:=yy hB1 hB2
 refine Kd.yh rfl (run_mff (v:=.agg #[.string Je]) (ya _ Zs)) ?_
 refine Yp (some 7) rfl rfl Tryz.func116 Zk rfl #[.func (.func 118) #[.agg #[.string Je]] #[],.func (.func 119) #[] #[]] rfl (args_tf (ya _ Zs)) ?_
 refine (treeLa_walk Tryz.func118 Zk rfl Tryz.func119 Zk rfl (fun gs W=>W.heap[gs]?=some (.cells #[.float .f64 (Yx 0),.float .f64 (Yx 1),.float .f64 (Yx 2)] 259 (0,0))) (Qa (Yx 0) (Yx 1) (Yx 2)) w2 ?_ ?_).mono ?_
 · intro W hW
   exact loadAvg_walk W tb c (hl.step (yy hB2w hW))
 · intro gs W hst
   exact la1_walk (Yx 0) (Yx 1) (Yx 2) gs W hst
 rintro e w3 ⟨v,rfl,hR,hB⟩
 refine ⟨_,rfl,?_⟩
 refine Kd.yh rfl (YI (u:=.tuple #[.agg (yK ⟨#[]⟩ v),.int .i64 0]) (v:=.agg (yK ⟨#[]⟩ v)) (ya _ Zs) (qh _ _ _)) ?_
 refine Kd.yh rfl (YI (u:=.tuple #[.agg (yK ⟨#[]⟩ v),.int .i64 0]) (v:=.int .i64 0) ((yb _ Zd).trans (ya _ Zs)) (qi _ _ _)) ?_
 have hR':=Kd.yaw hR hgr2
 obtain ⟨A,c',hv1⟩:=Kd.Y7 hR'
 subst hv1
 obtain ⟨w4,hrun4,hb4,hoth4,hbel4⟩:=qL (s1:=⟨#[]⟩) (k:=8) (b:=false) (i:=0) (u:=0) (f:=0) (s2:=⟨#[]⟩) (A:=A) (n:=(Qa (Yx 0) (Yx 1) (Yx 2)).length) (c:=c') (yE hgr2 hB) rfl
 refine Jk rfl rfl (run_store (p:=.pointer (some ⟨w.heap.size,0,none⟩)) (v:=.agg (yK ⟨#[]⟩ (.slice A (Qa (Yx 0) (Yx 1) (Yx 2)).length c'))) (by simp (disch:=exact Zq hsz) only [ya,yb]) (by simp (disch:=exact Zq hsz) only [ya,yb]) hrun4) ?_
 refine Kd.yh rfl (yX (v:=.int .i64 0) (ya _ Zs)) ?_
 refine wpList_nil ?_
 simp only [Exit.then]
 refine wp_ret ?_
 have hp2:∀ b:Act,b.tmps.getD 2 undef=b.eval (.tmp 2):=fun _=>rfl
 have hp3:∀ b:Act,b.tmps.getD 3 undef=b.eval (.tmp 3):=fun _=>rfl
 refine bodyPost_ret (qj rfl _ _ w.heap.size 34 (yK ⟨#[]⟩ (.slice A (Qa (Yx 0) (Yx 1) (Yx 2)).length c')) (0,0) _ ?_ hb4 Tryz.underlying34 rfl Zk) (by simp only [yq];exact hdf) ⟨_,?_,Kd.JU (Kd.YM (Kd.qH hR' (fun j hj _=>hoth4 j hj.2)) (fun _ _=>trivial)) (yt hB2w),hbel4 _ _ (Nat.le_refl _) (yy hB2w hB)⟩
 · rw [hp2];simp (disch:=exact Zq hsz) only [ya,yb]
 · rw [hp3,ya _ Zs]
end Go.Proofs.YtdcaggoicdfehaaGreatDoor
namespace Go.Proofs.YtdcaggoicdfehaaGreatDoor
open Go.Lib Go.RowKit
set_option maxRecDepth 100000
theorem ge_size_none {w:World} {a:Addr} (h:w.heap.size≤a.block):w.cell? a=none:=by
 unfold World.cell?
 rw [Array.getElem?_eq_none h]
theorem QM {w W:World} (hb:Below w.heap.size w W) {a:Addr} {v:Value} (h:w.cell? a=some v):W.cell? a=some v:=by
 have hlt:a.block<w.heap.size:=by
  rcases Nat.lt_or_ge a.block w.heap.size with h'|h'
  · exact h'
  · rw [ge_size_none h'] at h;cases h
 unfold World.cell? at *
 rw [hb.block _ hlt]
 exact h
theorem laid_in (n:String) (d:DataW Unit) (h:(n,d) ∈ Rows.fnXfsReadRow.laid) {W:World} (hL:laidMetH Tryz.prog Rows.fnXfsReadRow.laid W):VarReads Tryz.prog W n d:=by
 rw [MakeChecks.laidMetH_plain _ _ _ Zk] at hL
 exact laidMet.reads hL h
theorem cells_one {w:World} {base:Nat} {a:Addr} {l:List Value} (h:w.cells? base a 1=some l):∃ v,l=[v]∧w.cell? a=some v:=by
 unfold World.cells? at h
 split at h
 · have e:(List.range 1).mapM (fun i=>w.cell? (a.add i))=(do let x ← w.cell? (a.add 0);pure [x]):=by
    rw [show List.range 1=[0] from rfl,List.mapM_cons,List.mapM_nil]
    rfl
   rw [e] at h
   have e0:a.add 0=a:=by simp [Addr.add]
   rw [e0] at h
   cases hc:w.cell? a with
   | none=>simp [hc] at h
   | some v=>simp [hc] at h;exact ⟨v,h.symm,rfl⟩
 · cases h
theorem trod_float {H:Type} {enc:TypeId × Value→H} {P:Program} {w:World} {base:Nat} {spare:Nat→Bool} {held:Bool} {fuel:Nat} {t:TypeId} {cs:List Value} {x:DataW H × List MemPlace} {k:FloatKind} (ht:P.underlying t=some (.float k)) (h:DataW.trod enc P w base spare held fuel t cs=some x):∃ n,cs=[.float k n]∧x=(.lit (.float k n),[]):=by
 cases fuel with
 | zero=>simp [DataW.trod] at h
 | succ n=>
  unfold DataW.trod at h
  rw [ht] at h
  split at h <;> simp_all
theorem ycI (i:Nat) (n:String) (d:DataW Unit) (h:Rows.fnXfsReadRow.laid[i]?=some (n,d)) {W:World} (hL:laidMetH Tryz.prog Rows.fnXfsReadRow.laid W):VarReads Tryz.prog W n d:=laid_in n d (List.mem_of_getElem? h) hL
theorem lay_tab {W:World} (hL:laidMetH Tryz.prog Rows.fnXfsReadRow.laid W):Lib.TabIs Tryz.prog W "strings.asciiSpace" .u8 Lib.asciiSpaceTab:=by
 obtain ⟨g,t,cs,fuel,p,hg,ht,hv,hd⟩:=ycI 12 "strings.asciiSpace" (tabData .u8 Lib.asciiSpaceTab) Zk hL
 obtain rfl:=Option.some.inj ((show Tryz.prog.globalNamed "strings.asciiSpace" = some 1 by kernel_rfl).symm.trans hg)
 obtain rfl:=Option.some.inj ((show (Tryz.prog.globals[1]?).map (·.type)=some 269 by kernel_rfl).symm.trans ht)
 unfold TabIs
 rw [hv,← cells_of_tab (n:=256) (e:=5) (show Tryz.prog.underlying 269=some (.array 256 5) by kernel_rfl) (show Tryz.prog.underlying 5=some (.int .u8) by kernel_rfl) Zk Zk hd]
theorem lay_opt {W:World} (hL:laidMetH Tryz.prog Rows.fnXfsReadRow.laid W):W.cell? ⟨6,0,none⟩=some (.bool true):=by
 obtain ⟨g,t,cs,fuel,p,hg,ht,hv,hd⟩:=ycI 4 "internal/strconv.optimize" (.lit (.bool true)) Zk hL
 obtain rfl:=Option.some.inj ((show Tryz.prog.globalNamed "internal/strconv.optimize" = some 6 by kernel_rfl).symm.trans hg)
 obtain rfl:=Option.some.inj ((show (Tryz.prog.globals[6]?).map (·.type)=some 4 by kernel_rfl).symm.trans ht)
 obtain ⟨b,hb,hx⟩:=DataW.trod_bool (show Tryz.prog.underlying 4=some .bool by kernel_rfl) hd
 simp only [Prod.mk.injEq,DataW.lit.injEq,Lit.bool.injEq] at hx
 rw [World.var?_cell hg hv 0,← Array.getElem?_toList,hb,← hx.1]
 rfl
def fieldOf (u:Option TypeDesc):Option (TypeId × Nat):=match u with
 | some (.struct fs)=>fs[0]?.map fun (f:Field)=>(f.type,f.offset)
 | _=>none
theorem ydh {u:Option TypeDesc} {x:TypeId × Nat} (h:fieldOf u=some x):∃ fs:Array Field,u=some (.struct fs)∧(fs[0]?.map fun (f:Field)=>(f.type,f.offset))=some x:=by
 unfold fieldOf at h
 split at h
 · exact ⟨_,rfl,h⟩
 · cases h
theorem info_struct:∃ fs:Array Field,Tryz.prog.underlying 332=some (.struct fs)∧(fs[0]?.map fun (f:Field)=>(f.type,f.offset))=some (307,0):=ydh Zk
theorem lay_info {W:World} (hL:laidMetH Tryz.prog Rows.fnXfsReadRow.laid W):W.cell? ⟨7,0,none⟩=some (.int .u64 52):=by
 obtain ⟨g,t,cs,fuel,p,hg,ht,hv,hd⟩:=ycI 3 "internal/strconv.float64info" (.agg [.lit (.int .u64 52),.lit (.int .u64 11),.lit (.int .i64 (-1023))]) Zk hL
 obtain rfl:=Option.some.inj ((show Tryz.prog.globalNamed "internal/strconv.float64info" = some 7 by kernel_rfl).symm.trans hg)
 obtain rfl:=Option.some.inj ((show (Tryz.prog.globals[7]?).map (·.type)=some 332 by kernel_rfl).symm.trans ht)
 obtain ⟨fs,hfs⟩:=info_struct
 obtain ⟨xs,n,rfl,hx,hl,hxl,hall⟩:=DataW.trod_struct hfs.1 hd
 obtain ⟨f,hf,hft⟩:=Option.map_eq_some_iff.1 hfs.2
 simp only [Prod.mk.injEq] at hft
 have h1:=hall 0 f hf
 rw [hft.1,hft.2,show Tryz.prog.cellsOf 307=1 by kernel_rfl] at h1
 have e3:=(DataW.agg.inj (Prod.mk.inj hx).1)
 cases xs with
 | nil=>simp at e3
 | cons y ys=>
  simp only [List.getElem?_cons_zero] at h1
  obtain ⟨z,hz,rfl,_⟩:=DataW.trod_int (show Tryz.prog.underlying 307=some (.int .u64) by kernel_rfl) h1
  simp only [List.map_cons,List.cons.injEq,DataW.lit.injEq,Lit.int.injEq,true_and] at e3
  rw [World.var?_cell hg hv 0,← Array.getElem?_toList,e3.1]
  have:((cs.toList.drop 0).take 1)[0]?=some (.int .u64 z):=by rw [hz];rfl
  simpa using this
def pows:List (DataW Unit):=match (Rows.laid_internal_strconv_float64pow10:DataW Unit) with|.slice es _=>es|_=>[]
theorem lay_pow {W:World} (hL:laidMetH Tryz.prog Rows.fnXfsReadRow.laid W):∃ (tb:Addr) (c:Nat),W.cell? ⟨10,0,none⟩=some (.slice (some tb) 23 c)∧W.cell? ⟨tb.block,tb.off+1,none⟩=some (.float .f64 4621819117588971520)∧W.cell? ⟨tb.block,tb.off+2,none⟩=some (.float .f64 4636737291354636288):=by
 obtain ⟨g,t,cs,fuel,p,hg,ht,hv,hd⟩:=ycI 6 "internal/strconv.float64pow10" Rows.laid_internal_strconv_float64pow10 Zk hL
 obtain rfl:=Option.some.inj ((show Tryz.prog.globalNamed "internal/strconv.float64pow10" = some 10 by kernel_rfl).symm.trans hg)
 obtain rfl:=Option.some.inj ((show (Tryz.prog.globals[10]?).map (·.type)=some 290 by kernel_rfl).symm.trans ht)
 rcases DataW.trod_slice (show Tryz.prog.underlying 290=some (.slice 31) by kernel_rfl) hd with ⟨_,hx⟩|⟨a,len,cap,elems,rest,n,rfl,hcs,hx,_,hlc,_,hel,hget,_,_⟩
 · simp only [Prod.mk.injEq] at hx
   exact nomatch (show (Rows.laid_internal_strconv_float64pow10:DataW Unit)=.nil from hx.1)
 · have hx1:=(Prod.mk.inj hx).1
   have hlist:elems.map (·.1)=pows:=(DataW.slice.inj (show (DataW.slice pows []:DataW Unit)=_ from hx1)).1.symm
   have hlen:elems.length=23:=by
    have:=congrArg List.length hlist
    rw [List.length_map] at this
    exact this.trans Zk
   have h31:Tryz.prog.cellsOf 31=1:=by kernel_rfl
   have pick:∀ (i:Nat) (v:Nat),i<23→pows[i]?=some (.lit (.float .f64 v))→W.cell? (a.add (i * 1))=some (.float .f64 v):=by
    intro i v hi hv
    have h1:=hget i Zo
    rw [h31] at h1
    obtain ⟨y,hy⟩:∃ y,elems[i]?=some y:=⟨elems[i]'(by omega),List.getElem?_eq_getElem Zo⟩
    rw [hy,Option.bind_eq_some_iff] at h1
    obtain ⟨l,hl,ht⟩:=h1
    obtain ⟨x,rfl,hc⟩:=cells_one hl
    obtain ⟨z,hz,rfl⟩:=trod_float (show Tryz.prog.underlying 31=some (.float .f64) by kernel_rfl) ht
    obtain rfl:x=.float .f64 z:=by simpa using hz
    have e4:(elems.map (·.1))[i]?=some (.lit (.float .f64 v)):=by rw [hlist];exact hv
    rw [List.getElem?_map,hy] at e4
    simp only [Option.map_some,Option.some.injEq,DataW.lit.injEq,Lit.float.injEq,true_and] at e4
    rw [hc,e4]
   refine ⟨a,cap,?_,?_,?_⟩
   · rw [World.var?_cell hg hv 0,← Array.getElem?_toList,hcs,← hel,hlen];rfl
   · exact pick 1 _ Zo Zk
   · exact pick 2 _ Zo Zk
theorem yak {T:TypeId} {v:Value} {W:World} {a:Addr} (hT:(isAgg T).run Tryz.prog W=.ok false W) (hc:W.cell? a=some v):(Instr.loadAt T (.pointer (some a))).run Tryz.prog W=.ok v W:=by
 simp [Instr.loadAt,Instr.sureAddr,go_sem,hc,hT]
theorem lives_of {W:World} (hL:laidMetH Tryz.prog Rows.fnXfsReadRow.laid W):∃ (tb:Addr) (c:Nat),ybL W tb c:=by
 obtain ⟨tb,c,h10,h1,h2⟩:=lay_pow hL
 have h6:=lay_opt hL
 have h7:=lay_info hL
 have ht:=lay_tab hL
 refine ⟨tb,c,fun W' hW=>Go.Joins.tab_stays (g:=1) Zk ht hW (Nat.le_refl _),fun W' hW=>⟨?_,?_,?_,?_,?_⟩⟩
 · exact yak Zk (QM hW h6)
 · exact yak Zk (QM hW h7)
 · exact yak Zk (QM hW h10)
 · exact yak Zk (QM hW h1)
 · exact yak Zk (QM hW h2)
end Go.Proofs.YtdcaggoicdfehaaGreatDoor
namespace Go.Proofs.YtdcaggoicdfehaaGreatDoor
open Go.RowKit Go.Proofs.YtdcaggoicdfehaaGreatDoorW.PrintWords Go.Proofs.YtdcaggoicdfehaaGreatDoorW.PrintLast Go.Proofs.YtdcaggoicdfehaaGreatDoorW.PrintMore
attribute [local go_sem] YX YV Ja Jb YK YL YW YU
mutual
def yW.l0:Nat→ByteArray→Int→Int→Option (Bool)
 | 0,_,_,_=>none
 | k+1,x0,x6,x7=>if x7<x6 then (if 0≤x7 then (if x7<(x0.size:Int) then (if (bt x0 x7) > 126 then (yW.j1 k x0 x6 x7 true) else (if (bt x0 x7)<32 then (if (bt x0 x7)=10 then (yW.j1 k x0 x6 x7 false) else (yW.j1 k x0 x6 x7 ((bt x0 x7) != 9))) else (yW.j1 k x0 x6 x7 false))) else (none)) else (none)) else (some true)
def yW.j1:Nat→ByteArray→Int→Int→Bool→Option (Bool)
 | 0,_,_,_,_=>none
 | k+1,x0,x6,x7,x26=>if x26=true then (some false) else (yW.l0 k x0 x6 (wrap64 (x7+1)))
end
def yW.f (k:Nat) (a0:ByteArray):Option (Bool):=yW.l0 k a0 (a0.size:Int) 0
theorem yW.YB:∀ k,(∀ y0 y1 y2,LeO (yW.l0 k y0 y1 y2) (yW.l0 (k+1) y0 y1 y2))∧(∀ y0 y1 y2 y3,LeO (yW.j1 k y0 y1 y2 y3) (yW.j1 (k+1) y0 y1 y2 y3))
 | 0=>⟨fun _ _ _ r h=>by simp [yW.l0] at h,fun _ _ _ _ r h=>by simp [yW.j1] at h⟩
 | k+1=>by
  obtain ⟨ih0,ih1⟩:=yW.YB k
  refine ⟨?_,?_⟩
  · intro y0 y1 y2
    unfold yW.l0
    repeat' first
    | (with_reducible exact ih0 _ _ _)
    | (with_reducible exact ih1 _ _ _ _)
    | (with_reducible exact LeO.refl _)
    | (with_reducible exact LeO.none _)
    | (with_reducible refine LeO.ite ?_ ?_)
    | (with_reducible refine LeO.bind ?_ (fun _=>?_))
    | exact ih0 _ _ _
    | exact ih1 _ _ _ _
    | exact LeO.none _
    | refine LeO.ite ?_ ?_
    | refine LeO.bind ?_ (fun _=>?_)
  · intro y0 y1 y2 y3
    unfold yW.j1
    repeat' first
    | (with_reducible exact ih0 _ _ _)
    | (with_reducible exact ih1 _ _ _ _)
    | (with_reducible exact LeO.refl _)
    | (with_reducible exact LeO.none _)
    | (with_reducible refine LeO.ite ?_ ?_)
    | (with_reducible refine LeO.bind ?_ (fun _=>?_))
    | exact ih0 _ _ _
    | exact ih1 _ _ _ _
    | exact LeO.none _
    | refine LeO.ite ?_ ?_
    | refine LeO.bind ?_ (fun _=>?_)
theorem yW.mono:∀ a0 k,LeO (yW.f k a0) (yW.f (k+1) a0):=by
 intro a0 k
 obtain ⟨ih0,ih1⟩:=yW.YB k
 unfold yW.f
 repeat' first
  | (with_reducible exact ih0 _ _ _)
  | (with_reducible exact ih1 _ _ _ _)
  | (with_reducible exact LeO.refl _)
  | (with_reducible exact LeO.none _)
  | (with_reducible refine LeO.ite ?_ ?_)
  | (with_reducible refine LeO.bind ?_ (fun _=>?_))
  | exact ih0 _ _ _
  | exact ih1 _ _ _ _
  | exact LeO.none _
  | refine LeO.ite ?_ ?_
  | refine LeO.bind ?_ (fun _=>?_)
set_option maxHeartbeats 8000000 in
set_option maxRecDepth 100000 in
theorem yW.calls (k:Nat) (a0:ByteArray) (r:Bool) (w:World) (h:yW.f k a0=some r) :
 Calls Tryz.prog 32 #[.string a0] w fun e w'=>e=.returned (.bool r)∧yV w w':=by
 have H:(yW.l0 k a0 (a0.size:Int) 0)=some r:=h
 clear h
 have H':=yc.mk H
 clear H
 go_enter Tryz.func32,Tryz.ntmps32
 go_wp2
 go_loopg [7] k (fun kq v7 w'=>∃ (x7_1:Int),v7=.int .i64 x7_1∧yc (yW.l0 kq a0 (a0.size:Int) x7_1=some r)∧yc (kq≤k)∧yV w w')
 case atStart=>exact ⟨(0),(by first|rfl|(simp;done)|(simp [*];done)|(simp [yx];done)),H',⟨Nat.le_refl _⟩,by repeat (first|exact yV.refl _|apply yV.step)⟩
 case round=>
  clear H'
  obtain ⟨x7_1,rfl,HA,HK1,⟨m1,rfl⟩⟩:=hrel
  cases gk with
  | zero=>exact absurd HA.out (by simp [yW.l0])
  | succ k1=>
   have H:=HA.out
   clear HA
   simp only [yW.l0] at H
   by_cases c2:x7_1<(a0.size:Int)
   · rw [if_pos c2] at H
     have c2b0:decide (x7_1<(a0.size:Int))=true:=decide_eq_true c2
     clear c2
     by_cases c3:0≤x7_1
     · rw [if_pos c3] at H
       have c3b0:decide (0≤x7_1)=true:=decide_eq_true c3
       clear c3
       by_cases c4:x7_1<(a0.size:Int)
       · rw [if_pos c4] at H
         have c4b0:decide (x7_1<(a0.size:Int))=true:=decide_eq_true c4
         clear c4
         have HC6:=yc.mk H
         clear H
         have p5:0≤(x7_1:Int):=of_decide_eq_true (by first|(with_reducible assumption)|assumption)
         have q5:x7_1<(a0.size:Int):=of_decide_eq_true (by first|(with_reducible assumption)|assumption)
         have hx5:=yaX a0 x7_1
         replace p5:=eq_true p5
         replace q5:=eq_true q5
         go_upto_region 5 with (fail)
         go_cut [26] (fun v26 wc=>∃ (kq:Nat) (x26_5:Bool),v26=.bool x26_5∧yc (yW.j1 kq a0 (a0.size:Int) x7_1 x26_5=some r)∧yc (kq≤k1)∧yV w wc)
         case first=>
          have H:=HC6.out
          clear HC6
          by_cases c7:(bt a0 x7_1) > 126
          · rw [if_pos c7] at H
            have c7b0:decide (126<(bt a0 x7_1))=true:=decide_eq_true c7
            clear c7
            (first|rw [c7b0]|(simp only [Yq,Yu];rw [c7b0])|skip)
            have H':=yc.mk H
            clear H
            go_wp2
            go_meet
            case rel=>exact ⟨_,(true),(by first|rfl|(simp;done)|(simp [*];done)|(simp [yx];done)),H',⟨by have:=HK1.out;first|omega|exact Nat.le_refl _⟩,by repeat (first|exact yV.refl _|apply yV.step)⟩
          · rw [if_neg c7] at H
            have c7b0:decide (126<(bt a0 x7_1))=false:=decide_eq_false c7
            clear c7
            (first|rw [c7b0]|(simp only [Yq,Yu];rw [c7b0])|skip)
            by_cases c8:(bt a0 x7_1)<32
            · rw [if_pos c8] at H
              have c8b0:decide ((bt a0 x7_1)<32)=true:=decide_eq_true c8
              clear c8
              by_cases c9:(bt a0 x7_1)=10
              · rw [if_pos c9] at H
                have c9b0:((bt a0 x7_1) == 10)=true:=beq_iff_eq.mpr c9
                have c9b1:((bt a0 x7_1) != 10)=false:=bne_eq_false_iff_eq.mpr c9
                clear c9
                have H':=yc.mk H
                clear H
                go_wp2
                go_meet
                case rel=>exact ⟨_,(false),(by first|rfl|(simp;done)|(simp [*];done)|(simp [yx];done)),H',⟨by have:=HK1.out;first|omega|exact Nat.le_refl _⟩,by repeat (first|exact yV.refl _|apply yV.step)⟩
              · rw [if_neg c9] at H
                have c9b0:((bt a0 x7_1) == 10)=false:=beq_eq_false_iff_ne.mpr c9
                have c9b1:((bt a0 x7_1) != 10)=true:=bne_iff_ne.mpr c9
                have H':=yc.mk H
                clear H
                go_wp2
                go_meet
                case rel=>exact ⟨_,(((bt a0 x7_1) != 9)),(by first|rfl|(simp;done)|(simp [*];done)|(simp [yx];done)),H',⟨by have:=HK1.out;first|omega|exact Nat.le_refl _⟩,by repeat (first|exact yV.refl _|apply yV.step)⟩
            · rw [if_neg c8] at H
              have c8b0:decide ((bt a0 x7_1)<32)=false:=decide_eq_false c8
              clear c8
              have H':=yc.mk H
              clear H
              go_wp2
              go_meet
              case rel=>exact ⟨_,(false),(by first|rfl|(simp;done)|(simp [*];done)|(simp [yx];done)),H',⟨by have:=HK1.out;first|omega|exact Nat.le_refl _⟩,by repeat (first|exact yV.refl _|apply yV.step)⟩
         case rest=>
          clear HC6
          try clear c2
          try clear c2b0
          try clear p2
          try clear c3
          try clear c3b0
          try clear c4
          try clear c4b0
          try clear p5
          try clear q5
          try clear hx5
          try clear c7
          try clear c7b0
          try clear c8
          try clear c8b0
          try clear c9
          try clear c9b0
          try clear c9b1
          try clear p5
          try clear q5
          obtain ⟨kq,x26_5,rfl,HA,HJ5,⟨mc5,rfl⟩⟩:=hcut
          cases kq with
          | zero=>exact absurd HA.out (by simp [yW.j1])
          | succ kj5=>
           have H:=HA.out
           clear HA
           simp only [yW.j1] at H
           by_cases c10:x26_5=true
           · subst c10
             have H1:(some false)=some r:=by rw [if_pos rfl] at H;exact H
             clear H
             have H:=H1
             clear H1
             obtain rfl:=Option.some.inj H
             go_wp2
             go_ret
             exact ⟨by first|rfl|(simp;done)|(simp [*];done)|(simp [yx];done),by repeat (first|exact yV.refl _|apply yV.step)⟩
           · replace c10:=Bool.eq_false_iff.mpr c10
             subst c10
             have H1:(yW.l0 kj5 a0 (a0.size:Int) (wrap64 (x7_1+1)))=some r:=by rw [if_neg (show ¬ (false=true) by decide)] at H;exact H
             clear H
             have H:=H1
             clear H1
             have H':=yc.mk H
             clear H
             go_wp2
             go_roundg kj5
             case measure=>have:=HK1.out;have:=HJ5.out;omega
             case rel=>exact ⟨(wrap64 (x7_1+1)),(by first|rfl|(simp;done)|(simp [*];done)|(simp [yx];done)),H',⟨by have:=HK1.out;have:=HJ5.out;omega⟩,by repeat (first|exact yV.refl _|apply yV.step)⟩
       · rw [if_neg c4] at H
         exact absurd H (by simp)
     · rw [if_neg c3] at H
       exact absurd H (by simp)
   · rw [if_neg c2] at H
     have c2b0:decide (x7_1<(a0.size:Int))=false:=decide_eq_false c2
     clear c2
     obtain rfl:=Option.some.inj H
     go_wp2
     go_ret
     exact ⟨by first|rfl|(simp;done)|(simp [*];done)|(simp [yx];done),by repeat (first|exact yV.refl _|apply yV.step)⟩
end Go.Proofs.YtdcaggoicdfehaaGreatDoor
namespace Go.Proofs.YtdcaggoicdfehaaGreatDoor
open Go.RowKit Go.Proofs.YtdcaggoicdfehaaGreatDoorW.PrintWords Go.Proofs.YtdcaggoicdfehaaGreatDoorW.PrintLast Go.Proofs.YtdcaggoicdfehaaGreatDoorW.PrintMore
def Y6.f:Option (List (S53)):=some yZ
theorem Y6.calls (r:List (S53)) (w:World) (h:Y6.f=some r) :
 Calls Tryz.prog 17 #[] w fun e w'=>∃ v0_:Value,e=.returned (v0_)∧Kd.N k53 53 w' w.heap.size (fun k_=>(w.heap.size≤k_)) v0_ r∧Below w.heap.size w w':=by
 obtain rfl:=Option.some.inj h
 exact ydD w
end Go.Proofs.YtdcaggoicdfehaaGreatDoor
