/- Part 19 of 44 of the proof of the tied card of FnXfsRead. -/
import Derived.Test.YtdcaggoicdfehaaGreatDoorVz
import Derived.Test.YtdcaggoicdfehaaGreatDoorV18
import Derived.Defers
import Derived.Recover
set_option linter.unusedVariables false
set_option linter.unusedSimpArgs false
namespace Go.Proofs.YtdcaggoicdfehaaGreatDoor
open Go.RowKit Go.Proofs.YtdcaggoicdfehaaGreatDoorW.PrintWords Go.Proofs.YtdcaggoicdfehaaGreatDoorW.PrintLast Go.Proofs.YtdcaggoicdfehaaGreatDoorW.PrintMore
theorem yaz {P:Program} {ops:Array Oper} {Q:Exit→Act→World→Prop} {rest:List Oper} {oi:Oper} {a:Act} {w:World} (N:Option Tmp) (hd:oi.dst=N) (hg:oi.guard=none) {f:FuncId} {fn:Func} {x:Operand} {cap:Array Value} {ao:Array Operand} {ts:Array TypeId}
 (hx:a.eval x=.func (.func f) #[] cap) (hf:P.funcs[f]?=some fn) (hname:(fn.name == "runtime.NumGoroutine")=false) (hb:fn.body.isSome=true) (args0:Array Value) (args:Array Value)
 (hop:oi.op=.call { callee:=.value x,args:=ao,argTypes:=ts }) (hargs:ao.map a.eval=args0) (hall:args0++cap=args)
 (h:Calls P f args w fun e w'=>∃ v,e=.returned v∧wpList P ops Q rest (a.put N v) w'):wpList P ops Q (oi::rest) a w:=by
 refine wpList_plain hg fun K hK=>?_
 have he:=ybe hf hname hb args w
 have hrun:(execOp a.eval oi).run P w=.ok (.enter f args) w:=by
  unfold execOp
  simp [hop,resolve,Deferred.ofValue,invoke,hx,hargs,hall,he]
 unfold Oper.wp
 rw [hrun,Oper.upon_enter]
 refine h.mono fun e w'' hh=>?_
 obtain ⟨v,rfl,hk⟩:=hh
 subst hd
 exact hK _ _ hk
theorem yb3 {ops:Array Oper} {r s:Nat} {fn:Func} {R:Ending→World→Prop} {a:Act} {w0 w:World} {gr:Nat} {base:Nat} {nm:ByteArray} {kids:List S34} {v:Value} {cr:Array Value} {d:TypeId} {p:String} {e:Array Edge}
 (hres:fn.results=#[.cell r 34]) (hd:a.defers=[]) (er:a.eval (.tmp r)=.pointer (some ⟨gr,0,none⟩)) (es:a.eval (.tmp s)=.agg (yK nm v)) (hr:w.heap[gr]?=some (.cells cr 34 (0,0))) (hcr:cr.size=8)
 (hger:w0.heap.size≤gr) (hK:Kd.R k34 34 w base (fun k=>k≠gr) v kids) (hB:Below w0.heap.size w0 w)
 (hR:∀ w',Kd.R k34 34 w' base (fun k=>k≠gr) v kids→Below w0.heap.size w0 w'→R (.returned (.agg (yK nm v))) w') :
 wpList Tryz.prog ops (Exit.then (Code.ret.wp Tryz.prog (bodyPost Tryz.prog fn R)) (bodyPost Tryz.prog fn R)) [⟨none,.store 34 (.tmp r) (.tmp s),d,p,e,none⟩] a w:=by
 obtain ⟨A,c,hv1⟩:=Kd.Y7 hK
 subst hv1
 obtain ⟨w1,hrun,hb1,hoth,hbel⟩:=qL (s1:=nm) (k:=8) (b:=false) (i:=0) (u:=0) (f:=0) (s2:=⟨#[]⟩) (A:=A) (n:=kids.length) (c:=c) hr hcr
 refine Jk rfl rfl (run_store er es hrun) ?_
 refine wpList_nil ?_
 simp only [Exit.then]
 refine wp_ret ?_
 exact ybq hres hd er hb1 rfl (hR _ (Kd.qH hK (fun j hj _=>hoth j hj)) (hbel _ _ hger hB))
theorem args1p {a:Act} {j f:Nat} {c v:Value} (h:a.eval (.tmp j)=v):#[Operand.const c,.tmp j,.func f].map a.eval=#[c,v,.func (.func f) #[] #[]]:=by
 have h1:a.eval (.const c)=c:=rfl
 have h2:a.eval (.func f)=.func (.func f) #[] #[]:=rfl
 simp [h,h1,h2]
theorem ybO {a:Act} {j k:Nat} {v u:Value} (h:a.eval (.tmp j)=v) (h':a.eval (.tmp k)=u):#[Operand.tmp j,.tmp k].map a.eval=#[v,u]:=by simp [h,h']
theorem args_tf {a:Act} {j f:Nat} {v:Value} (h:a.eval (.tmp j)=v):#[Operand.tmp j,.func f].map a.eval=#[v,.func (.func f) #[] #[]]:=by
 have h2:a.eval (.func f)=.func (.func f) #[] #[]:=rfl
 simp [h,h2]
theorem yds {a:Act} {d ty pos aft gd} {w:World} {x:Nat} {p:Addr} {T:TypeId} {t2:TypeId} (hx:a.eval (.tmp x)=.pointer (some p)) (hl:∀ W:World,(binOp .eql T (.pointer (some p)) (.pointer none)).run Tryz.prog W=.ok (.bool false) W)
 (hg:∀ W:World,(eqGuard .eql T (.tmp x) (.const (.pointer none)) (.pointer (some p)) (.pointer none)).run Tryz.prog W=.ok () W) :
 (execOp a.eval ⟨d,.binOp .eql T (.tmp x) (.const (.pointer none)) t2,ty,pos,aft,gd⟩).run Tryz.prog w=.ok (.value (.bool false)) w:=by
 unfold execOp
 have h1:a.eval (.const (.pointer none))=.pointer none:=rfl
 simp [hx,h1,hl,hg]
theorem run_nilok {a:Act} {d ty pos aft gd} {w:World} {x:Nat} {p:Addr} (hx:a.eval (.tmp x)=.pointer (some p)) :
 (execOp a.eval ⟨d,.nilCheck (.tmp x),ty,pos,aft,gd⟩).run Tryz.prog w=.ok (.value (.pointer (some p))) w:=by
 unfold execOp
 simp [hx]
theorem pointer_walk (nm s:ByteArray) (n:Nat→Nat→Int) (h64:∀ i j,IntKind.u64.wrap (n i j)=n i j) (gs:Nat) (w:World) (hst:w.heap[gs]?=some (.cells (yj s n) 127 (0,0))) :
 Calls Tryz.prog 25 #[.string nm,.pointer (some ⟨gs,0,none⟩),.func (.func 26) #[] #[]] w fun e w'=>∃ v,e=.returned (.agg (yK nm v))∧Kd.R k34 34 w' w.heap.size (fun _=>True) v (JB s n)∧Below w.heap.size w w':=by
 go_enter Tryz.func25,Tryz.ntmps25
 generalize ha0:(Act.mk _ _)=a0
 have hsz:a0.tmps.size=Tryz.f25.ntmps:=by rw [← ha0];rfl
 replace hsz:a0.tmps.size=17:=hsz.trans Zk
 have hdf:a0.defers=[]:=by rw [← ha0]
 have e0:a0.eval (.tmp 0)=.string nm:=by rw [← ha0];rfl
 have e1:a0.eval (.tmp 1)=.pointer (some ⟨gs,0,none⟩):=by rw [← ha0];rfl
 have e2:a0.eval (.tmp 2)=.func (.func 26) #[] #[]:=by rw [← ha0];rfl
 clear ha0
 refine yB ?_
 refine yf rfl (Y9 (JC w)) ?_
 refine yG ?_
 have hgr:=Y2 w (.cells #[.string ⟨#[]⟩,.int .i64 0,.bool false,.int .i64 0,.int .u64 0,.float .f64 0,.string ⟨#[]⟩,.slice none 0 0] 34 (0,0))
 have hst1:=YA hst (.cells #[.string ⟨#[]⟩,.int .i64 0,.bool false,.int .i64 0,.int .u64 0,.float .f64 0,.string ⟨#[]⟩,.slice none 0 0] 34 (0,0))
 have hB1:Below w.heap.size w (w.alloc (.cells #[.string ⟨#[]⟩,.int .i64 0,.bool false,.int .i64 0,.int .u64 0,.float .f64 0,.string ⟨#[]⟩,.slice none 0 0] 34 (0,0))):=ym (Below.refl _ _) _
 generalize (w.alloc (.cells #[.string ⟨#[]⟩,.int .i64 0,.bool false,.int .i64 0,.int .u64 0,.float .f64 0,.string ⟨#[]⟩,.slice none 0 0] 34 (0,0)))=w1 at hgr hst1 hB1 ⊢
 refine wp_seq ?_
 refine yB ?_
 refine yf rfl (yJ (v:=.pointer (some ⟨gs,0,none⟩)) ((yb _ Zd).trans e1)) ?_
 refine yf rfl (yds (p:=⟨gs,0,none⟩) (ya _ Zs) ZW ZW) ?_
 refine yG ?_
 refine wp_cond_false (ya _ Zs) ?_
 refine wp_skip ?_
 simp only [Exit.then]
 refine wp_seq ?_
 refine wp_region_list ?_
 refine Kd.yh rfl (yJ (v:=.func (.func 26) #[] #[]) (by simp (disch:=exact Zq hsz) only [ya,yb,e2])) ?_
 refine Kd.yh rfl (yJ (v:=.string nm) (by simp (disch:=exact Zq hsz) only [ya,yb,e0])) ?_
 refine Kd.yh rfl (yJ (v:=.pointer (some ⟨gs,0,none⟩)) (by simp (disch:=exact Zq hsz) only [ya,yb,e1])) ?_
 refine Kd.yh rfl (run_nilok (p:=⟨gs,0,none⟩) (ya _ Zs)) ?_
 refine Kd.yh rfl (run_load (p:=.pointer (some ⟨gs,0,none⟩)) (v:=.agg (yj s n)) (ya _ Zs) ?_) ?_
 · exact run_loadVar_row w1 gs 127 127 _ (0,0) _ hst1 Tryz.underlying127 rfl (by rw [yaD];kernel_rfl)
 refine yaz (some 16) rfl rfl (x:=.tmp 11) (f:=26) (cap:=#[]) (by simp (disch:=exact Zq hsz) only [ya,yb]) Tryz.func26 Zk rfl #[.string nm,.agg (yj s n)] #[.string nm,.agg (yj s n)] rfl
  (ybO (by simp (disch:=exact Zq hsz) only [ya,yb]) (ya _ Zs)) rfl ?_
 refine (ydI nm s n h64 w1).mono ?_
 rintro e w2 ⟨v,rfl,hR,hB⟩
 refine ⟨_,rfl,?_⟩
 refine yb3 (r:=6) (s:=16) (gr:=w.heap.size) (base:=w1.heap.size) (w0:=w) rfl (by simp only [yq];exact hdf) (by simp (disch:=exact Zq hsz) only [ya,yb]) (ya _ Zs) (yE hgr hB) rfl (Nat.le_refl _) (Kd.YM (Kd.yaw hR hgr) (fun k hk=>hk.2)) (yy hB1 hB) ?_
 intro w3 hR3 hB3
 exact ⟨v,rfl,Kd.JU (Kd.YM hR3 (fun _ _=>trivial)) (yt hB1),hB3⟩
theorem xfs2_walk (s:ByteArray) (n:Nat→Nat→Int) (h64:∀ i j,IntKind.u64.wrap (n i j)=n i j) (gs:Nat) (w:World) (hst:w.heap[gs]?=some (.cells (yj s n) 127 (0,0))) :
 Calls Tryz.prog 24 #[.pointer (some ⟨gs,0,none⟩)] w fun e w'=>∃ v,e=.returned (.agg (yK ⟨#[]⟩ v))∧Kd.R k34 34 w' w.heap.size (fun _=>True) v (JB s n)∧Below w.heap.size w w':=by
 go_enter Tryz.func24,Tryz.ntmps24
 generalize ha0:(Act.mk _ _)=a0
 have hsz:a0.tmps.size=Tryz.f24.ntmps:=by rw [← ha0];rfl
 replace hsz:a0.tmps.size=5:=hsz.trans Zk
 have hdf:a0.defers=[]:=by rw [← ha0]
 have e0:a0.eval (.tmp 0)=.pointer (some ⟨gs,0,none⟩):=by rw [← ha0];rfl
 clear ha0
 refine yB ?_
 refine yf rfl (Y9 (JC w)) ?_
 refine yG ?_
 have hgr:=Y2 w (.cells #[.string ⟨#[]⟩,.int .i64 0,.bool false,.int .i64 0,.int .u64 0,.float .f64 0,.string ⟨#[]⟩,.slice none 0 0] 34 (0,0))
 have hst1:=YA hst (.cells #[.string ⟨#[]⟩,.int .i64 0,.bool false,.int .i64 0,.int .u64 0,.float .f64 0,.string ⟨#[]⟩,.slice none 0 0] 34 (0,0))
 have hB1:Below w.heap.size w (w.alloc (.cells #[.string ⟨#[]⟩,.int .i64 0,.bool false,.int .i64 0,.int .u64 0,.float .f64 0,.string ⟨#[]⟩,.slice none 0 0] 34 (0,0))):=ym (Below.refl _ _) _
 generalize (w.alloc (.cells #[.string ⟨#[]⟩,.int .i64 0,.bool false,.int .i64 0,.int .u64 0,.float .f64 0,.string ⟨#[]⟩,.slice none 0 0] 34 (0,0)))=w1 at hgr hst1 hB1 ⊢
 refine wp_seq ?_
 refine wp_region_list ?_
 refine Kd.yh rfl (yJ (v:=.pointer (some ⟨gs,0,none⟩)) ((yb _ Zd).trans e0)) ?_
 refine Yp (some 4) rfl rfl Tryz.func25 Zk rfl #[.string ⟨#[]⟩,.pointer (some ⟨gs,0,none⟩),.func (.func 26) #[] #[]] rfl (args1p (ya _ Zs)) ?_
 refine (pointer_walk ⟨#[]⟩ s n h64 gs w1 hst1).mono ?_
 rintro e w2 ⟨v,rfl,hR,hB⟩
 refine ⟨_,rfl,?_⟩
 refine yb3 (r:=2) (s:=4) (gr:=w.heap.size) (base:=w1.heap.size) (w0:=w) rfl (by simp only [yq];exact hdf) (by simp (disch:=exact Zq hsz) only [ya,yb]) (ya _ Zs) (yE hgr hB) rfl (Nat.le_refl _) (Kd.YM (Kd.yaw hR hgr) (fun k hk=>hk.2)) (yy hB1 hB) ?_
 intro w3 hR3 hB3
 exact ⟨v,rfl,Kd.JU (Kd.YM hR3 (fun _ _=>trivial)) (yt hB1),hB3⟩
theorem xfs1_walk (gt:Nat) (rows:List (List UInt8 × Nat × (Nat→Nat))) (hrows:∀ r ∈ rows,RowOk r.1 r.2.1 r.2.2) (w:World) (htab:∀ W,Below w.heap.size w W→Lib.TabIs Tryz.prog W "strings.asciiSpace" .u8 Lib.asciiSpaceTab) (ht:w.cell? ⟨gt,0,none⟩=some (.string ⟨(Y5 rows).toArray⟩)) :
 Calls Tryz.prog 21 #[.pointer (some ⟨gt,0,none⟩)] w fun e w'=>∃ gs,e=.returned (.tuple #[.pointer (some ⟨gs,0,none⟩),.nilIface])∧w.heap.size≤gs∧w'.heap[gs]?=some (.cells (yj ⟨#[]⟩ (YZ (fun _ _=>0) rows)) 127 (0,0))∧Below w.heap.size w w':=by
 go_enter Tryz.func21,Tryz.ntmps21
 generalize ha0:(Act.mk _ _)=a0
 have hsz:a0.tmps.size=Tryz.f21.ntmps:=by rw [← ha0];rfl
 replace hsz:a0.tmps.size=7:=hsz.trans Zk
 have hdf:a0.defers=[]:=by rw [← ha0]
 have e0:a0.eval (.tmp 0)=.pointer (some ⟨gt,0,none⟩):=by rw [← ha0];rfl
 clear ha0
 refine yB ?_
 refine yf rfl (yX (v:=.pointer none) rfl) ?_
 refine yf rfl (yX (v:=.nilIface) rfl) ?_
 refine yG ?_
 refine wp_seq ?_
 refine wp_region_list ?_
 refine Kd.yh rfl (run_load (p:=.pointer (some ⟨gt,0,none⟩)) (v:=.string ⟨(Y5 rows).toArray⟩) (by simp (disch:=decide) only [yb,e0]) (qN Zk ht)) ?_
 refine Yp (some 4) rfl rfl Tryz.func22 Zk rfl #[.string ⟨(Y5 rows).toArray⟩] rfl (JX (ya _ Zs)) ?_
 refine (ycC rows hrows w htab).mono ?_
 rintro e w2 ⟨gs,rfl,hge,hst,hB⟩
 refine ⟨_,rfl,?_⟩
 refine Kd.yh rfl (YI (u:=.tuple #[.pointer (some ⟨gs,0,none⟩),.nilIface]) (v:=.pointer (some ⟨gs,0,none⟩)) (ya _ Zs) (qh _ _ _)) ?_
 refine Kd.yh rfl (YI (u:=.tuple #[.pointer (some ⟨gs,0,none⟩),.nilIface]) (v:=.nilIface) ((yb _ Zd).trans (ya _ Zs)) (qi _ _ _)) ?_
 refine Kd.yh rfl (yX (v:=.pointer (some ⟨gs,0,none⟩)) (by simp (disch:=exact Zq hsz) only [ya,yb])) ?_
 refine Kd.yh rfl (yX (v:=.nilIface) (by simp (disch:=exact Zq hsz) only [ya,yb])) ?_
 refine wpList_nil ?_
 simp only [Exit.then]
 refine wp_ret ?_
 refine bodyPost_ret (results_tmp2 rfl _ _ _) (by simp only [yq];exact hdf) ⟨gs,?_,hge,hst,hB⟩
 have h2:∀ b:Act,b.tmps.getD 1 undef=b.eval (.tmp 1):=fun _=>rfl
 have h3:∀ b:Act,b.tmps.getD 2 undef=b.eval (.tmp 2):=fun _=>rfl
 rw [h2,h3,yb _ Zd,ya _ Zs,ya _ Zs]
end Go.Proofs.YtdcaggoicdfehaaGreatDoor
namespace Go.Proofs.YtdcaggoicdfehaaGreatDoor
open Go.RowKit Go.Proofs.YtdcaggoicdfehaaGreatDoorW.PrintWords Go.Proofs.YtdcaggoicdfehaaGreatDoorW.PrintLast Go.Proofs.YtdcaggoicdfehaaGreatDoorW.PrintMore
theorem ycy {P:Program} {ops:Array Oper} {Q:Exit→Act→World→Prop} {rest:List Oper} {oi:Oper} {a:Act} {w:World} {d:Deferred} (hd:oi.dst=none) (hg:oi.guard=none) (hrun:(execOp a.eval oi).run P w=.ok (.defer d) w)
 (h:wpList P ops Q rest { a with defers:=d::a.defers } w):wpList P ops Q (oi::rest) a w:=by
 refine wpList_plain hg fun K hK=>?_
 unfold Oper.wp
 rw [hrun,Oper.upon_defer,hd]
 exact hK _ _ h
theorem run_mf {P:Program} {a:Act} {d ty pos aft gd} {w:World} {f i j:Nat} {v u:Value} (h:a.eval (.tmp i)=v) (h':a.eval (.tmp j)=u) :
 (execOp a.eval ⟨d,.makeFunc (.func f) #[] #[.tmp i,.tmp j],ty,pos,aft,gd⟩).run P w=.ok (.value (.func (.func f) #[] #[v,u])) w:=by
 unfold execOp
 simp [Instr.makeFunc,h,h']
theorem run_mf1 {P:Program} {a:Act} {d ty pos aft gd} {w:World} {f i:Nat} {v:Value} (h:a.eval (.tmp i)=v) :
 (execOp a.eval ⟨d,.makeFunc (.func f) #[] #[.tmp i],ty,pos,aft,gd⟩).run P w=.ok (.value (.func (.func f) #[] #[v])) w:=by
 unfold execOp
 simp [Instr.makeFunc,h]
theorem run_df {P:Program} {a:Act} {d ty pos aft gd} {w:World} {x:Nat} {f:FuncId} {cap:Array Value} (h:a.eval (.tmp x)=.func (.func f) #[] cap) :
 (execOp a.eval ⟨d,.defer { callee:=.value (.tmp x),args:=#[],argTypes:=#[] },ty,pos,aft,gd⟩).run P w=.ok (.defer { target:=.fn (.func f) cap,args:=#[] }) w:=by
 unfold execOp
 simp [resolve,Deferred.ofValue,h]
theorem ydz {P:Program} {fn:Func} {p p':Tmp} {ty ty':TypeId} (h:fn.results=#[.cell p ty,.cell p' ty']) (tmps:Array Value) (w:World) (g g':Nat) (t:TypeId) (cs:Array Value) (fr:Nat × Nat) (d:TypeDesc) (v:Value)
 (hp:tmps.getD p undef=.pointer (some ⟨g,0,none⟩)) (hg:w.heap[g]?=some (.cells cs t fr))
 (hu:P.underlying ty=some d) (hd:(match d with|.struct _|.array _ _=>true|_=>false)=true) (hi:(P.info? ty).map (·.size)=some cs.size)
 (hp':tmps.getD p' undef=.pointer (some ⟨g',0,none⟩)) (hl:(loadVar ty' ⟨g',0,none⟩).run P w=.ok v w) :
 (results fn tmps).run P w=.ok (.tuple #[.agg cs,v]) w:=by
 have h1:tmps[p]?.getD undef=.pointer (some ⟨g,0,none⟩):=by simpa using hp
 have h2:tmps[p']?.getD undef=.pointer (some ⟨g',0,none⟩):=by simpa using hp'
 simp [results,h,h1,h2,asAddr,run_loadVar_row w g t ty cs fr d hg hu hd hi,hl]
theorem store_int {P:Program} {w:World} {a:Addr} {T:TypeId} {k:IntKind} {x y:Int} (hT:(isAgg T).run P w=.ok false w) (hs:(sizeOf T).run P w=.ok 1 w) (hc:w.cell? a=some (.int k x)) (hf:w.frozen? a=false) :
 (Instr.storeAt T (.pointer (some a)) (.int k y)).run P w=.ok () (w.setCell a (.int k y)):=by
 simp [Instr.storeAt,Instr.sureAddr,go_sem,hc,hf,hT,hs]
theorem load_int {P:Program} {w:World} {a:Addr} {T:TypeId} {v:Value} (hT:(isAgg T).run P w=.ok false w) (hs:(sizeOf T).run P w=.ok 1 w) (hc:w.cell? a=some v):(loadVar T a).run P w=.ok v w:=by
 simp [go_sem,hc,hT,hs]
theorem catch_idle (p q:Addr) (w:World) :
 CallsD Tryz.prog 82 #[.pointer (some p),.pointer (some q)] .returning w fun e u' w'=>e=.returned (.tuple #[])∧u'=.returning∧w'=w:=by
 refine callsD_of_wpS Tryz.func82 rfl fun c₀ cs hu=>?_
 apply wpS_seq
 apply wpS_region
 simp [wpOpsS,go_sem,recoverD,hu,Tryz.ntmps82,Exit.thenS]
 refine wpS_cond (t:=false) (by simp [Act.eval,Array.replicate]) ?_
 simp only [Bool.false_eq_true,if_false]
 refine wpS_of_wp (wp_skip ?_)
 cases c₀
 simp_all [bodyPostS,results,Tryz.results82]
set_option maxRecDepth 100000 in
theorem tree_walk {fr ff:FuncId} {capr capf:Array Value} {fnr fnf:Func} (hfr:Tryz.prog.funcs[fr]?=some fnr) (hnr:(fnr.name == "runtime.NumGoroutine")=false) (hbr:fnr.body.isSome=true) (hff:Tryz.prog.funcs[ff]?=some fnf) (hnf:(fnf.name == "runtime.NumGoroutine")=false) (hbf:fnf.body.isSome=true)
 (Rd:Nat→World→Prop) (kids:List S34) (w:World)
 (hread:∀ W,Below w.heap.size w W→Calls Tryz.prog fr capr W fun e W'=>∃ gs,e=.returned (.tuple #[.pointer (some ⟨gs,0,none⟩),.nilIface])∧Below W.heap.size W W'∧Rd gs W')
 (htree:∀ gs W,Rd gs W→Calls Tryz.prog ff (#[.pointer (some ⟨gs,0,none⟩)]++capf) W fun e W'=>∃ v,e=.returned (.agg (yK ⟨#[]⟩ v))∧Kd.R k34 34 W' W.heap.size (fun _=>True) v kids∧Below W.heap.size W W') :
 Calls Tryz.prog 23 #[.func (.func fr) #[] capr,.func (.func ff) #[] capf] w fun e w'=>∃ v,e=.returned (.tuple #[.agg (yK ⟨#[]⟩ v),.int .i64 0])∧Kd.R k34 34 w' w.heap.size (fun _=>True) v kids∧Below w.heap.size w w':=by
 go_enter_defers Tryz.func23,Tryz.ntmps23
 generalize ha0:(Act.mk _ _)=a0
 have hsz:a0.tmps.size=20:=by rw [← ha0];rfl
 have hdf:a0.defers=[]:=by rw [← ha0]
 have e0:a0.eval (.tmp 0)=.func (.func fr) #[] capr:=by rw [← ha0];rfl
 have e1:a0.eval (.tmp 1)=.func (.func ff) #[] capf:=by rw [← ha0];rfl
 clear ha0
 refine yB ?_
 refine yf rfl (Y9 (JC w)) ?_
 have hgr:=Y2 w (.cells #[.string ⟨#[]⟩,.int .i64 0,.bool false,.int .i64 0,.int .u64 0,.float .f64 0,.string ⟨#[]⟩,.slice none 0 0] 34 (0,0))
 have hB1:Below w.heap.size w (w.alloc (.cells #[.string ⟨#[]⟩,.int .i64 0,.bool false,.int .i64 0,.int .u64 0,.float .f64 0,.string ⟨#[]⟩,.slice none 0 0] 34 (0,0))):=ym (Below.refl _ _) _
 have hz1:(w.alloc (.cells #[.string ⟨#[]⟩,.int .i64 0,.bool false,.int .i64 0,.int .u64 0,.float .f64 0,.string ⟨#[]⟩,.slice none 0 0] 34 (0,0))).heap.size=w.heap.size+1:=by simp
 generalize (w.alloc (.cells #[.string ⟨#[]⟩,.int .i64 0,.bool false,.int .i64 0,.int .u64 0,.float .f64 0,.string ⟨#[]⟩,.slice none 0 0] 34 (0,0)))=w1 at hgr hB1 hz1 ⊢
 refine yf rfl (Y9 (show _=Result.ok (.pointer (some ⟨w1.heap.size,0,none⟩)) (w1.alloc (.cells #[.int .i64 0] 3)) by kernel_rfl)) ?_
 refine yG ?_
 have hgr2:=YA hgr (.cells #[.int .i64 0] 3 (0,0))
 have hgc:=Y2 w1 (.cells #[.int .i64 0] 3 (0,0))
 have hB2:Below w.heap.size w (w1.alloc (.cells #[.int .i64 0] 3 (0,0))):=ym hB1 _
 have hz2:(w1.alloc (.cells #[.int .i64 0] 3 (0,0))).heap.size=w.heap.size+2:=by simp [hz1]
 generalize (w1.alloc (.cells #[.int .i64 0] 3 (0,0)))=w2 at hgr2 hgc hB2 hz2 ⊢
 rw [hz1] at hgc ⊢
 refine wp_seq ?_
 refine wp_region_list ?_
 refine Kd.yh rfl (run_mf (v:=.pointer (some ⟨w.heap.size,0,none⟩)) (u:=.pointer (some ⟨w.heap.size+1,0,none⟩)) (by simp (disch:=exact Zq hsz) only [ya,yb]) (by simp (disch:=exact Zq hsz) only [ya,yb])) ?_
 refine ycy rfl rfl (run_df (ya _ Zs)) ?_
 refine wpList_nil ?_
 simp only [Exit.then]
 generalize hb0:(Act.mk _ _)=b0
 have bsz:b0.tmps.size=20:=by rw [← hb0];show (Act.put (Act.put (Act.put a0 _ _) _ _) _ _).tmps.size=20;simp only [size_put];exact hsz
 have bev:∀ j:Nat,b0.eval (.tmp j)=(Act.put (Act.put (Act.put a0 (some 4) (.pointer (some ⟨w.heap.size,0,none⟩))) (some 5) (.pointer (some ⟨w.heap.size+1,0,none⟩))) (some 8) (.func (.func 82) #[] #[.pointer (some ⟨w.heap.size,0,none⟩),.pointer (some ⟨w.heap.size+1,0,none⟩)])).eval (.tmp j):=fun j=>by rw [← hb0];rfl
 have bdf:b0.defers=[{ target:=.fn (.func 82) #[.pointer (some ⟨w.heap.size,0,none⟩),.pointer (some ⟨w.heap.size+1,0,none⟩)],args:=#[] }]:=by rw [← hb0];simp only [yq,hdf]
 have b0e:b0.eval (.tmp 0)=.func (.func fr) #[] capr:=by rw [bev];simp (disch:=decide) only [yb,e0]
 have b1e:b0.eval (.tmp 1)=.func (.func ff) #[] capf:=by rw [bev];simp (disch:=decide) only [yb,e1]
 have b4e:b0.eval (.tmp 4)=.pointer (some ⟨w.heap.size,0,none⟩):=by rw [bev];simp (disch:=exact Zq hsz) only [ya,yb]
 have b5e:b0.eval (.tmp 5)=.pointer (some ⟨w.heap.size+1,0,none⟩):=by rw [bev];simp (disch:=exact Zq hsz) only [ya,yb]
 clear hb0 bev
 refine wp_seq ?_
 refine wp_region_list ?_
 refine Kd.yh rfl (yJ (v:=.func (.func fr) #[] capr) b0e) ?_
 refine yaz (some 11) rfl rfl (x:=.tmp 10) (f:=fr) (cap:=capr) (ya _ Zo) hfr hnr hbr #[] capr rfl (by simp) (by simp) ?_
 refine (hread w2 hB2).mono ?_
 rintro e w3 ⟨gs,rfl,hB3,hRd⟩
 refine ⟨_,rfl,?_⟩
 refine Kd.yh rfl (yJ (v:=.tuple #[.pointer (some ⟨gs,0,none⟩),.nilIface]) (ya _ Zs)) ?_
 refine Kd.yh rfl (YI (u:=.tuple #[.pointer (some ⟨gs,0,none⟩),.nilIface]) (v:=.pointer (some ⟨gs,0,none⟩)) (ya _ Zs) (qh _ _ _)) ?_
 refine Kd.yh rfl (YI (u:=.tuple #[.pointer (some ⟨gs,0,none⟩),.nilIface]) (v:=.nilIface) ((yb _ Zd).trans (ya _ Zs)) (qi _ _ _)) ?_
 refine Kd.yh rfl (yX (v:=.pointer (some ⟨gs,0,none⟩)) (by simp (disch:=exact Zq bsz) only [ya,yb])) ?_
 refine Kd.yh rfl (yX (v:=.nilIface) (by simp (disch:=exact Zq bsz) only [ya,yb])) ?_
 refine wpList_nil ?_
 simp only [Exit.then]
 refine Ql (k:=14) (sz:=20) (er:=7) (by simp only [size_put];exact bsz) Zd (ya _ Zs) ?_
 intro c0 csz cdf cev
 have c1e:c0.eval (.tmp 1)=.func (.func ff) #[] capf:=by rw [cev 1 Zd Zd];simp (disch:=decide) only [yb,b1e]
 have c4e:c0.eval (.tmp 4)=.pointer (some ⟨w.heap.size,0,none⟩):=by rw [cev 4 Zd Zd];simp (disch:=decide) only [yb,b4e]
 have c5e:c0.eval (.tmp 5)=.pointer (some ⟨w.heap.size+1,0,none⟩):=by rw [cev 5 Zd Zd];simp (disch:=decide) only [yb,b5e]
 have c6e:c0.eval (.tmp 6)=.pointer (some ⟨gs,0,none⟩):=by rw [cev 6 Zd Zd];simp (disch:=exact Zq bsz) only [ya,yb]
 replace cdf:c0.defers=[{ target:=.fn (.func 82) #[.pointer (some ⟨w.heap.size,0,none⟩),.pointer (some ⟨w.heap.size+1,0,none⟩)],args:=#[] }]:=by rw [cdf];simp only [yq,bdf]
 clear cev
 have hgr3:=yE hgr2 hB3
 have hgc3:=yE hgc hB3
 have hB3w:=yy hB2 hB3
 refine wp_seq ?_
 refine wp_region_list ?_
 refine Kd.yh rfl (yJ (v:=.func (.func ff) #[] capf) c1e) ?_
 refine Kd.yh rfl (yJ (v:=.pointer (some ⟨gs,0,none⟩)) (by simp (disch:=exact Zq csz) only [ya,yb,c6e])) ?_
 refine yaz (some 19) rfl rfl (x:=.tmp 17) (f:=ff) (cap:=capf) (by simp (disch:=exact Zq csz) only [ya,yb]) hff hnf hbf #[.pointer (some ⟨gs,0,none⟩)] (#[.pointer (some ⟨gs,0,none⟩)]++capf) rfl (JX (ya _ Zs)) rfl ?_
 refine (htree gs w3 hRd).mono ?_
 rintro e w4 ⟨v,rfl,hR4,hB4⟩
 refine ⟨_,rfl,?_⟩
 have hgr4:=yE hgr3 hB4
 have hgc4:=yE hgc3 hB4
 have hB4w:=yy hB3w hB4
 have hs3:w.heap.size+2≤w3.heap.size:=by have:=yt hB3;omega
 have hR4':=Kd.YM (ok':=fun k=>k≠w.heap.size∧k≠w.heap.size+1) (Kd.JZ hR4) (fun k hk=>⟨by have:=hk.2.1;omega,by have:=hk.2.1;omega⟩)
 obtain ⟨A,c,hv1⟩:=Kd.Y7 hR4'
 subst hv1
 obtain ⟨w5,hrun5,hb5,hoth5,hbel5⟩:=qL (s1:=⟨#[]⟩) (k:=8) (b:=false) (i:=0) (u:=0) (f:=0) (s2:=⟨#[]⟩) (A:=A) (n:=kids.length) (c:=c) hgr4 rfl
 refine Jk rfl rfl (run_store (p:=.pointer (some ⟨w.heap.size,0,none⟩)) (v:=.agg (yK ⟨#[]⟩ (.slice A kids.length c))) (by simp (disch:=exact Zq csz) only [ya,yb,c4e]) (ya _ Zs) hrun5) ?_
 have hgc5:w5.heap[w.heap.size+1]?=_:=(hoth5 _ Zo).trans hgc4
 have hB5w:=hbel5 _ _ (Nat.le_refl _) hB4w
 have hR5:=Kd.qH (w1:=w5) hR4' (fun j hj _=>hoth5 j hj.1)
 refine Jk rfl rfl (run_store (p:=.pointer (some ⟨w.heap.size+1,0,none⟩)) (v:=.int .i64 0) (by simp (disch:=exact Zq csz) only [ya,yb,c5e]) rfl (store_int (x:=0) Zk Zk (by rw [ye hgc5];rfl) (yg hgc5 0))) ?_
 refine wpList_nil ?_
 simp only [Exit.then]
 refine wp_ret ?_
 have hgr6:=yI hb5 (p:=⟨w.heap.size+1,0,none⟩) (by show w.heap.size≠w.heap.size+1;omega) (.int .i64 0)
 have hgc6:=yA hgc5 0 (.int .i64 0) rfl
 have hB6w:Below w.heap.size w (w5.setCell ⟨w.heap.size+1,0,none⟩ (.int .i64 0)):=yw hB5w Zo
 have hR6:=Kd.JS hR5 (p:=⟨w.heap.size+1,0,none⟩) (fun k hk=>hk.2) (.int .i64 0)
 generalize (w5.setCell ⟨w.heap.size+1,0,none⟩ (.int .i64 0))=w6 at hgr6 hgc6 hB6w hR6 ⊢
 generalize hz:(Act.put _ (some 19) _)=z0
 have zdf:z0.defers=[{ target:=.fn (.func 82) #[.pointer (some ⟨w.heap.size,0,none⟩),.pointer (some ⟨w.heap.size+1,0,none⟩)],args:=#[] }]:=by rw [← hz];simp only [yq,cdf]
 have z4:z0.eval (.tmp 4)=.pointer (some ⟨w.heap.size,0,none⟩):=by rw [← hz];simp (disch:=decide) only [yb,c4e]
 have z5:z0.eval (.tmp 5)=.pointer (some ⟨w.heap.size+1,0,none⟩):=by rw [← hz];simp (disch:=decide) only [yb,c5e]
 clear hz
 show Leaves Tryz.prog _ z0.tmps _ z0.defers .returning w6
 rw [zdf]
 refine leaves_cons (f:=82) (args:=#[.pointer (some ⟨w.heap.size,0,none⟩),.pointer (some ⟨w.heap.size+1,0,none⟩)]) (by simp) (by simp [go_sem]) ?_
 refine (catch_idle _ _ w6).mono ?_
 rintro e u' w7 ⟨rfl,rfl,rfl⟩
 refine ⟨_,ydz (v:=.int .i64 0) rfl z0.tmps _ w.heap.size (w.heap.size+1) 34 (yK ⟨#[]⟩ (.slice A kids.length c)) (0,0) _ z4 hgr6 Tryz.underlying34 rfl Zk z5 ?_,_,rfl,Kd.JU (Kd.YM hR6 (fun _ _=>trivial)) (yt hB3w),hB6w⟩
 have hc6:=(ye hgc6 0).trans (show _=some (Value.int .i64 0) from rfl)
 exact load_int Zk Zk hc6
set_option maxRecDepth 100000 in
theorem xfs_walk (rows:List (List UInt8 × Nat × (Nat→Nat))) (hrows:∀ r ∈ rows,RowOk r.1 r.2.1 r.2.2) (w:World) (htab:∀ W,Below w.heap.size w W→Lib.TabIs Tryz.prog W "strings.asciiSpace" .u8 Lib.asciiSpaceTab)
 (h64:∀ i j,IntKind.u64.wrap (YZ (fun _ _=>0) rows i j)=YZ (fun _ _=>0) rows i j) :
 Calls Tryz.prog 7 #[.string ⟨(Y5 rows).toArray⟩] w fun e w'=>∃ v,e=.returned (.tuple #[.agg (yK ⟨#[]⟩ v),.int .i64 0])∧Kd.R k34 34 w' w.heap.size (fun _=>True) v (JB ⟨#[]⟩ (YZ (fun _ _=>0) rows))∧Below w.heap.size w w':=by
 go_enter Tryz.func7,Tryz.ntmps7
 generalize ha0:(Act.mk _ _)=a0
 have hsz:a0.tmps.size=10:=by rw [← ha0];rfl
 have hdf:a0.defers=[]:=by rw [← ha0]
 have e0:a0.eval (.tmp 0)=.string ⟨(Y5 rows).toArray⟩:=by rw [← ha0];rfl
 clear ha0
 refine yB ?_
 refine yf rfl (ybh (v:=.pointer (some ⟨w.heap.size,0,none⟩)) e0 (show _=Result.ok _ (w.alloc (.cells #[.string ⟨(Y5 rows).toArray⟩] 9)) by kernel_rfl)) ?_
 have ht1:=Y2 w (.cells #[.string ⟨(Y5 rows).toArray⟩] 9 (0,0))
 have hB1:Below w.heap.size w (w.alloc (.cells #[.string ⟨(Y5 rows).toArray⟩] 9 (0,0))):=ym (Below.refl _ _) _
 have hz1:(w.alloc (.cells #[.string ⟨(Y5 rows).toArray⟩] 9 (0,0))).heap.size=w.heap.size+1:=by simp
 generalize (w.alloc (.cells #[.string ⟨(Y5 rows).toArray⟩] 9 (0,0)))=w1 at ht1 hB1 hz1 ⊢
 refine yf rfl (Y9 (JC w1)) ?_
 refine yf rfl (yX (v:=.int .i64 0) rfl) ?_
 refine yG ?_
 have ht2:=YA ht1 (.cells #[.string ⟨#[]⟩,.int .i64 0,.bool false,.int .i64 0,.int .u64 0,.float .f64 0,.string ⟨#[]⟩,.slice none 0 0] 34 (0,0))
 have hgr:=Y2 w1 (.cells #[.string ⟨#[]⟩,.int .i64 0,.bool false,.int .i64 0,.int .u64 0,.float .f64 0,.string ⟨#[]⟩,.slice none 0 0] 34 (0,0))
 have hB2:Below w.heap.size w (w1.alloc (.cells #[.string ⟨#[]⟩,.int .i64 0,.bool false,.int .i64 0,.int .u64 0,.float .f64 0,.string ⟨#[]⟩,.slice none 0 0] 34 (0,0))):=ym hB1 _
 generalize (w1.alloc (.cells #[.string ⟨#[]⟩,.int .i64 0,.bool false,.int .i64 0,.int .u64 0,.float .f64 0,.string ⟨#[]⟩,.slice none 0 0] 34 (0,0)))=w2 at ht2 hgr hB2 ⊢
 rw [hz1] at hgr ⊢
 refine yB ?_
 refine yf rfl (run_mf1 (v:=.pointer (some ⟨w.heap.size,0,none⟩)) (by simp (disch:=exact Zq hsz) only [ya,yb])) ?_
 refine yf rfl (yX (ya _ Zs)) ?_
 refine yG ?_
 refine wp_seq ?_
 refine wp_region_list ?_
 refine Kd.yh rfl (yJ (ya _ Zs)) ?_
 refine Yp (some 7) rfl rfl Tryz.func23 Zk rfl #[.func (.func 21) #[] #[.pointer (some ⟨w.heap.size,0,none⟩)],.func (.func 24) #[] #[]] rfl (args_tf (ya _ Zs)) ?_
 refine (tree_walk Tryz.func21 Zk rfl Tryz.func24 Zk rfl (fun gs W=>W.heap[gs]?=some (.cells (yj ⟨#[]⟩ (YZ (fun _ _=>0) rows)) 127 (0,0))) (JB ⟨#[]⟩ (YZ (fun _ _=>0) rows)) w2 ?_ ?_).mono ?_
 · intro W hW
   refine (xfs1_walk w.heap.size rows hrows W (fun W' hW'=>htab W' (yy (yy hB2 hW) hW')) ?_).mono ?_
   · rw [ye (yE ht2 hW)];rfl
   rintro e W' ⟨gs,rfl,hge,hst,hB⟩
   exact ⟨gs,rfl,hB,hst⟩
 · intro gs W hst
   refine (xfs2_walk ⟨#[]⟩ _ h64 gs W hst).mono ?_
   rintro e W' ⟨v,rfl,hR,hB⟩
   exact ⟨v,rfl,hR,hB⟩
 rintro e w3 ⟨v,rfl,hR,hB⟩
 refine ⟨_,rfl,?_⟩
 refine Kd.yh rfl (YI (u:=.tuple #[.agg (yK ⟨#[]⟩ v),.int .i64 0]) (v:=.agg (yK ⟨#[]⟩ v)) (ya _ Zs) (qh _ _ _)) ?_
 refine Kd.yh rfl (YI (u:=.tuple #[.agg (yK ⟨#[]⟩ v),.int .i64 0]) (v:=.int .i64 0) ((yb _ Zd).trans (ya _ Zs)) (qi _ _ _)) ?_
 have hR':=Kd.yaw hR hgr
 obtain ⟨A,c,hv1⟩:=Kd.Y7 hR'
 subst hv1
 obtain ⟨w4,hrun4,hb4,hoth4,hbel4⟩:=qL (s1:=⟨#[]⟩) (k:=8) (b:=false) (i:=0) (u:=0) (f:=0) (s2:=⟨#[]⟩) (A:=A) (n:=(JB ⟨#[]⟩ (YZ (fun _ _=>0) rows)).length) (c:=c) (yE hgr hB) rfl
 refine Jk rfl rfl (run_store (p:=.pointer (some ⟨w.heap.size+1,0,none⟩)) (v:=.agg (yK ⟨#[]⟩ (.slice A (JB ⟨#[]⟩ (YZ (fun _ _=>0) rows)).length c))) (by simp (disch:=exact Zq hsz) only [ya,yb]) (by simp (disch:=exact Zq hsz) only [ya,yb]) hrun4) ?_
 refine Kd.yh rfl (yX (v:=.int .i64 0) (ya _ Zs)) ?_
 refine wpList_nil ?_
 simp only [Exit.then]
 refine wp_ret ?_
 have hp2:∀ b:Act,b.tmps.getD 2 undef=b.eval (.tmp 2):=fun _=>rfl
 have hp3:∀ b:Act,b.tmps.getD 3 undef=b.eval (.tmp 3):=fun _=>rfl
 refine bodyPost_ret (qj rfl _ _ (w.heap.size+1) 34 (yK ⟨#[]⟩ (.slice A (JB ⟨#[]⟩ (YZ (fun _ _=>0) rows)).length c)) (0,0) _ ?_ hb4 Tryz.underlying34 rfl Zk) (by simp only [yq];exact hdf) ⟨_,?_,Kd.JU (Kd.YM (Kd.qH hR' (fun j hj _=>hoth4 j hj.2)) (fun _ _=>trivial)) (yt hB2),hbel4 _ _ Zo (yy hB2 hB)⟩
 · rw [hp2];simp (disch:=exact Zq hsz) only [ya,yb]
 · rw [hp3,ya _ Zs]
end Go.Proofs.YtdcaggoicdfehaaGreatDoor
