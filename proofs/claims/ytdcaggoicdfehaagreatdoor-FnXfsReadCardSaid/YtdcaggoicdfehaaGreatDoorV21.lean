/- Part 21 of 44 of the proof of the tied card of FnXfsRead. -/
import Derived.Test.YtdcaggoicdfehaaGreatDoorVz
import Derived.Test.YtdcaggoicdfehaaGreatDoorV19
import Derived.Test.YtdcaggoicdfehaaGreatDoorV20
import Derived.Test.YtdcaggoicdfehaaGreatDoorV8
import Derived.Scope
set_option linter.unusedVariables false
set_option linter.unusedSimpArgs false
namespace Go.Proofs.YtdcaggoicdfehaaGreatDoor
open Go.RowKit Go.Proofs.YtdcaggoicdfehaaGreatDoorW.PrintWords Go.Proofs.YtdcaggoicdfehaaGreatDoorW.PrintLast Go.Proofs.YtdcaggoicdfehaaGreatDoorW.PrintMore
theorem goesF_ {P:Program} {ops:Array Oper} {Q:Exit→Act→World→Prop} {rest:List Oper} {oi:Oper} {a:Act} {w:World} (N:Option Tmp) (hd:oi.dst=N) (hg:oi.guard=none) {f:FuncId} {fn:Func} {x:Operand} {first:Array Value} {ao:Array Operand} {ts:Array TypeId}
 (hx:a.eval x=.func (.func f) first #[]) (hf:P.funcs[f]?=some fn) (hname:(fn.name == "runtime.NumGoroutine")=false) (hb:fn.body.isSome=true) (args0:Array Value) (args:Array Value)
 (hop:oi.op=.call { callee:=.value x,args:=ao,argTypes:=ts }) (hargs:ao.map a.eval=args0) (hall:first++args0=args)
 (h:Calls P f args w fun e w'=>∃ v,e=.returned v∧wpList P ops Q rest (a.put N v) w'):wpList P ops Q (oi::rest) a w:=by
 refine wpList_plain hg fun K hK=>?_
 have he:=ybe hf hname hb args w
 have hrun:(execOp a.eval oi).run P w=.ok (.enter f args) w:=by
  unfold execOp
  simp [hop,resolve,Deferred.ofValue,invoke,hx,hargs,hall,he]
 unfold Oper.wp
 rw [hrun,Oper.upon_enter]
 refine h.mono fun e w'' hh=>?_
 obtain ⟨v,rfl,hk⟩:=hh
 subst hd
 exact hK _ _ hk
abbrev fNode (nm:ByteArray) (x:Nat):S34:=⟨nm,4,false,0,0,x,⟨#[]⟩,[]⟩
def Qa (x y z:Nat):List S34:=[fNode ⟨#[76,111,97,100,49]⟩ x,fNode ⟨#[76,111,97,100,53]⟩ y,fNode ⟨#[76,111,97,100,49,53]⟩ z]
theorem la_walk (nm:ByteArray) (x y z:Nat) (w:World):Calls Tryz.prog 121 #[.string nm,.agg #[.float .f64 x,.float .f64 y,.float .f64 z]] w fun e w'=>∃ v,e=.returned (.agg (yK nm v))∧Kd.R k34 34 w' w.heap.size (fun _=>True) v (Qa x y z)∧Below w.heap.size w w':=
 J8.calls nm x y z nm 8 false 0 0 0 ⟨#[]⟩ (Qa x y z) w (by simp [J8.f,Qa])
theorem ydy (nm:ByteArray) (x y z:Nat) (gs:Nat) (w:World) (hst:w.heap[gs]?=some (.cells (#[.float .f64 x,.float .f64 y,.float .f64 z]:Array Value) 259 (0,0))) :
 Calls Tryz.prog 120 #[.string nm,.pointer (some ⟨gs,0,none⟩),.func (.func 121) #[] #[]] w fun e w'=>∃ v,e=.returned (.agg (yK nm v))∧Kd.R k34 34 w' w.heap.size (fun _=>True) v (Qa x y z)∧Below w.heap.size w w':=by
 go_enter Tryz.func120,Tryz.ntmps120
 generalize ha0:(Act.mk _ _)=a0
 have hsz:a0.tmps.size=Tryz.f120.ntmps:=by rw [← ha0];rfl
 replace hsz:a0.tmps.size=17:=hsz.trans Zk
 have hdf:a0.defers=[]:=by rw [← ha0]
 have e0:a0.eval (.tmp 0)=.string nm:=by rw [← ha0];rfl
 have e1:a0.eval (.tmp 1)=.pointer (some ⟨gs,0,none⟩):=by rw [← ha0];rfl
 have e2:a0.eval (.tmp 2)=.func (.func 121) #[] #[]:=by rw [← ha0];rfl
 clear ha0
 refine yB ?_
 refine yf rfl (Y9 (JC w)) ?_
 refine yG ?_
 have hgr:=Y2 w (.cells #[.string ⟨#[]⟩,.int .i64 0,.bool false,.int .i64 0,.int .u64 0,.float .f64 0,.string ⟨#[]⟩,.slice none 0 0] 34 (0,0))
 have hst1:=YA hst (.cells #[.string ⟨#[]⟩,.int .i64 0,.bool false,.int .i64 0,.int .u64 0,.float .f64 0,.string ⟨#[]⟩,.slice none 0 0] 34 (0,0))
 have hB1:Below w.heap.size w (w.alloc (.cells #[.string ⟨#[]⟩,.int .i64 0,.bool false,.int .i64 0,.int .u64 0,.float .f64 0,.string ⟨#[]⟩,.slice none 0 0] 34 (0,0))):=ym (Below.refl _ _) _
 generalize (w.alloc (.cells #[.string ⟨#[]⟩,.int .i64 0,.bool false,.int .i64 0,.int .u64 0,.float .f64 0,.string ⟨#[]⟩,.slice none 0 0] 34 (0,0)))=w1 at hgr hst1 hB1 ⊢
 refine wp_seq ?_
 refine yB ?_
 refine yf rfl (yJ (v:=.pointer (some ⟨gs,0,none⟩)) ((yb _ Zd).trans e1)) ?_
 refine yf rfl (yds (p:=⟨gs,0,none⟩) (ya _ Zs) ZW ZW) ?_
 refine yG ?_
 refine wp_cond_false (ya _ Zs) ?_
 refine wp_skip ?_
 simp only [Exit.then]
 refine wp_seq ?_
 refine wp_region_list ?_
 refine Kd.yh rfl (yJ (v:=.func (.func 121) #[] #[]) (by simp (disch:=exact Zq hsz) only [ya,yb,e2])) ?_
 refine Kd.yh rfl (yJ (v:=.string nm) (by simp (disch:=exact Zq hsz) only [ya,yb,e0])) ?_
 refine Kd.yh rfl (yJ (v:=.pointer (some ⟨gs,0,none⟩)) (by simp (disch:=exact Zq hsz) only [ya,yb,e1])) ?_
 refine Kd.yh rfl (run_nilok (p:=⟨gs,0,none⟩) (ya _ Zs)) ?_
 refine Kd.yh rfl (run_load (p:=.pointer (some ⟨gs,0,none⟩)) (v:=.agg (#[.float .f64 x,.float .f64 y,.float .f64 z]:Array Value)) (ya _ Zs) ?_) ?_
 · exact run_loadVar_row w1 gs 259 259 _ (0,0) _ hst1 Tryz.underlying259 rfl Zk
 refine yaz (some 16) rfl rfl (x:=.tmp 11) (f:=121) (cap:=#[]) (by simp (disch:=exact Zq hsz) only [ya,yb]) Tryz.func121 Zk rfl #[.string nm,.agg (#[.float .f64 x,.float .f64 y,.float .f64 z]:Array Value)] #[.string nm,.agg (#[.float .f64 x,.float .f64 y,.float .f64 z]:Array Value)] rfl
  (ybO (by simp (disch:=exact Zq hsz) only [ya,yb]) (ya _ Zs)) rfl ?_
 refine (la_walk nm x y z w1).mono ?_
 rintro e w2 ⟨v,rfl,hR,hB⟩
 refine ⟨_,rfl,?_⟩
 refine yb3 (r:=6) (s:=16) (gr:=w.heap.size) (base:=w1.heap.size) (w0:=w) rfl (by simp only [yq];exact hdf) (by simp (disch:=exact Zq hsz) only [ya,yb]) (ya _ Zs) (yE hgr hB) rfl (Nat.le_refl _) (Kd.YM (Kd.yaw hR hgr) (fun k hk=>hk.2)) (yy hB1 hB) ?_
 intro w3 hR3 hB3
 exact ⟨v,rfl,Kd.JU (Kd.YM hR3 (fun _ _=>trivial)) (yt hB1),hB3⟩
theorem la1_walk (x y z:Nat) (gs:Nat) (w:World) (hst:w.heap[gs]?=some (.cells (#[.float .f64 x,.float .f64 y,.float .f64 z]:Array Value) 259 (0,0))) :
 Calls Tryz.prog 119 #[.pointer (some ⟨gs,0,none⟩)] w fun e w'=>∃ v,e=.returned (.agg (yK ⟨#[]⟩ v))∧Kd.R k34 34 w' w.heap.size (fun _=>True) v (Qa x y z)∧Below w.heap.size w w':=by
 go_enter Tryz.func119,Tryz.ntmps119
 generalize ha0:(Act.mk _ _)=a0
 have hsz:a0.tmps.size=Tryz.f119.ntmps:=by rw [← ha0];rfl
 replace hsz:a0.tmps.size=5:=hsz.trans Zk
 have hdf:a0.defers=[]:=by rw [← ha0]
 have e0:a0.eval (.tmp 0)=.pointer (some ⟨gs,0,none⟩):=by rw [← ha0];rfl
 clear ha0
 refine yB ?_
 refine yf rfl (Y9 (JC w)) ?_
 refine yG ?_
 have hgr:=Y2 w (.cells #[.string ⟨#[]⟩,.int .i64 0,.bool false,.int .i64 0,.int .u64 0,.float .f64 0,.string ⟨#[]⟩,.slice none 0 0] 34 (0,0))
 have hst1:=YA hst (.cells #[.string ⟨#[]⟩,.int .i64 0,.bool false,.int .i64 0,.int .u64 0,.float .f64 0,.string ⟨#[]⟩,.slice none 0 0] 34 (0,0))
 have hB1:Below w.heap.size w (w.alloc (.cells #[.string ⟨#[]⟩,.int .i64 0,.bool false,.int .i64 0,.int .u64 0,.float .f64 0,.string ⟨#[]⟩,.slice none 0 0] 34 (0,0))):=ym (Below.refl _ _) _
 generalize (w.alloc (.cells #[.string ⟨#[]⟩,.int .i64 0,.bool false,.int .i64 0,.int .u64 0,.float .f64 0,.string ⟨#[]⟩,.slice none 0 0] 34 (0,0)))=w1 at hgr hst1 hB1 ⊢
 refine wp_seq ?_
 refine wp_region_list ?_
 refine Kd.yh rfl (yJ (v:=.pointer (some ⟨gs,0,none⟩)) ((yb _ Zd).trans e0)) ?_
 refine Yp (some 4) rfl rfl Tryz.func120 Zk rfl #[.string ⟨#[]⟩,.pointer (some ⟨gs,0,none⟩),.func (.func 121) #[] #[]] rfl (args1p (ya _ Zs)) ?_
 refine (ydy ⟨#[]⟩ x y z gs w1 hst1).mono ?_
 rintro e w2 ⟨v,rfl,hR,hB⟩
 refine ⟨_,rfl,?_⟩
 refine yb3 (r:=2) (s:=4) (gr:=w.heap.size) (base:=w1.heap.size) (w0:=w) rfl (by simp only [yq];exact hdf) (by simp (disch:=exact Zq hsz) only [ya,yb]) (ya _ Zs) (yE hgr hB) rfl (Nat.le_refl _) (Kd.YM (Kd.yaw hR hgr) (fun k hk=>hk.2)) (yy hB1 hB) ?_
 intro w3 hR3 hB3
 exact ⟨v,rfl,Kd.JU (Kd.YM hR3 (fun _ _=>trivial)) (yt hB1),hB3⟩
theorem catchLa_idle (p q:Addr) (w:World) :
 CallsD Tryz.prog 129 #[.pointer (some p),.pointer (some q)] .returning w fun e u' w'=>e=.returned (.tuple #[])∧u'=.returning∧w'=w:=by
 refine callsD_of_wpS Tryz.func129 rfl fun c₀ cs hu=>?_
 apply wpS_seq
 apply wpS_region
 simp [wpOpsS,go_sem,recoverD,hu,Tryz.ntmps129,Exit.thenS]
 refine wpS_cond (t:=false) (by simp [Act.eval,Array.replicate]) ?_
 simp only [Bool.false_eq_true,if_false]
 refine wpS_of_wp (wp_skip ?_)
 cases c₀
 simp_all [bodyPostS,results,Tryz.results129]
set_option maxRecDepth 100000 in
theorem treeLa_walk {fr ff:FuncId} {capr capf:Array Value} {fnr fnf:Func} (hfr:Tryz.prog.funcs[fr]?=some fnr) (hnr:(fnr.name == "runtime.NumGoroutine")=false) (hbr:fnr.body.isSome=true) (hff:Tryz.prog.funcs[ff]?=some fnf) (hnf:(fnf.name == "runtime.NumGoroutine")=false) (hbf:fnf.body.isSome=true)
 (Rd:Nat→World→Prop) (kids:List S34) (w:World)
 (hread:∀ W,Below w.heap.size w W→Calls Tryz.prog fr capr W fun e W'=>∃ gs,e=.returned (.tuple #[.pointer (some ⟨gs,0,none⟩),.nilIface])∧Below W.heap.size W W'∧Rd gs W')
 (htree:∀ gs W,Rd gs W→Calls Tryz.prog ff (#[.pointer (some ⟨gs,0,none⟩)]++capf) W fun e W'=>∃ v,e=.returned (.agg (yK ⟨#[]⟩ v))∧Kd.R k34 34 W' W.heap.size (fun _=>True) v kids∧Below W.heap.size W W') :
 Calls Tryz.prog 116 #[.func (.func fr) capr #[],.func (.func ff) #[] capf] w fun e w'=>∃ v,e=.returned (.tuple #[.agg (yK ⟨#[]⟩ v),.int .i64 0])∧Kd.R k34 34 w' w.heap.size (fun _=>True) v kids∧Below w.heap.size w w':=by
 go_enter_defers Tryz.func116,Tryz.ntmps116
 generalize ha0:(Act.mk _ _)=a0
 have hsz:a0.tmps.size=20:=by rw [← ha0];rfl
 have hdf:a0.defers=[]:=by rw [← ha0]
 have e0:a0.eval (.tmp 0)=.func (.func fr) capr #[]:=by rw [← ha0];rfl
 have e1:a0.eval (.tmp 1)=.func (.func ff) #[] capf:=by rw [← ha0];rfl
 clear ha0
 refine yB ?_
 refine yf rfl (Y9 (JC w)) ?_
 have hgr:=Y2 w (.cells #[.string ⟨#[]⟩,.int .i64 0,.bool false,.int .i64 0,.int .u64 0,.float .f64 0,.string ⟨#[]⟩,.slice none 0 0] 34 (0,0))
 have hB1:Below w.heap.size w (w.alloc (.cells #[.string ⟨#[]⟩,.int .i64 0,.bool false,.int .i64 0,.int .u64 0,.float .f64 0,.string ⟨#[]⟩,.slice none 0 0] 34 (0,0))):=ym (Below.refl _ _) _
 have hz1:(w.alloc (.cells #[.string ⟨#[]⟩,.int .i64 0,.bool false,.int .i64 0,.int .u64 0,.float .f64 0,.string ⟨#[]⟩,.slice none 0 0] 34 (0,0))).heap.size=w.heap.size+1:=by simp
 generalize (w.alloc (.cells #[.string ⟨#[]⟩,.int .i64 0,.bool false,.int .i64 0,.int .u64 0,.float .f64 0,.string ⟨#[]⟩,.slice none 0 0] 34 (0,0)))=w1 at hgr hB1 hz1 ⊢
 refine yf rfl (Y9 (show _=Result.ok (.pointer (some ⟨w1.heap.size,0,none⟩)) (w1.alloc (.cells #[.int .i64 0] 3)) by kernel_rfl)) ?_
 refine yG ?_
 have hgr2:=YA hgr (.cells #[.int .i64 0] 3 (0,0))
 have hgc:=Y2 w1 (.cells #[.int .i64 0] 3 (0,0))
 have hB2:Below w.heap.size w (w1.alloc (.cells #[.int .i64 0] 3 (0,0))):=ym hB1 _
 have hz2:(w1.alloc (.cells #[.int .i64 0] 3 (0,0))).heap.size=w.heap.size+2:=by simp [hz1]
 generalize (w1.alloc (.cells #[.int .i64 0] 3 (0,0)))=w2 at hgr2 hgc hB2 hz2 ⊢
 rw [hz1] at hgc ⊢
 refine wp_seq ?_
 refine wp_region_list ?_
 refine Kd.yh rfl (run_mf (v:=.pointer (some ⟨w.heap.size,0,none⟩)) (u:=.pointer (some ⟨w.heap.size+1,0,none⟩)) (by simp (disch:=exact Zq hsz) only [ya,yb]) (by simp (disch:=exact Zq hsz) only [ya,yb])) ?_
 refine ycy rfl rfl (run_df (ya _ Zs)) ?_
 refine wpList_nil ?_
 simp only [Exit.then]
 generalize hb0:(Act.mk _ _)=b0
 have bsz:b0.tmps.size=20:=by rw [← hb0];show (Act.put (Act.put (Act.put a0 _ _) _ _) _ _).tmps.size=20;simp only [size_put];exact hsz
 have bev:∀ j:Nat,b0.eval (.tmp j)=(Act.put (Act.put (Act.put a0 (some 4) (.pointer (some ⟨w.heap.size,0,none⟩))) (some 5) (.pointer (some ⟨w.heap.size+1,0,none⟩))) (some 8) (.func (.func 129) #[] #[.pointer (some ⟨w.heap.size,0,none⟩),.pointer (some ⟨w.heap.size+1,0,none⟩)])).eval (.tmp j):=fun j=>by rw [← hb0];rfl
 have bdf:b0.defers=[{ target:=.fn (.func 129) #[.pointer (some ⟨w.heap.size,0,none⟩),.pointer (some ⟨w.heap.size+1,0,none⟩)],args:=#[] }]:=by rw [← hb0];simp only [yq,hdf]
 have b0e:b0.eval (.tmp 0)=.func (.func fr) capr #[]:=by rw [bev];simp (disch:=decide) only [yb,e0]
 have b1e:b0.eval (.tmp 1)=.func (.func ff) #[] capf:=by rw [bev];simp (disch:=decide) only [yb,e1]
 have b4e:b0.eval (.tmp 4)=.pointer (some ⟨w.heap.size,0,none⟩):=by rw [bev];simp (disch:=exact Zq hsz) only [ya,yb]
 have b5e:b0.eval (.tmp 5)=.pointer (some ⟨w.heap.size+1,0,none⟩):=by rw [bev];simp (disch:=exact Zq hsz) only [ya,yb]
 clear hb0 bev
 refine wp_seq ?_
 refine wp_region_list ?_
 refine Kd.yh rfl (yJ (v:=.func (.func fr) capr #[]) b0e) ?_
 refine goesF_ (some 11) rfl rfl (x:=.tmp 10) (f:=fr) (first:=capr) (ya _ Zo) hfr hnr hbr #[] capr rfl (by simp) (by simp) ?_
 refine (hread w2 hB2).mono ?_
 rintro e w3 ⟨gs,rfl,hB3,hRd⟩
 refine ⟨_,rfl,?_⟩
 refine Kd.yh rfl (yJ (v:=.tuple #[.pointer (some ⟨gs,0,none⟩),.nilIface]) (ya _ Zs)) ?_
 refine Kd.yh rfl (YI (u:=.tuple #[.pointer (some ⟨gs,0,none⟩),.nilIface]) (v:=.pointer (some ⟨gs,0,none⟩)) (ya _ Zs) (qh _ _ _)) ?_
 refine Kd.yh rfl (YI (u:=.tuple #[.pointer (some ⟨gs,0,none⟩),.nilIface]) (v:=.nilIface) ((yb _ Zd).trans (ya _ Zs)) (qi _ _ _)) ?_
 refine Kd.yh rfl (yX (v:=.pointer (some ⟨gs,0,none⟩)) (by simp (disch:=exact Zq bsz) only [ya,yb])) ?_
 refine Kd.yh rfl (yX (v:=.nilIface) (by simp (disch:=exact Zq bsz) only [ya,yb])) ?_
 refine wpList_nil ?_
 simp only [Exit.then]
 refine Ql (k:=14) (sz:=20) (er:=7) (by simp only [size_put];exact bsz) Zd (ya _ Zs) ?_
 intro c0 csz cdf cev
 have c1e:c0.eval (.tmp 1)=.func (.func ff) #[] capf:=by rw [cev 1 Zd Zd];simp (disch:=decide) only [yb,b1e]
 have c4e:c0.eval (.tmp 4)=.pointer (some ⟨w.heap.size,0,none⟩):=by rw [cev 4 Zd Zd];simp (disch:=decide) only [yb,b4e]
 have c5e:c0.eval (.tmp 5)=.pointer (some ⟨w.heap.size+1,0,none⟩):=by rw [cev 5 Zd Zd];simp (disch:=decide) only [yb,b5e]
 have c6e:c0.eval (.tmp 6)=.pointer (some ⟨gs,0,none⟩):=by rw [cev 6 Zd Zd];simp (disch:=exact Zq bsz) only [ya,yb]
 replace cdf:c0.defers=[{ target:=.fn (.func 129) #[.pointer (some ⟨w.heap.size,0,none⟩),.pointer (some ⟨w.heap.size+1,0,none⟩)],args:=#[] }]:=by rw [cdf];simp only [yq,bdf]
 clear cev
 have hgr3:=yE hgr2 hB3
 have hgc3:=yE hgc hB3
 have hB3w:=yy hB2 hB3
 refine wp_seq ?_
 refine wp_region_list ?_
 refine Kd.yh rfl (yJ (v:=.func (.func ff) #[] capf) c1e) ?_
 refine Kd.yh rfl (yJ (v:=.pointer (some ⟨gs,0,none⟩)) (by simp (disch:=exact Zq csz) only [ya,yb,c6e])) ?_
 refine yaz (some 19) rfl rfl (x:=.tmp 17) (f:=ff) (cap:=capf) (by simp (disch:=exact Zq csz) only [ya,yb]) hff hnf hbf #[.pointer (some ⟨gs,0,none⟩)] (#[.pointer (some ⟨gs,0,none⟩)]++capf) rfl (JX (ya _ Zs)) rfl ?_
 refine (htree gs w3 hRd).mono ?_
 rintro e w4 ⟨v,rfl,hR4,hB4⟩
 refine ⟨_,rfl,?_⟩
 have hgr4:=yE hgr3 hB4
 have hgc4:=yE hgc3 hB4
 have hB4w:=yy hB3w hB4
 have hs3:w.heap.size+2≤w3.heap.size:=by have:=yt hB3;omega
 have hR4':=Kd.YM (ok':=fun k=>k≠w.heap.size∧k≠w.heap.size+1) (Kd.JZ hR4) (fun k hk=>⟨by have:=hk.2.1;omega,by have:=hk.2.1;omega⟩)
 obtain ⟨A,c,hv1⟩:=Kd.Y7 hR4'
 subst hv1
 obtain ⟨w5,hrun5,hb5,hoth5,hbel5⟩:=qL (s1:=⟨#[]⟩) (k:=8) (b:=false) (i:=0) (u:=0) (f:=0) (s2:=⟨#[]⟩) (A:=A) (n:=kids.length) (c:=c) hgr4 rfl
 refine Jk rfl rfl (run_store (p:=.pointer (some ⟨w.heap.size,0,none⟩)) (v:=.agg (yK ⟨#[]⟩ (.slice A kids.length c))) (by simp (disch:=exact Zq csz) only [ya,yb,c4e]) (ya _ Zs) hrun5) ?_
 have hgc5:w5.heap[w.heap.size+1]?=_:=(hoth5 _ Zo).trans hgc4
 have hB5w:=hbel5 _ _ (Nat.le_refl _) hB4w
 have hR5:=Kd.qH (w1:=w5) hR4' (fun j hj _=>hoth5 j hj.1)
 refine Jk rfl rfl (run_store (p:=.pointer (some ⟨w.heap.size+1,0,none⟩)) (v:=.int .i64 0) (by simp (disch:=exact Zq csz) only [ya,yb,c5e]) rfl (store_int (x:=0) Zk Zk (by rw [ye hgc5];rfl) (yg hgc5 0))) ?_
 refine wpList_nil ?_
 simp only [Exit.then]
 refine wp_ret ?_
 have hgr6:=yI hb5 (p:=⟨w.heap.size+1,0,none⟩) (by show w.heap.size≠w.heap.size+1;omega) (.int .i64 0)
 have hgc6:=yA hgc5 0 (.int .i64 0) rfl
 have hB6w:Below w.heap.size w (w5.setCell ⟨w.heap.size+1,0,none⟩ (.int .i64 0)):=yw hB5w Zo
 have hR6:=Kd.JS hR5 (p:=⟨w.heap.size+1,0,none⟩) (fun k hk=>hk.2) (.int .i64 0)
 generalize (w5.setCell ⟨w.heap.size+1,0,none⟩ (.int .i64 0))=w6 at hgr6 hgc6 hB6w hR6 ⊢
 generalize hz:(Act.put _ (some 19) _)=z0
 have zdf:z0.defers=[{ target:=.fn (.func 129) #[.pointer (some ⟨w.heap.size,0,none⟩),.pointer (some ⟨w.heap.size+1,0,none⟩)],args:=#[] }]:=by rw [← hz];simp only [yq,cdf]
 have z4:z0.eval (.tmp 4)=.pointer (some ⟨w.heap.size,0,none⟩):=by rw [← hz];simp (disch:=decide) only [yb,c4e]
 have z5:z0.eval (.tmp 5)=.pointer (some ⟨w.heap.size+1,0,none⟩):=by rw [← hz];simp (disch:=decide) only [yb,c5e]
 clear hz
 show Leaves Tryz.prog _ z0.tmps _ z0.defers .returning w6
 rw [zdf]
 refine leaves_cons (f:=129) (args:=#[.pointer (some ⟨w.heap.size,0,none⟩),.pointer (some ⟨w.heap.size+1,0,none⟩)]) (by simp) (by simp [go_sem]) ?_
 refine (catchLa_idle _ _ w6).mono ?_
 rintro e u' w7 ⟨rfl,rfl,rfl⟩
 refine ⟨_,ydz (v:=.int .i64 0) rfl z0.tmps _ w.heap.size (w.heap.size+1) 34 (yK ⟨#[]⟩ (.slice A kids.length c)) (0,0) _ z4 hgr6 Tryz.underlying34 rfl Zk z5 ?_,_,rfl,Kd.JU (Kd.YM hR6 (fun _ _=>trivial)) (yt hB3w),hB6w⟩
 have hc6:=(ye hgc6 0).trans (show _=some (Value.int .i64 0) from rfl)
 exact load_int Zk Zk hc6
end Go.Proofs.YtdcaggoicdfehaaGreatDoor
namespace Go.Proofs.YtdcaggoicdfehaaGreatDoor
open Go.RowKit Go.Proofs.YtdcaggoicdfehaaGreatDoorW.PrintWords Go.Proofs.YtdcaggoicdfehaaGreatDoorW.PrintLast Go.Proofs.YtdcaggoicdfehaaGreatDoorW.PrintMore
abbrev Env:=List (Nat × Value)
def lk:Env→Nat→Value
 | [],_=>undef
 | (j,v)::r,i=>bif Nat.beq i j then v else lk r i
def evE (E:Env):Operand→Value
 | .tmp j=>lk E j
 | .const v=>v
 | .global g=>.pointer (some ⟨g,0,none⟩)
 | .func f=>.func (.func f) #[] #[]
def forced {α:Type} (v:Value) (K:Value→α):α:=
 match v with
 | .int k (.ofNat m)=>match m with
  | 0=>K (.int k (.ofNat 0))
  | m+1=>K (.int k (.ofNat (m+1)))
 | v=>K v
theorem ycd {α:Type} (v:Value) (K:Value→α):forced v K=K v:=by
 unfold forced
 split
 · split <;> rfl
 · rfl
def bindE (d:Option Tmp) (v:Value) (E:Env):Env:=
 match d with
 | some j=>(j,v)::E
 | none=>E
def wantE (ops:Array Oper) (E:Env) (o:Oper):Option Bool:=
 match o.guard with
 | none=>some true
 | some (j,b)=>match ops[j]? with
  | some oj=>match oj.dst with
   | some d=>match lk E d with
    | .bool c=>some (c == b)
    | _=>none
   | none=>none
  | none=>none
def dstOk (sz:Nat):Option Tmp→Bool
 | some d=>Nat.ble (d+1) sz
 | none=>true
abbrev Log:=List (TypeId × Value × Value × World)
def yae (P:Program) (L:Log):Prop:=∀ x ∈ L,(Instr.loadAt x.1 x.2.1).run P x.2.2.2=.ok x.2.2.1 x.2.2.2
theorem logged_cons {P:Program} {x:TypeId × Value × Value × World} {L:Log} (h:yae P (x::L)):(Instr.loadAt x.1 x.2.1).run P x.2.2.2=.ok x.2.2.1 x.2.2.2∧yae P L:=⟨h x (List.mem_cons_self ..),fun y hy=>h y (List.mem_cons_of_mem _ hy)⟩
theorem yby {P:Program} {L M:Log} (h:yae P (L++M)):yae P L∧yae P M:=⟨fun y hy=>h y (List.mem_append_left _ hy),fun y hy=>h y (List.mem_append_right _ hy)⟩
def appL {α:Type} (L:Log):Option (α × World × List Value × Log)→Option (α × World × List Value × Log)
 | some (E,w,O,M)=>some (E,w,O,L++M)
 | none=>none
theorem ybb {α:Type} {L:Log} {x:Option (α × World × List Value × Log)} {E:α} {w:World} {O:List Value} {N:Log} (h:appL L x=some (E,w,O,N)):∃ M,x=some (E,w,O,M)∧N=L++M:=by
 cases x with
 | none=>cases h
 | some y=>
  obtain ⟨E1,w1,O1,M⟩:=y
  simp only [appL,Option.some.injEq,Prod.mk.injEq] at h
  obtain ⟨rfl,rfl,rfl,rfl⟩:=h
  exact ⟨M,rfl,rfl⟩
def loadOf (o:Oper):Option (TypeId × Operand):=
 match o.op with
 | .load T x=>some (T,x)
 | _=>none
abbrev CallE:=FuncId→Array Value→World→List Value→Option (Value × World × List Value × Log)
def ybV (P:Program) (call:CallE) (sz:Nat) (ops:Array Oper):List Oper→Env→World→List Value→Option (Env × World × List Value × Log)
 | [],E,w,O=>some (E,w,O,[])
 | o::r,E,w,O=>
  bif dstOk sz o.dst then
   match wantE ops E o with
   | some true=>match loadOf o with
    | some (T,x)=>match O with
     | v::O'=>appL [(T,evE E x,v,w)] (forced v fun v=>ybV P call sz ops r (bindE o.dst v E) w O')
     | []=>none
    | none=>match (execOp (evE E) o).run P w with
     | .ok (.value v) w'=>forced v fun v=>ybV P call sz ops r (bindE o.dst v E) w' O
     | .ok (.enter f args) w'=>match call f args w' O with
      | some (v,w'',O',L)=>appL L (forced v fun v=>ybV P call sz ops r (bindE o.dst v E) w'' O')
      | none=>none
     | _=>none
   | some false=>ybV P call sz ops r (bindE o.dst undef E) w O
   | none=>none
  else none
def evC (P:Program) (call:CallE) (sz:Nat):Nat→Code→Env→World→List Value→Option ((Exit × Env) × World × List Value × Log)
 | 0,_,_,_,_=>none
 | n+1,c,E,w,O=>match c with
  | .skip=>some ((.normal,E),w,O,[])
  | .region _ ops draw=>bif draw then none else match ybV P call sz ops ops.toList E w O with
   | some (E',w',O',L)=>some ((.normal,E'),w',O',L)
   | none=>none
  | .seq x y=>match evC P call sz n x E w O with
   | some ((.normal,E'),w',O',L)=>appL L (evC P call sz n y E' w' O')
   | r=>r
  | .cond c x y=>match evE E c with
   | .bool true=>evC P call sz n x E w O
   | .bool false=>evC P call sz n y E w O
   | _=>none
  | .block id x=>match evC P call sz n x E w O with
   | some ((.exit id',E'),w',O',L)=>bif Nat.beq id' id then some ((.normal,E'),w',O',L) else some ((.exit id',E'),w',O',L)
   | r=>r
  | .loop x=>match evC P call sz n x E w O with
   | some ((.normal,E'),w',O',L)=>appL L (evC P call sz n (.loop x) E' w' O')
   | r=>r
  | .exit id=>some ((.exit id,E),w,O,[])
  | .scope x=>match evC P call sz n x E w O with
   | some ((.goto _,_),_,_,_)=>none
   | r=>r
  | .label _=>some ((.normal,E),w,O,[])
  | .goto l=>some ((.goto l,E),w,O,[])
  | .ret=>some ((.ret,E),w,O,[])
  | _=>none
structure RepE (sz:Nat) (E:Env) (a:Act):Prop where
 size:a.tmps.size=sz
 at_:∀ j:Nat,a.eval (.tmp j)=lk E j
theorem RepE.eval {sz:Nat} {E:Env} {a:Act} (h:RepE sz E a):a.eval=evE E:=by
 funext o
 cases o with
 | tmp j=>exact h.at_ j
 | const v=>rfl
 | global g=>rfl
 | func f=>rfl
theorem RepE.put {sz:Nat} {E:Env} {a:Act} (h:RepE sz E a) {d:Option Tmp} (hd:dstOk sz d=true) (v:Value):RepE sz (bindE d v E) (a.put d v):=by
 cases d with
 | none=>exact h
 | some d=>
  have hd':d<sz:=by
   simp only [dstOk] at hd
   exact Nat.le_of_ble_eq_true hd
  refine ⟨by rw [size_put];exact h.size,fun j=>?_⟩
  show _=lk ((d,v)::E) j
  by_cases e:j=d
  · subst e
    rw [ya _ (by rw [h.size];exact hd')]
    simp [lk]
  · rw [yb _ e,h.at_]
    have:Nat.beq j d=false:=by
     cases hb:Nat.beq j d with
     | false=>rfl
     | true=>exact absurd (Nat.eq_of_beq_eq_true hb) e
    simp [lk,this]
theorem wantE_ok {sz:Nat} {ops:Array Oper} {E:Env} {a:Act} {o:Oper} {b:Bool} (h:RepE sz E a) (hall:∀ oj ∈ ops.toList,dstOk sz oj.dst=true) (hw:wantE ops E o=some b):Region.wanted o (yielded ops a.tmps)=b:=by
 unfold wantE at hw
 cases hg:o.guard with
 | none=>
  rw [hg] at hw
  injection hw with hw
  subst hw
  simp [Region.wanted,hg]
 | some g=>
  obtain ⟨j,bb⟩:=g
  rw [hg] at hw
  simp only at hw
  cases hj:ops[j]? with
  | none=>rw [hj] at hw;cases hw
  | some oj=>
   rw [hj] at hw
   simp only at hw
   cases hd:oj.dst with
   | none=>rw [hd] at hw;cases hw
   | some d=>
    rw [hd] at hw
    simp only at hw
    have hds:d<a.tmps.size:=by
     have:=hall oj (by rw [← Array.getElem?_toList] at hj;exact List.mem_of_getElem? hj)
     rw [hd] at this
     rw [h.size]
     exact Nat.le_of_ble_eq_true this
    cases hv:lk E d with
    | bool c=>
     rw [hv] at hw
     injection hw with hw
     have he:=(h.at_ d).trans hv
     subst hw
     by_cases e:c=bb
     · subst e
       rw [Yc hg hj hd hds he];simp
     · rw [JF hg hj hd hds he e]
       cases c <;> cases bb <;> simp_all
    | _=>rw [hv] at hw;cases hw
def CallOk (P:Program) (call:CallE):Prop:=∀ f args w O v w' O' L,call f args w O=some (v,w',O',L)→yae P L→Calls P f args w fun e w''=>e=.returned v∧w''=w'
theorem yaU {P:Program} {call:CallE} (hcall:CallOk P call) {sz:Nat} {ops:Array Oper} (hall:∀ oj ∈ ops.toList,dstOk sz oj.dst=true) {Q:Exit→Act→World→Prop} :
 ∀ (l:List Oper) (E:Env) (w:World) (O:List Value) (E':Env) (w':World) (O':List Value) (L:Log),ybV P call sz ops l E w O=some (E',w',O',L)→yae P L→∀ a,RepE sz E a→(∀ a',RepE sz E' a'→a'.defers=a.defers→Q .normal a' w')→wpList P ops Q l a w
 | [],E,w,O,E',w',O',L,h,hL,a,hr,hQ=>by
  simp only [ybV,Option.some.injEq,Prod.mk.injEq] at h
  obtain ⟨rfl,rfl,rfl,rfl⟩:=h
  exact wpList_nil (hQ a hr rfl)
 | o::r,E,w,O,E',w',O',L,h,hL,a,hr,hQ=>by
  simp only [ybV] at h
  cases hd:dstOk sz o.dst with
  | false=>rw [hd] at h;cases h
  | true=>
   rw [hd] at h
   simp only [cond_true] at h
   cases hw:wantE ops E o with
   | none=>rw [hw] at h;cases h
   | some b=>
    have hwo:=wantE_ok hr hall hw
    rw [hw] at h
    cases b with
    | false=>
     simp only at h
     exact ybA hwo (yaU hcall hall r _ w O E' w' O' L h hL _ (hr.put hd undef) (fun a' h1 h2=>hQ a' h1 (by rw [h2,yq])))
    | true=>
     simp only at h
     refine wpList_step fun K hK=>?_
     rw [if_pos hwo]
     cases hl:loadOf o with
     | some p=>
      obtain ⟨T,x⟩:=p
      rw [hl] at h
      simp only at h
      cases O with
      | nil=>cases h
      | cons v O1=>
       simp only [ycd] at h
       obtain ⟨M,hx,rfl⟩:=ybb h
       obtain ⟨h1,h2⟩:=logged_cons hL
       rw [← hr.eval] at h1
       have hop:o.op=.load T x:=by
        unfold loadOf at hl
        split at hl
        · rename_i T' x' he
          simp only [Option.some.injEq,Prod.mk.injEq] at hl
          obtain ⟨rfl,rfl⟩:=hl
          exact he
        · cases hl
       have hrun:(execOp a.eval o).run P w=.ok (.value v) w:=by
        have e:execOp a.eval o=(do pure (Next.value (← Instr.loadAt T (a.eval x))):Sem Next):=by
         unfold execOp
         rw [hop]
        rw [e]
        exact Jc h1
       unfold Oper.wp
       rw [hrun,Oper.upon_value]
       exact hK _ _ (yaU hcall hall r _ w O1 E' w' O' M hx h2 _ (hr.put hd v) (fun a' h1 h2=>hQ a' h1 (by rw [h2,yq])))
     | none=>
      rw [hl] at h
      simp only at h
      rw [← hr.eval] at h
      unfold Oper.wp
      cases hx:(execOp a.eval o).run P w with
      | halt e w1=>rw [hx] at h;cases h
      | ok nx w1=>
       rw [hx] at h
       cases nx with
       | value v=>
        simp only [ycd] at h
        rw [Oper.upon_value]
        exact hK _ _ (yaU hcall hall r _ w1 O E' w' O' L h hL _ (hr.put hd v) (fun a' h1 h2=>hQ a' h1 (by rw [h2,yq])))
       | enter f args=>
        simp only at h
        rw [Oper.upon_enter]
        cases hc:call f args w1 O with
        | none=>rw [hc] at h;cases h
        | some p=>
         obtain ⟨v,w2,O2,L2⟩:=p
         rw [hc] at h
         simp only [ycd] at h
         obtain ⟨M,hx,rfl⟩:=ybb h
         obtain ⟨h1,h2⟩:=yby hL
         refine (hcall f args w1 O v w2 O2 L2 hc h1).mono fun e w'' hh=>?_
         obtain ⟨rfl,rfl⟩:=hh
         exact hK _ _ (yaU hcall hall r _ _ O2 E' w' O' M hx h2 _ (hr.put hd v) (fun a' h1 h2=>hQ a' h1 (by rw [h2,yq])))
       | _=>cases h
end Go.Proofs.YtdcaggoicdfehaaGreatDoor
namespace Go.Proofs.YtdcaggoicdfehaaGreatDoor
open Go.RowKit Go.Proofs.YtdcaggoicdfehaaGreatDoorW.PrintWords Go.Proofs.YtdcaggoicdfehaaGreatDoorW.PrintLast Go.Proofs.YtdcaggoicdfehaaGreatDoorW.PrintMore
def qE (sz:Nat):Code→Bool
 | .region _ ops _=>ops.toList.all fun o=>dstOk sz o.dst
 | .seq x y=>qE sz x && qE sz y
 | .cond _ x y=>qE sz x && qE sz y
 | .block _ x=>qE sz x
 | .loop x=>qE sz x
 | .scope x=>qE sz x
 | _=>true
theorem evC_ok {P:Program} {call:CallE} (hcall:CallOk P call) {sz:Nat} :
 ∀ (n:Nat) (c:Code) (E:Env) (w:World) (O:List Value) (e:Exit) (E':Env) (w':World) (O':List Value) (L:Log),qE sz c=true→evC P call sz n c E w O=some ((e,E'),w',O',L)→yae P L→∀ a,RepE sz E a→∀ Q:Exit→Act→World→Prop,(∀ a',RepE sz E' a'→a'.defers=a.defers→Q e a' w')→c.wp P Q a w:=by
 intro n
 induction n using Nat.strongRecOn with
 | _ n ih=>
 intro c E w O e E' w' O' L hs h hL a hr Q hQ
 cases n with
 | zero=>simp [evC] at h
 | succ n=>
 have ih':=fun (c:Code)=>ih n (Nat.lt_succ_self n) c
 cases c with
 | skip=>
  simp only [evC,Option.some.injEq,Prod.mk.injEq] at h
  obtain ⟨⟨rfl,rfl⟩,rfl,rfl,rfl⟩:=h
  exact wp_skip (hQ a hr rfl)
 | region id ops draw=>
  simp only [evC] at h
  cases draw with
  | true=>cases h
  | false=>
   simp only [cond_false] at h
   cases ho:ybV P call sz ops ops.toList E w O with
   | none=>rw [ho] at h;cases h
   | some p=>
    obtain ⟨E1,w1,O1,L1⟩:=p
    rw [ho] at h
    simp only [Option.some.injEq,Prod.mk.injEq] at h
    obtain ⟨⟨rfl,rfl⟩,rfl,rfl,rfl⟩:=h
    refine wp_region_list (yaU hcall ?_ _ _ _ _ _ _ _ _ ho hL a hr hQ)
    intro oj hoj
    exact List.all_eq_true.1 hs oj hoj
 | seq x y=>
  simp only [qE,Bool.and_eq_true] at hs
  simp only [evC] at h
  refine wp_seq ?_
  cases hx:evC P call sz n x E w O with
  | none=>rw [hx] at h;cases h
  | some p=>
   obtain ⟨⟨e1,E1⟩,w1,O1,L1⟩:=p
   rw [hx] at h
   cases e1 with
   | normal=>
    obtain ⟨M,hy,rfl⟩:=ybb h
    obtain ⟨h1,h2⟩:=yby hL
    exact ih' x E w O _ E1 w1 O1 L1 hs.1 hx h1 a hr _ (fun a1 hr1 hd1=>ih' y E1 w1 O1 e E' w' O' M hs.2 hy h2 a1 hr1 Q (fun a' hr' hd'=>hQ a' hr' (hd'.trans hd1)))
   | _=>
    simp only [Option.some.injEq,Prod.mk.injEq] at h
    obtain ⟨⟨rfl,rfl⟩,rfl,rfl,rfl⟩:=h
    exact ih' x E w O _ E1 w1 O1 L1 hs.1 hx hL a hr _ (fun a1 hr1 hd1=>hQ a1 hr1 hd1)
 | cond c x y=>
  simp only [qE,Bool.and_eq_true] at hs
  simp only [evC] at h
  rw [← hr.eval] at h
  cases hc:a.eval c with
  | bool b=>
   rw [hc] at h
   cases b with
   | true=>exact wp_cond_true hc (ih' x E w O e E' w' O' L hs.1 h hL a hr Q hQ)
   | false=>exact wp_cond_false hc (ih' y E w O e E' w' O' L hs.2 h hL a hr Q hQ)
  | _=>rw [hc] at h;cases h
 | block id x=>
  simp only [evC] at h
  refine wp_block ?_
  cases hx:evC P call sz n x E w O with
  | none=>rw [hx] at h;cases h
  | some p=>
   obtain ⟨⟨e1,E1⟩,w1,O1,L1⟩:=p
   rw [hx] at h
   cases e1 with
   | exit id'=>
    simp only at h
    cases hb:Nat.beq id' id with
    | true=>
     rw [hb] at h
     simp only [cond_true,Option.some.injEq,Prod.mk.injEq] at h
     obtain ⟨⟨rfl,rfl⟩,rfl,rfl,rfl⟩:=h
     refine ih' x E w O _ E1 w1 O1 L1 hs hx hL a hr _ (fun a1 hr1 hd1=>?_)
     simp only [Exit.inBlock]
     rw [if_pos (Nat.eq_of_beq_eq_true hb)]
     exact hQ a1 hr1 hd1
    | false=>
     rw [hb] at h
     simp only [cond_false,Option.some.injEq,Prod.mk.injEq] at h
     obtain ⟨⟨rfl,rfl⟩,rfl,rfl,rfl⟩:=h
     refine ih' x E w O _ E1 w1 O1 L1 hs hx hL a hr _ (fun a1 hr1 hd1=>?_)
     simp only [Exit.inBlock]
     rw [if_neg (fun e=>by subst e;rw [Nat.beq_refl] at hb;cases hb)]
     exact hQ a1 hr1 hd1
   | _=>
    simp only [Option.some.injEq,Prod.mk.injEq] at h
    obtain ⟨⟨rfl,rfl⟩,rfl,rfl,rfl⟩:=h
    exact ih' x E w O _ E1 w1 O1 L1 hs hx hL a hr _ (fun a1 hr1 hd1=>hQ a1 hr1 hd1)
 | loop x=>
  refine wp_loop_ghost (fun m a' w1=>∃ E1 O1 L1,m≤n+1∧RepE sz E1 a'∧a'.defers=a.defers∧yae P L1∧evC P call sz m (.loop x) E1 w1 O1=some ((e,E'),w',O',L1)) (n+1) ⟨E,O,L,Nat.le_refl _,hr,rfl,hL,h⟩ ?_
  rintro m a1 w1 ⟨E1,O1,L1,hm,hr1,hd1,hL1,h1⟩
  cases m with
  | zero=>simp [evC] at h1
  | succ m=>
   simp only [evC] at h1
   cases hx:evC P call sz m x E1 w1 O1 with
   | none=>rw [hx] at h1;cases h1
   | some p=>
    obtain ⟨⟨e2,E2⟩,w2,O2,L2⟩:=p
    rw [hx] at h1
    cases e2 with
    | normal=>
     obtain ⟨M,hy,rfl⟩:=ybb h1
     obtain ⟨k1,k2⟩:=yby hL1
     exact ih m Zo x E1 w1 O1 _ E2 w2 O2 L2 hs hx k1 a1 hr1 _ (fun a2 hr2 hd2=>⟨m,by omega,E2,O2,M,by omega,hr2,hd2.trans hd1,k2,hy⟩)
    | _=>
     simp only [Option.some.injEq,Prod.mk.injEq] at h1
     obtain ⟨⟨rfl,rfl⟩,rfl,rfl,rfl⟩:=h1
     exact ih m Zo x E1 w1 O1 _ E2 w2 O2 L2 hs hx hL1 a1 hr1 _ (fun a2 hr2 hd2=>hQ a2 hr2 (hd2.trans hd1))
 | exit id=>
  simp only [evC,Option.some.injEq,Prod.mk.injEq] at h
  obtain ⟨⟨rfl,rfl⟩,rfl,rfl,rfl⟩:=h
  exact wp_exit (hQ a hr rfl)
 | scope x=>
  simp only [evC] at h
  refine wp_scope_straight ?_
  cases hx:evC P call sz n x E w O with
  | none=>rw [hx] at h;cases h
  | some p=>
   obtain ⟨⟨e1,E1⟩,w1,O1,L1⟩:=p
   rw [hx] at h
   cases e1 with
   | goto l=>cases h
   | _=>
    simp only [Option.some.injEq,Prod.mk.injEq] at h
    obtain ⟨⟨rfl,rfl⟩,rfl,rfl,rfl⟩:=h
    exact ih' x E w O _ E1 w1 O1 L1 hs hx hL a hr _ (fun a1 hr1 hd1=>hQ a1 hr1 hd1)
 | label l=>
  simp only [evC,Option.some.injEq,Prod.mk.injEq] at h
  obtain ⟨⟨rfl,rfl⟩,rfl,rfl,rfl⟩:=h
  exact wp_label (hQ a hr rfl)
 | goto l=>
  simp only [evC,Option.some.injEq,Prod.mk.injEq] at h
  obtain ⟨⟨rfl,rfl⟩,rfl,rfl,rfl⟩:=h
  exact wp_goto (hQ a hr rfl)
 | ret=>
  simp only [evC,Option.some.injEq,Prod.mk.injEq] at h
  obtain ⟨⟨rfl,rfl⟩,rfl,rfl,rfl⟩:=h
  exact wp_ret (hQ a hr rfl)
 | rangeFunc f ps asg body=>simp [evC] at h
 | _=>simp [evC] at h
end Go.Proofs.YtdcaggoicdfehaaGreatDoor
