/- Part 20 of 34 of the proof of the tied card of FnNetstatRead. -/
import Derived.Test.YtlmennkeggmdbaaGreatDoorVz
import Derived.Test.YtlmennkeggmdbaaGreatDoorV18
import Derived.Test.YtlmennkeggmdbaaGreatDoorV19
import Derived.Shelf.LaysM
import Derived.Shelf.Strings.Fields
import Derived.Test.YtlmennkeggmdbaaGreatDoorProg
set_option linter.unusedVariables false
set_option linter.unusedSimpArgs false
namespace Go.Proofs.YtlmennkeggmdbaaGreatDoor
open Go.RowKit Go.Proofs.YtlmennkeggmdbaaGreatDoorW.PrintWords Go.Proofs.YtlmennkeggmdbaaGreatDoorW.PrintLast Go.Proofs.YtlmennkeggmdbaaGreatDoorW.PrintMore
theorem goesF_ {P:Program} {ops:Array Oper} {Q:Exit→Act→World→Prop} {rest:List Oper} {oi:Oper} {a:Act} {w:World} (N:Option Tmp) (hd:oi.dst=N) (hg:oi.guard=none) {f:FuncId} {fn:Func} {x:Operand} {first:Array Value} {ao:Array Operand} {ts:Array TypeId}
 (hx:a.eval x=.func (.func f) first #[]) (hf:P.funcs[f]?=some fn) (hname:(fn.name == "runtime.NumGoroutine")=false) (hb:fn.body.isSome=true) (args0:Array Value) (args:Array Value)
 (hop:oi.op=.call { callee:=.value x,args:=ao,argTypes:=ts }) (hargs:ao.map a.eval=args0) (hall:first++args0=args)
 (h:Calls P f args w fun e w'=>∃ v,e=.returned v∧wpList P ops Q rest (a.put N v) w'):wpList P ops Q (oi::rest) a w:=by
 refine wpList_plain hg fun K hK=>?_
 have he:=QX hf hname hb args w
 have hrun:(execOp a.eval oi).run P w=.ok (.enter f args) w:=by
  unfold execOp
  simp [hop,resolve,Deferred.ofValue,invoke,hx,hargs,hall,he]
 unfold Oper.wp
 rw [hrun,Oper.upon_enter]
 refine h.mono fun e w'' hh=>?_
 obtain ⟨v,rfl,hk⟩:=hh
 subst hd
 exact hK _ _ hk
abbrev fNode (nm:ByteArray) (x:Nat):S34:=⟨nm,4,false,0,0,x,⟨#[]⟩,[]⟩
def Qi (x y z:Nat):List S34:=[fNode ⟨#[76,111,97,100,49]⟩ x,fNode ⟨#[76,111,97,100,53]⟩ y,fNode ⟨#[76,111,97,100,49,53]⟩ z]
theorem la_walk (nm:ByteArray) (x y z:Nat) (w:World):Calls Tryz.prog 48 #[.string nm,.agg #[.float .f64 x,.float .f64 y,.float .f64 z]] w fun e w'=>∃ v,e=.returned (.agg (Yl nm v))∧Kd.R k34 34 w' w.heap.size (fun _=>True) v (Qi x y z)∧Below w.heap.size w w':=
 qa.calls nm x y z nm 8 false 0 0 0 ⟨#[]⟩ (Qi x y z) w (by simp [qa.f,Qi])
theorem ydg (nm:ByteArray) (x y z:Nat) (gs:Nat) (w:World) (hst:w.heap[gs]?=some (.cells (#[.float .f64 x,.float .f64 y,.float .f64 z]:Array Value) 97 (0,0))) :
 Calls Tryz.prog 47 #[.string nm,.pointer (some ⟨gs,0,none⟩),.func (.func 48) #[] #[]] w fun e w'=>∃ v,e=.returned (.agg (Yl nm v))∧Kd.R k34 34 w' w.heap.size (fun _=>True) v (Qi x y z)∧Below w.heap.size w w':=by
 go_enter Tryz.func47,Tryz.ntmps47
 generalize ha0:(Act.mk _ _)=a0
 have hsz:a0.tmps.size=Tryz.f47.ntmps:=by rw [← ha0];rfl
 replace hsz:a0.tmps.size=17:=hsz.trans Zk
 have hdf:a0.defers=[]:=by rw [← ha0]
 have e0:a0.eval (.tmp 0)=.string nm:=by rw [← ha0];rfl
 have e1:a0.eval (.tmp 1)=.pointer (some ⟨gs,0,none⟩):=by rw [← ha0];rfl
 have e2:a0.eval (.tmp 2)=.func (.func 48) #[] #[]:=by rw [← ha0];rfl
 clear ha0
 refine yY ?_
 refine yq rfl (YT (Jh w)) ?_
 refine Yd ?_
 have hgr:=YP w (.cells #[.string ⟨#[]⟩,.int .i64 0,.bool false,.int .i64 0,.int .u64 0,.float .f64 0,.string ⟨#[]⟩,.slice none 0 0] 34 (0,0))
 have hst1:=Yw hst (.cells #[.string ⟨#[]⟩,.int .i64 0,.bool false,.int .i64 0,.int .u64 0,.float .f64 0,.string ⟨#[]⟩,.slice none 0 0] 34 (0,0))
 have hB1:Below w.heap.size w (w.alloc (.cells #[.string ⟨#[]⟩,.int .i64 0,.bool false,.int .i64 0,.int .u64 0,.float .f64 0,.string ⟨#[]⟩,.slice none 0 0] 34 (0,0))):=yl (Below.refl _ _) _
 generalize (w.alloc (.cells #[.string ⟨#[]⟩,.int .i64 0,.bool false,.int .i64 0,.int .u64 0,.float .f64 0,.string ⟨#[]⟩,.slice none 0 0] 34 (0,0)))=w1 at hgr hst1 hB1 ⊢
 refine wp_seq ?_
 refine yY ?_
 refine yq rfl (yV (v:=.pointer (some ⟨gs,0,none⟩)) ((yb _ Zd).trans e1)) ?_
 refine yq rfl (run_eqlptr (p:=⟨gs,0,none⟩) (ya _ Zs) ZW ZW) ?_
 refine Yd ?_
 refine wp_cond_false (ya _ Zs) ?_
 refine wp_skip ?_
 simp only [Exit.then]
 refine wp_seq ?_
 refine wp_region_list ?_
 refine Kd.yB rfl (yV (v:=.func (.func 48) #[] #[]) (by simp (disch:=exact Zq hsz) only [ya,yb,e2])) ?_
 refine Kd.yB rfl (yV (v:=.string nm) (by simp (disch:=exact Zq hsz) only [ya,yb,e0])) ?_
 refine Kd.yB rfl (yV (v:=.pointer (some ⟨gs,0,none⟩)) (by simp (disch:=exact Zq hsz) only [ya,yb,e1])) ?_
 refine Kd.yB rfl (run_nilok (p:=⟨gs,0,none⟩) (ya _ Zs)) ?_
 refine Kd.yB rfl (run_load (p:=.pointer (some ⟨gs,0,none⟩)) (v:=.agg (#[.float .f64 x,.float .f64 y,.float .f64 z]:Array Value)) (ya _ Zs) ?_) ?_
 · exact run_loadVar_row w1 gs 97 97 _ (0,0) _ hst1 Tryz.underlying97 rfl Zk
 refine goesV_ (some 16) rfl rfl (x:=.tmp 11) (f:=48) (cap:=#[]) (by simp (disch:=exact Zq hsz) only [ya,yb]) Tryz.func48 Zk rfl #[.string nm,.agg (#[.float .f64 x,.float .f64 y,.float .f64 z]:Array Value)] #[.string nm,.agg (#[.float .f64 x,.float .f64 y,.float .f64 z]:Array Value)] rfl
  (ycH (by simp (disch:=exact Zq hsz) only [ya,yb]) (ya _ Zs)) rfl ?_
 refine (la_walk nm x y z w1).mono ?_
 rintro e w2 ⟨v,rfl,hR,hB⟩
 refine ⟨_,rfl,?_⟩
 refine node_ret (r:=6) (s:=16) (gr:=w.heap.size) (base:=w1.heap.size) (w0:=w) rfl (by simp only [yJ];exact hdf) (by simp (disch:=exact Zq hsz) only [ya,yb]) (ya _ Zs) (yI hgr hB) rfl (Nat.le_refl _) (Kd.Yr (Kd.ybm hR hgr) (fun k hk=>hk.2)) (yw hB1 hB) ?_
 intro w3 hR3 hB3
 exact ⟨v,rfl,Kd.Ji (Kd.Yr hR3 (fun _ _=>trivial)) (yt hB1),hB3⟩
theorem la1_walk (x y z:Nat) (gs:Nat) (w:World) (hst:w.heap[gs]?=some (.cells (#[.float .f64 x,.float .f64 y,.float .f64 z]:Array Value) 97 (0,0))) :
 Calls Tryz.prog 46 #[.pointer (some ⟨gs,0,none⟩)] w fun e w'=>∃ v,e=.returned (.agg (Yl ⟨#[]⟩ v))∧Kd.R k34 34 w' w.heap.size (fun _=>True) v (Qi x y z)∧Below w.heap.size w w':=by
 go_enter Tryz.func46,Tryz.ntmps46
 generalize ha0:(Act.mk _ _)=a0
 have hsz:a0.tmps.size=Tryz.f46.ntmps:=by rw [← ha0];rfl
 replace hsz:a0.tmps.size=5:=hsz.trans Zk
 have hdf:a0.defers=[]:=by rw [← ha0]
 have e0:a0.eval (.tmp 0)=.pointer (some ⟨gs,0,none⟩):=by rw [← ha0];rfl
 clear ha0
 refine yY ?_
 refine yq rfl (YT (Jh w)) ?_
 refine Yd ?_
 have hgr:=YP w (.cells #[.string ⟨#[]⟩,.int .i64 0,.bool false,.int .i64 0,.int .u64 0,.float .f64 0,.string ⟨#[]⟩,.slice none 0 0] 34 (0,0))
 have hst1:=Yw hst (.cells #[.string ⟨#[]⟩,.int .i64 0,.bool false,.int .i64 0,.int .u64 0,.float .f64 0,.string ⟨#[]⟩,.slice none 0 0] 34 (0,0))
 have hB1:Below w.heap.size w (w.alloc (.cells #[.string ⟨#[]⟩,.int .i64 0,.bool false,.int .i64 0,.int .u64 0,.float .f64 0,.string ⟨#[]⟩,.slice none 0 0] 34 (0,0))):=yl (Below.refl _ _) _
 generalize (w.alloc (.cells #[.string ⟨#[]⟩,.int .i64 0,.bool false,.int .i64 0,.int .u64 0,.float .f64 0,.string ⟨#[]⟩,.slice none 0 0] 34 (0,0)))=w1 at hgr hst1 hB1 ⊢
 refine wp_seq ?_
 refine wp_region_list ?_
 refine Kd.yB rfl (yV (v:=.pointer (some ⟨gs,0,none⟩)) ((yb _ Zd).trans e0)) ?_
 refine YD (some 4) rfl rfl Tryz.func47 Zk rfl #[.string ⟨#[]⟩,.pointer (some ⟨gs,0,none⟩),.func (.func 48) #[] #[]] rfl (args1p (ya _ Zs)) ?_
 refine (ydg ⟨#[]⟩ x y z gs w1 hst1).mono ?_
 rintro e w2 ⟨v,rfl,hR,hB⟩
 refine ⟨_,rfl,?_⟩
 refine node_ret (r:=2) (s:=4) (gr:=w.heap.size) (base:=w1.heap.size) (w0:=w) rfl (by simp only [yJ];exact hdf) (by simp (disch:=exact Zq hsz) only [ya,yb]) (ya _ Zs) (yI hgr hB) rfl (Nat.le_refl _) (Kd.Yr (Kd.ybm hR hgr) (fun k hk=>hk.2)) (yw hB1 hB) ?_
 intro w3 hR3 hB3
 exact ⟨v,rfl,Kd.Ji (Kd.Yr hR3 (fun _ _=>trivial)) (yt hB1),hB3⟩
theorem catchLa_idle (p q:Addr) (w:World) :
 CallsD Tryz.prog 203 #[.pointer (some p),.pointer (some q)] .returning w fun e u' w'=>e=.returned (.tuple #[])∧u'=.returning∧w'=w:=by
 refine callsD_of_wpS Tryz.func203 rfl fun c₀ cs hu=>?_
 apply wpS_seq
 apply wpS_region
 simp [wpOpsS,go_sem,recoverD,hu,Tryz.ntmps203,Exit.thenS]
 refine wpS_cond (t:=false) (by simp [Act.eval,Array.replicate]) ?_
 simp only [Bool.false_eq_true,if_false]
 refine wpS_of_wp (wp_skip ?_)
 cases c₀
 simp_all [bodyPostS,results,Tryz.results203]
set_option maxRecDepth 100000 in
theorem treeLa_walk {fr ff:FuncId} {capr capf:Array Value} {fnr fnf:Func} (hfr:Tryz.prog.funcs[fr]?=some fnr) (hnr:(fnr.name == "runtime.NumGoroutine")=false) (hbr:fnr.body.isSome=true) (hff:Tryz.prog.funcs[ff]?=some fnf) (hnf:(fnf.name == "runtime.NumGoroutine")=false) (hbf:fnf.body.isSome=true)
 (Rd:Nat→World→Prop) (kids:List S34) (w:World)
 (hread:∀ W,Below w.heap.size w W→Calls Tryz.prog fr capr W fun e W'=>∃ gs,e=.returned (.tuple #[.pointer (some ⟨gs,0,none⟩),.nilIface])∧Below W.heap.size W W'∧Rd gs W')
 (htree:∀ gs W,Rd gs W→Calls Tryz.prog ff (#[.pointer (some ⟨gs,0,none⟩)]++capf) W fun e W'=>∃ v,e=.returned (.agg (Yl ⟨#[]⟩ v))∧Kd.R k34 34 W' W.heap.size (fun _=>True) v kids∧Below W.heap.size W W') :
 Calls Tryz.prog 44 #[.func (.func fr) capr #[],.func (.func ff) #[] capf] w fun e w'=>∃ v,e=.returned (.tuple #[.agg (Yl ⟨#[]⟩ v),.int .i64 0])∧Kd.R k34 34 w' w.heap.size (fun _=>True) v kids∧Below w.heap.size w w':=by
 go_enter_defers Tryz.func44,Tryz.ntmps44
 generalize ha0:(Act.mk _ _)=a0
 have hsz:a0.tmps.size=20:=by rw [← ha0];rfl
 have hdf:a0.defers=[]:=by rw [← ha0]
 have e0:a0.eval (.tmp 0)=.func (.func fr) capr #[]:=by rw [← ha0];rfl
 have e1:a0.eval (.tmp 1)=.func (.func ff) #[] capf:=by rw [← ha0];rfl
 clear ha0
 refine yY ?_
 refine yq rfl (YT (Jh w)) ?_
 have hgr:=YP w (.cells #[.string ⟨#[]⟩,.int .i64 0,.bool false,.int .i64 0,.int .u64 0,.float .f64 0,.string ⟨#[]⟩,.slice none 0 0] 34 (0,0))
 have hB1:Below w.heap.size w (w.alloc (.cells #[.string ⟨#[]⟩,.int .i64 0,.bool false,.int .i64 0,.int .u64 0,.float .f64 0,.string ⟨#[]⟩,.slice none 0 0] 34 (0,0))):=yl (Below.refl _ _) _
 have hz1:(w.alloc (.cells #[.string ⟨#[]⟩,.int .i64 0,.bool false,.int .i64 0,.int .u64 0,.float .f64 0,.string ⟨#[]⟩,.slice none 0 0] 34 (0,0))).heap.size=w.heap.size+1:=by simp
 generalize (w.alloc (.cells #[.string ⟨#[]⟩,.int .i64 0,.bool false,.int .i64 0,.int .u64 0,.float .f64 0,.string ⟨#[]⟩,.slice none 0 0] 34 (0,0)))=w1 at hgr hB1 hz1 ⊢
 refine yq rfl (YT (show _=Result.ok (.pointer (some ⟨w1.heap.size,0,none⟩)) (w1.alloc (.cells #[.int .i64 0] 3)) by kernel_rfl)) ?_
 refine Yd ?_
 have hgr2:=Yw hgr (.cells #[.int .i64 0] 3 (0,0))
 have hgc:=YP w1 (.cells #[.int .i64 0] 3 (0,0))
 have hB2:Below w.heap.size w (w1.alloc (.cells #[.int .i64 0] 3 (0,0))):=yl hB1 _
 have hz2:(w1.alloc (.cells #[.int .i64 0] 3 (0,0))).heap.size=w.heap.size+2:=by simp [hz1]
 generalize (w1.alloc (.cells #[.int .i64 0] 3 (0,0)))=w2 at hgr2 hgc hB2 hz2 ⊢
 rw [hz1] at hgc ⊢
 refine wp_seq ?_
 refine wp_region_list ?_
 refine Kd.yB rfl (run_mf (v:=.pointer (some ⟨w.heap.size,0,none⟩)) (u:=.pointer (some ⟨w.heap.size+1,0,none⟩)) (by simp (disch:=exact Zq hsz) only [ya,yb]) (by simp (disch:=exact Zq hsz) only [ya,yb])) ?_
 refine ycs rfl rfl (run_df (ya _ Zs)) ?_
 refine wpList_nil ?_
 simp only [Exit.then]
 generalize hb0:(Act.mk _ _)=b0
 have bsz:b0.tmps.size=20:=by rw [← hb0];show (Act.put (Act.put (Act.put a0 _ _) _ _) _ _).tmps.size=20;simp only [size_put];exact hsz
 have bev:∀ j:Nat,b0.eval (.tmp j)=(Act.put (Act.put (Act.put a0 (some 4) (.pointer (some ⟨w.heap.size,0,none⟩))) (some 5) (.pointer (some ⟨w.heap.size+1,0,none⟩))) (some 8) (.func (.func 203) #[] #[.pointer (some ⟨w.heap.size,0,none⟩),.pointer (some ⟨w.heap.size+1,0,none⟩)])).eval (.tmp j):=fun j=>by rw [← hb0];rfl
 have bdf:b0.defers=[{ target:=.fn (.func 203) #[.pointer (some ⟨w.heap.size,0,none⟩),.pointer (some ⟨w.heap.size+1,0,none⟩)],args:=#[] }]:=by rw [← hb0];simp only [yJ,hdf]
 have b0e:b0.eval (.tmp 0)=.func (.func fr) capr #[]:=by rw [bev];simp (disch:=decide) only [yb,e0]
 have b1e:b0.eval (.tmp 1)=.func (.func ff) #[] capf:=by rw [bev];simp (disch:=decide) only [yb,e1]
 have b4e:b0.eval (.tmp 4)=.pointer (some ⟨w.heap.size,0,none⟩):=by rw [bev];simp (disch:=exact Zq hsz) only [ya,yb]
 have b5e:b0.eval (.tmp 5)=.pointer (some ⟨w.heap.size+1,0,none⟩):=by rw [bev];simp (disch:=exact Zq hsz) only [ya,yb]
 clear hb0 bev
 refine wp_seq ?_
 refine wp_region_list ?_
 refine Kd.yB rfl (yV (v:=.func (.func fr) capr #[]) b0e) ?_
 refine goesF_ (some 11) rfl rfl (x:=.tmp 10) (f:=fr) (first:=capr) (ya _ Zo) hfr hnr hbr #[] capr rfl (by simp) (by simp) ?_
 refine (hread w2 hB2).mono ?_
 rintro e w3 ⟨gs,rfl,hB3,hRd⟩
 refine ⟨_,rfl,?_⟩
 refine Kd.yB rfl (yV (v:=.tuple #[.pointer (some ⟨gs,0,none⟩),.nilIface]) (ya _ Zs)) ?_
 refine Kd.yB rfl (JF (u:=.tuple #[.pointer (some ⟨gs,0,none⟩),.nilIface]) (v:=.pointer (some ⟨gs,0,none⟩)) (ya _ Zs) (J8 _ _ _)) ?_
 refine Kd.yB rfl (JF (u:=.tuple #[.pointer (some ⟨gs,0,none⟩),.nilIface]) (v:=.nilIface) ((yb _ Zd).trans (ya _ Zs)) (J9 _ _ _)) ?_
 refine Kd.yB rfl (YL (v:=.pointer (some ⟨gs,0,none⟩)) (by simp (disch:=exact Zq bsz) only [ya,yb])) ?_
 refine Kd.yB rfl (YL (v:=.nilIface) (by simp (disch:=exact Zq bsz) only [ya,yb])) ?_
 refine wpList_nil ?_
 simp only [Exit.then]
 refine err_skip (k:=14) (sz:=20) (er:=7) (by simp only [size_put];exact bsz) Zd (ya _ Zs) ?_
 intro c0 csz cdf cev
 have c1e:c0.eval (.tmp 1)=.func (.func ff) #[] capf:=by rw [cev 1 Zd Zd];simp (disch:=decide) only [yb,b1e]
 have c4e:c0.eval (.tmp 4)=.pointer (some ⟨w.heap.size,0,none⟩):=by rw [cev 4 Zd Zd];simp (disch:=decide) only [yb,b4e]
 have c5e:c0.eval (.tmp 5)=.pointer (some ⟨w.heap.size+1,0,none⟩):=by rw [cev 5 Zd Zd];simp (disch:=decide) only [yb,b5e]
 have c6e:c0.eval (.tmp 6)=.pointer (some ⟨gs,0,none⟩):=by rw [cev 6 Zd Zd];simp (disch:=exact Zq bsz) only [ya,yb]
 replace cdf:c0.defers=[{ target:=.fn (.func 203) #[.pointer (some ⟨w.heap.size,0,none⟩),.pointer (some ⟨w.heap.size+1,0,none⟩)],args:=#[] }]:=by rw [cdf];simp only [yJ,bdf]
 clear cev
 have hgr3:=yI hgr2 hB3
 have hgc3:=yI hgc hB3
 have hB3w:=yw hB2 hB3
 refine wp_seq ?_
 refine wp_region_list ?_
 refine Kd.yB rfl (yV (v:=.func (.func ff) #[] capf) c1e) ?_
 refine Kd.yB rfl (yV (v:=.pointer (some ⟨gs,0,none⟩)) (by simp (disch:=exact Zq csz) only [ya,yb,c6e])) ?_
 refine goesV_ (some 19) rfl rfl (x:=.tmp 17) (f:=ff) (cap:=capf) (by simp (disch:=exact Zq csz) only [ya,yb]) hff hnf hbf #[.pointer (some ⟨gs,0,none⟩)] (#[.pointer (some ⟨gs,0,none⟩)]++capf) rfl (yas (ya _ Zs)) rfl ?_
 refine (htree gs w3 hRd).mono ?_
 rintro e w4 ⟨v,rfl,hR4,hB4⟩
 refine ⟨_,rfl,?_⟩
 have hgr4:=yI hgr3 hB4
 have hgc4:=yI hgc3 hB4
 have hB4w:=yw hB3w hB4
 have hs3:w.heap.size+2≤w3.heap.size:=by have:=yt hB3;omega
 have hR4':=Kd.Yr (ok':=fun k=>k≠w.heap.size∧k≠w.heap.size+1) (Kd.JP hR4) (fun k hk=>⟨by have:=hk.2.1;omega,by have:=hk.2.1;omega⟩)
 obtain ⟨A,c,hv1⟩:=Kd.YF hR4'
 subst hv1
 obtain ⟨w5,hrun5,hb5,hoth5,hbel5⟩:=J3 (s1:=⟨#[]⟩) (k:=8) (b:=false) (i:=0) (u:=0) (f:=0) (s2:=⟨#[]⟩) (A:=A) (n:=kids.length) (c:=c) hgr4 rfl
 refine JH rfl rfl (run_store (p:=.pointer (some ⟨w.heap.size,0,none⟩)) (v:=.agg (Yl ⟨#[]⟩ (.slice A kids.length c))) (by simp (disch:=exact Zq csz) only [ya,yb,c4e]) (ya _ Zs) hrun5) ?_
 have hgc5:w5.heap[w.heap.size+1]?=_:=(hoth5 _ Zo).trans hgc4
 have hB5w:=hbel5 _ _ (Nat.le_refl _) hB4w
 have hR5:=Kd.qn (w1:=w5) hR4' (fun j hj _=>hoth5 j hj.1)
 refine JH rfl rfl (run_store (p:=.pointer (some ⟨w.heap.size+1,0,none⟩)) (v:=.int .i64 0) (by simp (disch:=exact Zq csz) only [ya,yb,c5e]) rfl (QK (x:=0) Zk Zk (by rw [yg hgc5];rfl) (yf hgc5 0))) ?_
 refine wpList_nil ?_
 simp only [Exit.then]
 refine wp_ret ?_
 have hgr6:=yH hb5 (p:=⟨w.heap.size+1,0,none⟩) (by show w.heap.size≠w.heap.size+1;omega) (.int .i64 0)
 have hgc6:=yy hgc5 0 (.int .i64 0) rfl
 have hB6w:Below w.heap.size w (w5.setCell ⟨w.heap.size+1,0,none⟩ (.int .i64 0)):=yu hB5w Zo
 have hR6:=Kd.YN hR5 (p:=⟨w.heap.size+1,0,none⟩) (fun k hk=>hk.2) (.int .i64 0)
 generalize (w5.setCell ⟨w.heap.size+1,0,none⟩ (.int .i64 0))=w6 at hgr6 hgc6 hB6w hR6 ⊢
 generalize hz:(Act.put _ (some 19) _)=z0
 have zdf:z0.defers=[{ target:=.fn (.func 203) #[.pointer (some ⟨w.heap.size,0,none⟩),.pointer (some ⟨w.heap.size+1,0,none⟩)],args:=#[] }]:=by rw [← hz];simp only [yJ,cdf]
 have z4:z0.eval (.tmp 4)=.pointer (some ⟨w.heap.size,0,none⟩):=by rw [← hz];simp (disch:=decide) only [yb,c4e]
 have z5:z0.eval (.tmp 5)=.pointer (some ⟨w.heap.size+1,0,none⟩):=by rw [← hz];simp (disch:=decide) only [yb,c5e]
 clear hz
 show Leaves Tryz.prog _ z0.tmps _ z0.defers .returning w6
 rw [zdf]
 refine leaves_cons (f:=203) (args:=#[.pointer (some ⟨w.heap.size,0,none⟩),.pointer (some ⟨w.heap.size+1,0,none⟩)]) (by simp) (by simp [go_sem]) ?_
 refine (catchLa_idle _ _ w6).mono ?_
 rintro e u' w7 ⟨rfl,rfl,rfl⟩
 refine ⟨_,ydk (v:=.int .i64 0) rfl z0.tmps _ w.heap.size (w.heap.size+1) 34 (Yl ⟨#[]⟩ (.slice A kids.length c)) (0,0) _ z4 hgr6 Tryz.underlying34 rfl Zk z5 ?_,_,rfl,Kd.Ji (Kd.Yr hR6 (fun _ _=>trivial)) (yt hB3w),hB6w⟩
 have hc6:=(yg hgc6 0).trans (show _=some (Value.int .i64 0) from rfl)
 exact load_int Zk Zk hc6
end Go.Proofs.YtlmennkeggmdbaaGreatDoor
namespace Go.Proofs
open Go.Shelf
def Tryz.lays157_ren:Go.Shelf.Ren:=⟨fun|157=>212|229=>220|199=>221|261=>226|311=>241|312=>242|n=>n,fun|9=>9|31=>46|3=>3|5=>5|4=>4|119=>134|0=>0|40=>136|152=>145|21=>21|154=>147|51=>148|141=>150|196=>179|193=>176|198=>182|49=>180|194=>177|201=>185|226=>207|46=>157|227=>208|n=>n,fun|0=>1|6=>4|n=>n⟩
theorem Tryz.lays157:Go.Proofs.Lays.n157 Tryz.prog Tryz.lays157_ren:={
 mixed:=by kernel_rfl
 f157:=Tryz.func212.trans (congrArg some Zk)
 f199:=Tryz.func221.trans (congrArg some Zk)
 f229:=Tryz.func220.trans (congrArg some Zk)
 f261:=Tryz.func226.trans (congrArg some Zk)
 f311:=Tryz.func241.trans (congrArg some Zk)
 f312:=Tryz.func242.trans (congrArg some Zk)
 t0:=Tryz.underlying0
 a0:=Tryz.isAgg0
 z0:=Tryz.sizeOf0
 v0:=Tryz.zeroValue0
 t3:=Tryz.underlying3
 a3:=Tryz.isAgg3
 z3:=Tryz.sizeOf3
 v3:=Tryz.zeroValue3
 t4:=Tryz.underlying4
 a4:=Tryz.isAgg4
 z4:=Tryz.sizeOf4
 v4:=Tryz.zeroValue4
 t5:=Tryz.underlying5
 a5:=Tryz.isAgg5
 z5:=Tryz.sizeOf5
 v5:=Tryz.zeroValue5
 t9:=Tryz.underlying9
 a9:=Tryz.isAgg9
 z9:=Tryz.sizeOf9
 v9:=Tryz.zeroValue9
 t21:=Tryz.underlying21
 a21:=Tryz.isAgg21
 z21:=Tryz.sizeOf21
 v21:=Tryz.zeroValue21
 t31:=Tryz.underlying46
 a31:=Tryz.isAgg46
 z31:=Tryz.sizeOf46
 v31:=Tryz.zeroValue46
 t40:=Tryz.underlying136
 a40:=Tryz.isAgg136
 z40:=Tryz.sizeOf136
 v40:=Tryz.zeroValue136
 t46:=Tryz.underlying157
 a46:=Tryz.isAgg157
 z46:=Tryz.sizeOf157
 v46:=Tryz.zeroValue157
 t49:=Tryz.underlying180
 a49:=Tryz.isAgg180
 z49:=Tryz.sizeOf180
 v49:=Tryz.zeroValue180
 t51:=Tryz.underlying148
 a51:=Tryz.isAgg148
 z51:=Tryz.sizeOf148
 v51:=Tryz.zeroValue148
 t119:=Tryz.underlying134
 a119:=Tryz.isAgg134
 z119:=Tryz.sizeOf134
 t141:=Tryz.underlying150
 a141:=Tryz.isAgg150
 z141:=Tryz.sizeOf150
 v141:=Tryz.zeroValue150
 t152:=Tryz.underlying145
 a152:=Tryz.isAgg145
 z152:=Tryz.sizeOf145
 v152:=Tryz.zeroValue145
 t154:=Tryz.underlying147
 a154:=Tryz.isAgg147
 z154:=Tryz.sizeOf147
 v154:=Tryz.zeroValue147
 t193:=Tryz.underlying176
 a193:=Tryz.isAgg176
 z193:=Tryz.sizeOf176
 v193:=Tryz.zeroValue176
 t194:=Tryz.underlying177
 a194:=Tryz.isAgg177
 z194:=Tryz.sizeOf177
 v194:=Tryz.zeroValue177
 t196:=Tryz.underlying179
 a196:=Tryz.isAgg179
 z196:=Tryz.sizeOf179
 v196:=Tryz.zeroValue179
 t198:=Tryz.underlying182
 a198:=Tryz.isAgg182
 z198:=Tryz.sizeOf182
 v198:=Tryz.zeroValue182
 t201:=Tryz.underlying185
 a201:=Tryz.isAgg185
 z201:=Tryz.sizeOf185
 v201:=Tryz.zeroValue185
 t226:=Tryz.underlying207
 a226:=Tryz.isAgg207
 z226:=Tryz.sizeOf207
 v226:=Tryz.zeroValue207
 t227:=Tryz.underlying208
 a227:=Tryz.isAgg208
 z227:=Tryz.sizeOf208
 v227:=Tryz.zeroValue208
 g0:=by kernel_rfl
 g6:=by kernel_rfl }
open Go.RowKit Go.Lib in
theorem Tryz.strings_Fields (s:ByteArray) (w:World) (hs:s.size<4294967281) (hascii:∀ (j:Nat) b,s.data.toList[j]?=some b→b.toNat<128) (htab:Lib.TabIs Tryz.prog w "strings.asciiSpace" .u8 Lib.asciiSpaceTab) :
 Calls Tryz.prog 212 #[.string s] w fun e w'=>
  e=.returned (.slice (some ⟨w.heap.size,0,none⟩) (Lib.fields s.data.toList).length (Lib.fields s.data.toList).length)∧w'=w.alloc (.cells ((Lib.fields s.data.toList).map fun l=>Value.string ⟨l.toArray⟩).toArray 9):=Any.strings_Fields Tryz.lays157 Zk Zk s w hs hascii htab
end Go.Proofs
namespace Go.Proofs.YtlmennkeggmdbaaGreatDoor
open Go.RowKit Go.Proofs.YtlmennkeggmdbaaGreatDoorW.PrintWords Go.Proofs.YtlmennkeggmdbaaGreatDoorW.PrintLast Go.Proofs.YtlmennkeggmdbaaGreatDoorW.PrintMore
def ydq (vals:Array Value):Nat→List Value→Array Value
 | _,[]=>vals
 | o,v::r=>ydq (vals.setIfInBounds o v) (o+1) r
theorem yau {g:Nat} {t:TypeId}:∀ (vs:List Value) (o:Nat) (vals:Array Value) (w:World),w.heap[g]?=some (.cells vals t (0,0))→(w.setCells g o vs).heap[g]?=some (.cells (ydq vals o vs) t (0,0))
 | [],_,_,_,h=>h
 | v::r,o,vals,w,h=>yau r (o+1) _ _ (yy h o v rfl)
theorem there_blk {w:World} {g:Nat} {t:TypeId} {vals:Array Value} (h:w.heap[g]?=some (.cells vals t (0,0))) {o n:Nat} (hn:o+n≤vals.size):w.there g o n:=fun j hj=>by
 rw [yg h,yf h]
 have:o+j<vals.size:=by omega
 simp [this]
theorem ybg {g j:Nat} (hj:j≠g):∀ (vs:List Value) (o:Nat) (w:World),(w.setCells g o vs).heap[j]?=w.heap[j]?
 | [],_,_=>rfl
 | v::r,o,w=>(ybg hj r (o+1) _).trans (Below.heap_setCell _ _ _ _ (show j≠(⟨g,o,none⟩:Addr).block from hj))
theorem Qy {B g:Nat} {w0:World} (hg:B≤g):∀ (vs:List Value) (o:Nat) (w:World),Below B w0 w→Below B w0 (w.setCells g o vs)
 | [],_,_,h=>h
 | v::r,o,w,h=>Qy hg r (o+1) _ (h.setCell (p:=⟨g,o,none⟩) hg v)
theorem run_alloc38 (w:World):(Instr.alloc 38 true (.tuple #[])).run Tryz.prog w=.ok (.pointer (some ⟨w.heap.size,0,none⟩)) (w.alloc (.cells #[.string ⟨#[]⟩,.int .i64 0,.bool false,.int .i64 0,.int .u64 0,.float .f64 0,.string ⟨#[]⟩,.slice none 0 0] 38)):=by kernel_rfl
theorem set8 (v0 v1 v2 v3 v4 v5 v6 v7 x0 x1 x2 x3 x4 x5 x6 x7:Value):ydq #[v0,v1,v2,v3,v4,v5,v6,v7] 0 [x0,x1,x2,x3,x4,x5,x6,x7]=#[x0,x1,x2,x3,x4,x5,x6,x7]:=by kernel_rfl
theorem run_st38 {w:World} {g:Nat} {v0 v1 v2 v3 v4 v5 v6 v7:Value} {s1 s2:ByteArray} {k i u:Int} {b:Bool} {f:Nat} {A:Option Addr} {n c:Nat} (h:w.heap[g]?=some (.cells #[v0,v1,v2,v3,v4,v5,v6,v7] 38 (0,0))) :
 ∃ w1,(Instr.storeAt 38 (.pointer (some ⟨g,0,none⟩)) (.agg #[.string s1,.int .i64 k,.bool b,.int .i64 i,.int .u64 u,.float .f64 f,.string s2,.slice A n c])).run Tryz.prog w=.ok () w1 ∧
  w1.heap[g]?=some (.cells #[.string s1,.int .i64 k,.bool b,.int .i64 i,.int .u64 u,.float .f64 f,.string s2,.slice A n c] 38 (0,0))∧(∀ j,j≠g→w1.heap[j]?=w.heap[j]?)∧(∀ B w0,B≤g→Below B w0 w→Below B w0 w1):=by
 have hi:(Tryz.prog.info? 38).map (·.size)=some (#[Value.string s1,.int .i64 k,.bool b,.int .i64 i,.int .u64 u,.float .f64 f,.string s2,.slice A n c]).size:=by kernel_rfl
 have hone:(#[Value.string s1,.int .i64 k,.bool b,.int .i64 i,.int .u64 u,.float .f64 f,.string s2,.slice A n c]).all (·.oneCell')=true:=by kernel_rfl
 have hrun:=run_storeAt_mid w g 0 38 #[Value.string s1,.int .i64 k,.bool b,.int .i64 i,.int .u64 u,.float .f64 f,.string s2,.slice A n c] (there_blk h (show 0+8≤8 by decide)) hi hone
 refine ⟨_,hrun,?_,fun j hj=>ybg hj _ _ _,fun B w0 hB hb=>Qy hB _ _ _ hb⟩
 have hb:=yau [Value.string s1,.int .i64 k,.bool b,.int .i64 i,.int .u64 u,.float .f64 f,.string s2,.slice A n c] 0 _ _ h
 rw [set8] at hb
 exact hb
end Go.Proofs.YtlmennkeggmdbaaGreatDoor
