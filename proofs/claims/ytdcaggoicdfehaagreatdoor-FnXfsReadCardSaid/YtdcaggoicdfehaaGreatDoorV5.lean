/- Part 5 of 44 of the proof of the tied card of FnXfsRead. -/
import Derived.Test.YtdcaggoicdfehaaGreatDoorVz
import Derived.Test.YtdcaggoicdfehaaGreatDoorV4
import Derived.Deep.MidRow
set_option linter.unusedVariables false
set_option linter.unusedSimpArgs false
namespace Go.Proofs.YtdcaggoicdfehaaGreatDoor
open Go.RowKit Go.Proofs.YtdcaggoicdfehaaGreatDoorW.PrintWords Go.Proofs.YtdcaggoicdfehaaGreatDoorW.PrintLast Go.Proofs.YtdcaggoicdfehaaGreatDoorW.PrintMore
set_option maxHeartbeats 2000000 in
theorem qL {w:World} {g:Nat} {cs0:Array Value} {s1 s2:ByteArray} {k i u:Int} {b:Bool} {f:Nat} {A:Option Addr} {n c:Nat} (h:w.heap[g]?=some (.cells cs0 34 (0,0))) (h8:cs0.size=8) :
 ∃ w1,(Instr.storeAt 34 (.pointer (some ⟨g,0,none⟩)) (.agg #[.string s1,.int .i64 k,.bool b,.int .i64 i,.int .u64 u,.float .f64 f,.string s2,.slice A n c])).run Tryz.prog w=.ok () w1 ∧
  w1.heap[g]?=some (.cells #[.string s1,.int .i64 k,.bool b,.int .i64 i,.int .u64 u,.float .f64 f,.string s2,.slice A n c] 34 (0,0))∧(∀ j,j≠g→w1.heap[j]?=w.heap[j]?)∧(∀ B w0,B≤g→Below B w0 w→Below B w0 w1):=by
 obtain ⟨x0,x1,x2,x3,x4,x5,x6,x7,rfl⟩:∃ x0 x1 x2 x3 x4 x5 x6 x7,cs0=#[x0,x1,x2,x3,x4,x5,x6,x7]:=by
  obtain ⟨l⟩:=cs0
  match l,h8 with
  | [x0,x1,x2,x3,x4,x5,x6,x7],_=>exact ⟨x0,x1,x2,x3,x4,x5,x6,x7,rfl⟩
 have c0:w.cell? ⟨g,0,none⟩=some x0:=(ye h 0).trans rfl
 have c1:w.cell? ⟨g,1,none⟩=some x1:=(ye h 1).trans rfl
 have c2:w.cell? ⟨g,2,none⟩=some x2:=(ye h 2).trans rfl
 have c3:w.cell? ⟨g,3,none⟩=some x3:=(ye h 3).trans rfl
 have c4:w.cell? ⟨g,4,none⟩=some x4:=(ye h 4).trans rfl
 have c5:w.cell? ⟨g,5,none⟩=some x5:=(ye h 5).trans rfl
 have c6:w.cell? ⟨g,6,none⟩=some x6:=(ye h 6).trans rfl
 have c7:w.cell? ⟨g,7,none⟩=some x7:=(ye h 7).trans rfl
 have z0:=yg h 0;have z1:=yg h 1;have z2:=yg h 2;have z3:=yg h 3;have z4:=yg h 4;have z5:=yg h 5;have z6:=yg h 6;have z7:=yg h 7
 refine ⟨_,by simp [Instr.storeAt,Instr.sureAddr,go_sem,c0,c1,c2,c3,c4,c5,c6,c7,z0,z1,z2,z3,z4,z5,z6,z7];rfl,?_,?_,?_⟩
 · exact yA (yA (yA (yA (yA (yA (yA (yA h 0 _ rfl) 1 _ rfl) 2 _ rfl) 3 _ rfl) 4 _ rfl) 5 _ rfl) 6 _ rfl) 7 _ rfl
 · intro j hj
   simp only [Below.heap_setCell _ _ _ _ (show j≠(⟨g,_,none⟩:Addr).block from hj)]
 · intro B w0 hB hb
   exact (((((((hb.setCell hB _).setCell hB _).setCell hB _).setCell hB _).setCell hB _).setCell hB _).setCell hB _).setCell hB _
end Go.Proofs.YtdcaggoicdfehaaGreatDoor
namespace Go.Proofs.YtdcaggoicdfehaaGreatDoor
open Go.RowKit Go.Proofs.YtdcaggoicdfehaaGreatDoorW.PrintWords Go.Proofs.YtdcaggoicdfehaaGreatDoorW.PrintLast Go.Proofs.YtdcaggoicdfehaaGreatDoorW.PrintMore
theorem run_bout (w:World) (nm:ByteArray):(Instr.build 34 #[(0,.string nm),(1,.int .i64 8)]).run Tryz.prog w=.ok (.agg (yK nm (.slice none 0 0))) w:=by kernel_rfl
theorem Yl {i0 i1:Nat} {Q:Exit→Act→World→Prop} {rest:Code} {a:Act} {w:World} {onm:ByteArray} {T:Nat} {avals vals:Array Value}
 {d0 d1 d2 d3 d4 d5:TypeId} {p0 p1 p2 p3 p4 p5:String} {a0 a1 a2 a3 a4 a5:Array Edge}
 (hbox:∀ W:World,(Instr.box T (.agg avals)).run Tryz.prog W=.ok (.pointer (some ⟨W.heap.size,0,none⟩)) (W.alloc (.cells vals T))) (hsz:7<a.tmps.size)
 (e0:a.eval (.tmp 0)=.string onm) (e1:a.eval (.tmp 1)=.agg avals)
 (h:∀ a' w' g gr gv v',a'.tmps.size=a.tmps.size→a'.defers=a.defers→a'.eval (.tmp 3)=.pointer (some ⟨gv,0,none⟩)→a'.eval (.tmp 4)=.pointer (some ⟨gr,0,none⟩)→a'.eval (.tmp 5)=.pointer (some ⟨g,0,none⟩) →
  w'.heap[gv]?=some (.cells vals T (0,0))→NS w w' g gr onm [] v'→rest.wp Tryz.prog Q a' w') :
 (Code.seq (.region i0 #[⟨some 3,.box T (.tmp 1),d0,p0,a0,none⟩,⟨some 4,.alloc 34,d1,p1,a1,none⟩] false)
  (Code.seq (.region i1 #[⟨some 6,.move (.tmp 0),d2,p2,a2,none⟩,⟨some 7,.build 34 #[(0,.tmp 6),(1,.const (.int .i64 8))],d3,p3,a3,none⟩,⟨some 5,.alloc 34,d4,p4,a4,none⟩,⟨none,.store 34 (.tmp 5) (.tmp 7),d5,p5,a5,none⟩] false) rest)).wp Tryz.prog Q a w:=by
 refine wp_seq ?_
 refine wp_region_list ?_
 refine Kd.yh rfl (ybh e1 (hbox _)) ?_
 refine Kd.yh rfl (Y9 (JC _)) ?_
 refine wpList_nil ?_
 refine wp_seq ?_
 refine wp_region_list ?_
 refine Kd.yh rfl run_move ?_
 refine Kd.yh rfl (run_build2 (fun _=>rfl) (u:=.string onm) ?_ (run_bout ..)) ?_
 · rw [ya _ Zs,yb _ Zo,yb _ Zo];exact e0
 refine Kd.yh rfl (Y9 (JC _)) ?_
 have hv0:=Y2 w (.cells vals T (0,0))
 have hr0:=Y2 (w.alloc (.cells vals T (0,0))) (.cells #[.string ⟨#[]⟩,.int .i64 0,.bool false,.int .i64 0,.int .u64 0,.float .f64 0,.string ⟨#[]⟩,.slice none 0 0] 34 (0,0))
 have hg0:=Y2 ((w.alloc (.cells vals T (0,0))).alloc (.cells #[.string ⟨#[]⟩,.int .i64 0,.bool false,.int .i64 0,.int .u64 0,.float .f64 0,.string ⟨#[]⟩,.slice none 0 0] 34 (0,0))) (.cells #[.string ⟨#[]⟩,.int .i64 0,.bool false,.int .i64 0,.int .u64 0,.float .f64 0,.string ⟨#[]⟩,.slice none 0 0] 34 (0,0))
 have hB3:Below w.heap.size w (((w.alloc (.cells vals T (0,0))).alloc (.cells #[.string ⟨#[]⟩,.int .i64 0,.bool false,.int .i64 0,.int .u64 0,.float .f64 0,.string ⟨#[]⟩,.slice none 0 0] 34 (0,0))).alloc (.cells #[.string ⟨#[]⟩,.int .i64 0,.bool false,.int .i64 0,.int .u64 0,.float .f64 0,.string ⟨#[]⟩,.slice none 0 0] 34 (0,0))):=
  ym (ym (ym (Below.refl _ _) _) _) _
 obtain ⟨w1,hrun,hb1,hoth,hbel⟩:=qL (s1:=onm) (k:=8) (b:=false) (i:=0) (u:=0) (f:=0) (s2:=⟨#[]⟩) (A:=none) (n:=0) (c:=0) hg0 rfl
 have hs1:(w.alloc (.cells vals T (0,0))).heap.size=w.heap.size+1:=by simp
 have hs2:((w.alloc (.cells vals T (0,0))).alloc (.cells #[.string ⟨#[]⟩,.int .i64 0,.bool false,.int .i64 0,.int .u64 0,.float .f64 0,.string ⟨#[]⟩,.slice none 0 0] 34 (0,0))).heap.size=w.heap.size+2:=by simp
 refine Jk rfl rfl (run_store (ya _ Zs) ?_ hrun) ?_
 · rw [yb _ Zo,ya _ Zs]
 refine wpList_nil ?_
 refine h _ _ _ _ w.heap.size (.slice none 0 0) (by simp only [size_put]) (by simp only [yq]) ?_ ?_ ?_ ?_ ⟨Kd.qf _ _ _ _ _,hb1,⟨_,rfl,(hoth _ Zo).trans (YA hr0 _)⟩,by omega,by omega,by omega,hbel _ _ Zo hB3⟩
 · rw [yb _ Zo,yb _ Zo,yb _ Zo,yb _ Zo,ya _ Zo]
 · rw [yb _ Zo,yb _ Zo,yb _ Zo,ya _ Zs]
 · rw [ya _ Zs]
 · exact (hoth _ Zo).trans (YA (YA hv0 _) _)
theorem ybq {fn:Func} {R:Ending→World→Prop} {t:Tmp} {a:Act} {w:World} {g:Nat} {cs:Array Value} (h:fn.results=#[.cell t 34]) (hd:a.defers=[]) (hv:a.eval (.tmp t)=.pointer (some ⟨g,0,none⟩))
 (hb:w.heap[g]?=some (.cells cs 34 (0,0))) (h8:cs.size=8) (hR:R (.returned (.agg cs)) w):bodyPost Tryz.prog fn R .ret a w:=by
 refine bodyPost_ret (v:=.agg cs) ?_ hd hR
 exact results_cell_row h a.tmps w g 34 cs (0,0) _ hv hb Tryz.underlying34 rfl (by rw [h8];kernel_rfl)
theorem YG {id k:Nat} {fn:Func} {R:Ending→World→Prop} {a:Act} {w0 w:World} {g gr:Nat} {onm:ByteArray} {kids:List S34} {v:Value} {d0 d1:TypeId} {p0 p1:String} {a0 a1:Array Edge}
 (hres:fn.results=#[.cell 4 34]) (hk:5<k) (hsz:k<a.tmps.size) (hd:a.defers=[]) (e4:a.eval (.tmp 4)=.pointer (some ⟨gr,0,none⟩)) (e5:a.eval (.tmp 5)=.pointer (some ⟨g,0,none⟩)) (hS:NS w0 w g gr onm kids v)
 (hR:∀ w' v',Kd.R k34 34 w' w0.heap.size (fun _=>True) v' kids→Below w0.heap.size w0 w'→R (.returned (.agg (yK onm v'))) w') :
 (Code.seq (.region id #[⟨some k,.load 34 (.tmp 5),d0,p0,a0,none⟩,⟨none,.store 34 (.tmp 4) (.tmp k),d1,p1,a1,none⟩] false) .ret).wp Tryz.prog (bodyPost Tryz.prog fn R) a w:=by
 refine wp_seq ?_
 refine wp_region_list ?_
 obtain ⟨A,c,hv1⟩:=Kd.Y7 hS.own
 subst hv1
 refine Kd.yh rfl (run_load e5 (v:=.agg (yK onm (.slice A kids.length c))) ?_) ?_
 · exact run_loadVar_row w g 34 34 _ (0,0) _ hS.blk Tryz.underlying34 rfl Zk
 obtain ⟨cr,hcr,hr⟩:=hS.res
 obtain ⟨w1,hrun,hb1,hoth,hbel⟩:=qL (s1:=onm) (k:=8) (b:=false) (i:=0) (u:=0) (f:=0) (s2:=⟨#[]⟩) (A:=A) (n:=kids.length) (c:=c) hr hcr
 refine Jk rfl rfl (run_store ((yb _ Zo).trans e4) (ya _ hsz) hrun) ?_
 refine wpList_nil ?_
 refine wp_ret ?_
 refine ybq hres (by simp only [yq];exact hd) ?_ hb1 rfl ?_
 · rw [yb _ Zo];exact e4
 · exact hR _ _ (Kd.YM (Kd.qH hS.own (fun j hj _=>hoth j hj.2)) (fun _ _=>trivial)) (hbel _ _ hS.ger hS.below)
end Go.Proofs.YtdcaggoicdfehaaGreatDoor
namespace Go.Proofs.YtdcaggoicdfehaaGreatDoor
open Go.RowKit Go.Proofs.YtdcaggoicdfehaaGreatDoorW.PrintWords Go.Proofs.YtdcaggoicdfehaaGreatDoorW.PrintLast Go.Proofs.YtdcaggoicdfehaaGreatDoorW.PrintMore
def Ready (w0 w:World) (g gr:Nat) (v:Value) (node:S34) (y:Value):Prop:=
 ∃ x0 x1 x2 x3 x4 x5 x6 x7,y=.agg #[x0,x1,x2,x3,x4,x5,x6,x7]∧Kd.M k34 w w0.heap.size (fun k=>(k≠g∧k≠gr)∧some k≠v.ownBlock) node [x0,x1,x2,x3,x4,x5,x6,x7]
def Mid (w0 w:World) (g gr:Nat) (onm:ByteArray) (kids:List S34) (v v1:Value):Prop:=
 Kd.R k34 34 w w0.heap.size (fun k=>k≠g∧k≠gr) v1 kids∧w.heap[g]?=some (.cells (yK onm v) 34 (0,0))∧(∃ cs:Array Value,cs.size=8∧w.heap[gr]?=some (.cells cs 34 (0,0)))∧Below w0.heap.size w0 w
structure CallI (k:Nat) (a:Act) (w0:World) (g gr gv:Nat) (onm:ByteArray) (kids:List S34) (v:Value) (node:S34) (T fo:Nat) (vals:Array Value) (arg:Value) (b:Nat→Bool) (a':Act) (w':World):Prop where
 size:a'.tmps.size=a.tmps.size
 defers:a'.defers=a.defers
 old:∀ j:Nat,j<k→a'.eval (.tmp j)=a.eval (.tmp j)
 i0:b 0=true→a'.eval (.tmp k)=.pointer (some ⟨g,7,none⟩)
 i1:b 1=true→a'.eval (.tmp (k+1))=v
 i2:b 2=true→a'.eval (.tmp (k+2))=.pointer (some ⟨gv,fo,none⟩)
 i3:b 3=true→a'.eval (.tmp (k+3))=arg
 i7:b 7=true→a'.eval (.tmp (k+7))=.pointer (some ⟨g,7,none⟩)
 src:w'.heap[gv]?=some (.cells vals T (0,0))
 p0:b 5=false→NS w0 w' g gr onm kids v
 p4:b 4=true→b 5=false→Ready w0 w' g gr v node (a'.eval (.tmp (k+4)))
 p5:b 5=true→b 6=false→∃ (W:World) (x0 x1 x2 x3 x4 x5 x6 x7:Value),w'=W.alloc (.cells #[x0,x1,x2,x3,x4,x5,x6,x7] 34)∧a'.eval (.tmp (k+5))=.slice (some ⟨W.heap.size,0,none⟩) 1 1 ∧
  Kd.M k34 W w0.heap.size (fun k=>(k≠g∧k≠gr)∧some k≠v.ownBlock) node [x0,x1,x2,x3,x4,x5,x6,x7]∧NS w0 W g gr onm kids v∧W.heap[gv]?=some (.cells vals T (0,0))
 p6:b 6=true→b 8=false→∃ A c,a'.eval (.tmp (k+6))=.slice A (kids++[node]).length c∧Mid w0 w' g gr onm (kids++[node]) v (.slice A (kids++[node]).length c)
 p8:b 8=true→∃ v',NS w0 w' g gr onm (kids++[node]) v'
section
variable {k:Nat} {a:Act} {w0:World} {g gr gv:Nat} {onm:ByteArray} {kids:List S34} {v:Value} {node:S34} {T fo:Nat} {vals:Array Value} {arg:Value} {b:Nat→Bool} {a':Act} {w':World}
theorem CallI.put (h:CallI k a w0 g gr gv onm kids v node T fo vals arg b a' w') (i d:Nat) (u:Value) (hi:i<9) (hd:d=k+i) (hb:b i=false) (hsz:d<a.tmps.size)
 (q0:i=0→u=.pointer (some ⟨g,7,none⟩)) (q1:i=1→u=v) (q2:i=2→u=.pointer (some ⟨gv,fo,none⟩)) (q3:i=3→u=arg) (q7:i=7→u=.pointer (some ⟨g,7,none⟩)) (hi4:i≠4) (hi5:i≠5) (hi6:i≠6) (hi8:i≠8) :
 CallI k a w0 g gr gv onm kids v node T fo vals arg (up b i) (a'.put (some d) u) w':=by
 subst hd
 have hs:k+i<a'.tmps.size:=by rw [h.size];exact hsz
 have hn:∀ j:Nat,j≠k+i→(a'.put (some (k+i)) u).eval (.tmp j)=a'.eval (.tmp j):=fun j hj=>yb _ hj
 have hu:∀ j:Nat,j≠i→up b i j=b j:=fun j hj=>J6 hj
 have hm:(a'.put (some (k+i)) u).eval (.tmp (k+i))=u:=ya _ hs
 refine ⟨by rw [size_put];exact h.size,by rw [yq];exact h.defers,fun j hj=>(hn j Zo).trans (h.old j hj),?_,?_,?_,?_,?_,h.src,?_,?_,?_,?_,?_⟩
 · by_cases e:i=0
   · subst e;intro _;exact hm.trans (q0 rfl)
   · rw [hu 0 (Ne.symm e)];intro h0;exact (hn _ Zo).trans (h.i0 h0)
 · by_cases e:i=1
   · subst e;intro _;exact hm.trans (q1 rfl)
   · rw [hu 1 (Ne.symm e)];intro h0;exact (hn _ Zo).trans (h.i1 h0)
 · by_cases e:i=2
   · subst e;intro _;exact hm.trans (q2 rfl)
   · rw [hu 2 (Ne.symm e)];intro h0;exact (hn _ Zo).trans (h.i2 h0)
 · by_cases e:i=3
   · subst e;intro _;exact hm.trans (q3 rfl)
   · rw [hu 3 (Ne.symm e)];intro h0;exact (hn _ Zo).trans (h.i3 h0)
 · by_cases e:i=7
   · subst e;intro _;exact hm.trans (q7 rfl)
   · rw [hu 7 (Ne.symm e)];intro h0;exact (hn _ Zo).trans (h.i7 h0)
 · rw [hu 5 (Ne.symm hi5)];exact h.p0
 · rw [hu 4 (Ne.symm hi4),hu 5 (Ne.symm hi5),hn _ Zo];exact h.p4
 · rw [hu 5 (Ne.symm hi5),hu 6 (Ne.symm hi6),hn _ Zo];exact h.p5
 · rw [hu 6 (Ne.symm hi6),hu 8 (Ne.symm hi8),hn _ Zo];exact h.p6
 · rw [hu 8 (Ne.symm hi8)];exact h.p8
end
set_option maxRecDepth 100000 in
theorem YE {id k:Nat} {Q:Exit→Act→World→Prop} {rest:Code} {a:Act} {w0 w:World} {g gr gv:Nat} {onm:ByteArray} {kids:List S34} {v:Value} {T fi fo LT:Nat} {vals:Array Value} {arg:Value} {node:S34} {f:FuncId} {fn:Func} {aops:Array Operand} {args:Array Value}
 {d0 d1 d2 d3 d4 d5 d6 d7 d8:TypeId} {ts:Array TypeId} {p0 p1 p2 p3 p4 p5 p6 p7 p8:String}
 (hf:Tryz.prog.funcs[f]?=some fn) (hname:(fn.name == "runtime.NumGoroutine")=false) (hbody:fn.body.isSome=true)
 (hfa:∀ W:World,(Instr.fieldAt T (.pointer (some ⟨gv,0,none⟩)) fi).run Tryz.prog W=.ok (.pointer (some ⟨gv,fo,none⟩)) W)
 (hld:∀ W:World,W.heap[gv]?=some (.cells vals T (0,0))→(Instr.loadAt LT (.pointer (some ⟨gv,fo,none⟩))).run Tryz.prog W=.ok arg W)
 (hargs:∀ a':Act,(∀ j:Nat,j<k→a'.eval (.tmp j)=a.eval (.tmp j))→a'.eval (.tmp (k+3))=arg→aops.map a'.eval=args)
 (hcall:∀ W:World,Calls Tryz.prog f args W fun e w1=>∃ x0 x1 x2 x3 x4 x5 x6 x7,e=.returned (.agg #[x0,x1,x2,x3,x4,x5,x6,x7])∧Kd.M k34 w1 W.heap.size (fun _=>True) node [x0,x1,x2,x3,x4,x5,x6,x7]∧Below W.heap.size W w1)
 (hT:T≠34) (hk:5<k) (hsz:k+7<a.tmps.size) (hl:(kids.length+1) * 96≤140737488355328)
 (e3:a.eval (.tmp 3)=.pointer (some ⟨gv,0,none⟩)) (e4:a.eval (.tmp 4)=.pointer (some ⟨gr,0,none⟩)) (e5:a.eval (.tmp 5)=.pointer (some ⟨g,0,none⟩)) (hv:w.heap[gv]?=some (.cells vals T (0,0))) (hS:NS w0 w g gr onm kids v)
 (h:∀ a' w' v',a'.tmps.size=a.tmps.size→a'.defers=a.defers→a'.eval (.tmp 3)=.pointer (some ⟨gv,0,none⟩)→a'.eval (.tmp 4)=.pointer (some ⟨gr,0,none⟩)→a'.eval (.tmp 5)=.pointer (some ⟨g,0,none⟩) →
  w'.heap[gv]?=some (.cells vals T (0,0))→NS w0 w' g gr onm (kids++[node]) v'→rest.wp Tryz.prog Q a' w') :
 (Code.seq (.region id #[⟨some k,.fieldAddr 34 (.tmp 5) 7,d0,p0,#[],none⟩,⟨some (k+1),.load 32 (.tmp k),d1,p1,#[⟨0,.data⟩],none⟩,⟨some (k+2),.fieldAddr T (.tmp 3) fi,d2,p2,#[],none⟩,⟨some (k+3),.load LT (.tmp (k+2)),d3,p3,#[⟨2,.data⟩],none⟩,
  ⟨some (k+4),.call { callee:=.value (.func f),args:=aops,argTypes:=ts },d4,p4,#[⟨3,.data⟩],none⟩,⟨some (k+5),.buildSlice 32 1 #[(0,.tmp (k+4))],d5,p5,#[⟨4,.data⟩],none⟩,
  ⟨some (k+6),.call { callee:=.builtin .append,args:=#[.tmp (k+1),.tmp (k+5)],argTypes:=#[32,32] },d6,p6,#[⟨1,.data⟩,⟨5,.data⟩,⟨4,.chain⟩],none⟩,
  ⟨some (k+7),.fieldAddr 34 (.tmp 5) 7,d7,p7,#[⟨0,.phase⟩,⟨1,.phase⟩,⟨2,.phase⟩,⟨3,.phase⟩,⟨4,.phase⟩,⟨5,.phase⟩,⟨6,.phase⟩],none⟩,
  ⟨none,.store 32 (.tmp (k+7)) (.tmp (k+6)),d8,p8,#[⟨7,.data⟩,⟨6,.data⟩,⟨6,.chain⟩,⟨0,.phase⟩,⟨1,.phase⟩,⟨2,.phase⟩,⟨3,.phase⟩,⟨4,.phase⟩,⟨5,.phase⟩,⟨6,.phase⟩],none⟩] true) rest).wp Tryz.prog Q a w:=by
 refine wp_seq ?_
 refine Q8 (n:=9) (S:=fun _=>True) (ds:=[]) #[false,false,false,false,false,false,false,false,false] Zk rfl rfl trivial (fun _=>?_)
 have hd:∀ {o:Oper} {a':Act} {opl:Array Oper},o.guard=none→Region.wanted o (yielded opl a'.tmps)=true:=fun hg=>by simp [Region.wanted,hg]
 refine inv_ (B:=[0,1,0,4,12,28,63,127,255]) [0,1,2,3,4,5,6,7,8] (CallI k a w0 g gr gv onm kids v node T fo vals arg) rfl Zk Zk Zk ?_ ?_ ?_
 · exact ⟨rfl,rfl,fun _ _=>rfl,(fun h=>by cases h),(fun h=>by cases h),(fun h=>by cases h),(fun h=>by cases h),(fun h=>by cases h),hv,fun _=>⟨Kd.R_drew hS.own,hS.blk,hS.res,hS.ge,hS.ger,hS.ne,hS.below.drew⟩,(fun h=>by cases h),(fun h=>by cases h),(fun h=>by cases h),(fun h=>by cases h)⟩
 · refine J9 ?_ (J9 ?_ (J9 ?_ (J9 ?_ (J9 ?_ (J9 ?_ (J9 ?_ (J9 ?_ (J9 ?_ steps_nil))))))))
   · intro b a' w' hI hb hpre hpost
     refine ⟨_,rfl,fun K hK=>?_⟩
     refine qq (hd rfl) rfl (yF (p:=.pointer (some ⟨g,0,none⟩)) ((hI.old 5 hk).trans e5) (Qf ..)) (hK.out _ _ ?_)
     exact hI.put 0 k _ Zd rfl hb Zo (fun _=>rfl) (fun h=>absurd h Zd) (fun h=>absurd h Zd) (fun h=>absurd h Zd) (fun h=>absurd h Zd) Zd Zd Zd Zd
   · intro b a' w' hI hb hpre hpost
     refine ⟨_,rfl,fun K hK=>?_⟩
     have b6:b 6=false:=hpost 6 Zd
     have hblk:w'.heap[g]?=some (.cells (yK onm v) 34 (0,0)):=by
      cases b5:b 5 with
      | false=>exact (hI.p0 b5).blk
      | true=>
       obtain ⟨W,x0,x1,x2,x3,x4,x5,x6,x7,rfl,_,_,hN,_⟩:=hI.p5 b5 b6
       exact YA hN.blk _
     refine qq (hd rfl) rfl (run_load (hI.i0 (hpre 0 Zd)) (Q3 hblk rfl)) (hK.out _ _ ?_)
     exact hI.put 1 (k+1) _ Zd rfl hb Zo (fun h=>absurd h Zd) (fun _=>rfl) (fun h=>absurd h Zd) (fun h=>absurd h Zd) (fun h=>absurd h Zd) Zd Zd Zd Zd
   · intro b a' w' hI hb hpre hpost
     refine ⟨_,rfl,fun K hK=>?_⟩
     refine qq (hd rfl) rfl (yF (p:=.pointer (some ⟨gv,0,none⟩)) ((hI.old 3 Zo).trans e3) (hfa _)) (hK.out _ _ ?_)
     exact hI.put 2 (k+2) _ Zd rfl hb Zo (fun h=>absurd h Zd) (fun h=>absurd h Zd) (fun _=>rfl) (fun h=>absurd h Zd) (fun h=>absurd h Zd) Zd Zd Zd Zd
   · intro b a' w' hI hb hpre hpost
     refine ⟨_,rfl,fun K hK=>?_⟩
     refine qq (hd rfl) rfl (run_load (hI.i2 (hpre 2 Zd)) (hld _ hI.src)) (hK.out _ _ ?_)
     exact hI.put 3 (k+3) _ Zd rfl hb Zo (fun h=>absurd h Zd) (fun h=>absurd h Zd) (fun h=>absurd h Zd) (fun _=>rfl) (fun h=>absurd h Zd) Zd Zd Zd Zd
   · intro b a' w' hI hb hpre hpost
     refine ⟨_,rfl,fun K hK=>?_⟩
     have b5:b 5=false:=hpost 5 Zd
     have b6:b 6=false:=hpost 6 Zd
     have b8:b 8=false:=hpost 8 Zd
     have hN:=hI.p0 b5
     refine yaP hf hname hbody args (hd rfl) rfl rfl (hargs _ hI.old (hI.i3 (hpre 3 Zd))) ?_
     refine (hcall w').mono ?_
     rintro e w1 ⟨x0,x1,x2,x3,x4,x5,x6,x7,rfl,hM,hB⟩
     refine ⟨_,rfl,hK.out _ _ ?_⟩
     change CallI k a w0 g gr gv onm kids v node T fo vals arg (up b 4) (a'.put (some (k+4)) _) _
     have hn:∀ j:Nat,j≠k+4→(a'.put (some (k+4)) (.agg #[x0,x1,x2,x3,x4,x5,x6,x7])).eval (.tmp j)=a'.eval (.tmp j):=fun j hj=>yb _ hj
     have hu:∀ j:Nat,j≠4→up b 4 j=b j:=fun j hj=>J6 hj
     obtain ⟨cr,hcr,hr⟩:=hN.res
     have hN1:NS w0 w1 g gr onm kids v:=⟨Kd.qb hN.own hB,yE hN.blk hB,⟨cr,hcr,yE hr hB⟩,hN.ge,hN.ger,hN.ne,yy hN.below hB⟩
     refine ⟨by rw [size_put];exact hI.size,by rw [yq];exact hI.defers,fun j hj=>(hn j Zo).trans (hI.old j hj),?_,?_,?_,?_,?_,yE hI.src hB,fun _=>hN1,?_,?_,?_,?_⟩
     · rw [hu 0 Zd,hn _ Zo];exact hI.i0
     · rw [hu 1 Zd,hn _ Zo];exact hI.i1
     · rw [hu 2 Zd,hn _ Zo];exact hI.i2
     · rw [hu 3 Zd,hn _ Zo];exact hI.i3
     · rw [hu 7 Zd,hn _ Zo];exact hI.i7
     · intro _ _
       rw [ya _ (by rw [hI.size];omega)]
       refine ⟨x0,x1,x2,x3,x4,x5,x6,x7,rfl,?_⟩
       have hg:=Yy hN.blk
       have hgr:=Yy hr
       refine k34.Jn (fun j hj=>?_) (k34.J1 (yt hN.below) (k34.JD hM))
       have hj2:=hj.2.1
       refine ⟨⟨by omega,by omega⟩,fun e=>?_⟩
       obtain ⟨cells,hc⟩:=Kd.ybg hN.own j e.symm
       have:=Yy hc
       omega
     · rw [hu 5 Zd,b5];intro h;cases h
     · rw [hu 6 Zd,b6];intro h;cases h
     · rw [hu 8 Zd,b8];intro h;cases h
   · intro b a' w' hI hb hpre hpost
     refine ⟨_,rfl,fun K hK=>?_⟩
     have b4:b 4=true:=hpre 4 Zd
     have b6:b 6=false:=hpost 6 Zd
     have b8:b 8=false:=hpost 8 Zd
     have hN:=hI.p0 hb
     obtain ⟨x0,x1,x2,x3,x4,x5,x6,x7,hx,hM⟩:=hI.p4 b4 hb
     refine qq (hd rfl) rfl (run_lit1 hx (run_lit34 ..)) (hK.out _ _ ?_)
     change CallI k a w0 g gr gv onm kids v node T fo vals arg (up b 5) (a'.put (some (k+5)) _) _
     have hn:∀ (u:Value) (j:Nat),j≠k+5→(a'.put (some (k+5)) u).eval (.tmp j)=a'.eval (.tmp j):=fun u j hj=>yb _ hj
     have hu:∀ j:Nat,j≠5→up b 5 j=b j:=fun j hj=>J6 hj
     refine ⟨by rw [size_put];exact hI.size,by rw [yq];exact hI.defers,fun j hj=>(hn _ j Zo).trans (hI.old j hj),?_,?_,?_,?_,?_,YA hI.src _,?_,?_,?_,?_,?_⟩
     · rw [hu 0 Zd,hn _ _ Zo];exact hI.i0
     · rw [hu 1 Zd,hn _ _ Zo];exact hI.i1
     · rw [hu 2 Zd,hn _ _ Zo];exact hI.i2
     · rw [hu 3 Zd,hn _ _ Zo];exact hI.i3
     · rw [hu 7 Zd,hn _ _ Zo];exact hI.i7
     · rw [qg];intro h;cases h
     · rw [qg];intro _ h;cases h
     · intro _ _
       exact ⟨w',x0,x1,x2,x3,x4,x5,x6,x7,rfl,ya _ (by rw [hI.size];omega),hM,hN,hI.src⟩
     · rw [hu 6 Zd,b6];intro h;cases h
     · rw [hu 8 Zd,b8];intro h;cases h
   · intro b a' w' hI hb hpre hpost
     refine ⟨_,rfl,fun K hK=>?_⟩
     have b5:b 5=true:=hpre 5 Zd
     have b8:b 8=false:=hpost 8 Zd
     obtain ⟨W,x0,x1,x2,x3,x4,x5,x6,x7,rfl,he5,hM,hN,hsrc⟩:=hI.p5 b5 hb
     obtain ⟨cr,hcr,hr⟩:=hN.res
     refine Kd.Q7 k34 (w0:=w0) w0.heap.size (hd rfl) (.tmp (k+1)) (.tmp (k+5)) 32 34 (.agg #[(.string ⟨#[]⟩),(.int .i64 0),(.bool false),(.int .i64 0),(.int .u64 0),(.float .f64 0),(.string ⟨#[]⟩),(.slice none 0 0)]) 96 rfl Tryz.underlying32 info34 rfl Zd Zo
      v kids node [x0,x1,x2,x3,x4,x5,x6,x7] (fun k=>k≠g∧k≠gr) (fun k=>(k≠g∧k≠gr)∧some k≠v.ownBlock) (hI.i1 (hpre 1 Zd)) he5 hM (fun _ hk=>hk) ?_ hN.own hN.below (yt hN.below) hl ?_
     · exact fun k hk=>⟨by have:=Yy hN.blk;omega,by have:=Yy hr;omega⟩
     intro v1 w1 hR hbl hg hat
     obtain ⟨A,c,hv1⟩:=Kd.Y7 hR
     subst hv1
     refine hK.out _ _ ?_
     change CallI k a w0 g gr gv onm kids v node T fo vals arg (up b 6) (a'.put (some (k+6)) _) _
     have hn:∀ (u:Value) (j:Nat),j≠k+6→(a'.put (some (k+6)) u).eval (.tmp j)=a'.eval (.tmp j):=fun u j hj=>yb _ hj
     have hu:∀ j:Nat,j≠6→up b 6 j=b j:=fun j hj=>J6 hj
     have hsrc1:w1.heap[gv]?=some (.cells vals T (0,0)):=by
      refine Y3 hsrc hg (fun e=>?_)
      obtain ⟨cells,hc⟩:=Kd.ybg hN.own gv e.symm
      rw [hsrc] at hc
      injection hc with hc
      injection hc with _ hc
      exact hT hc
     refine ⟨by rw [size_put];exact hI.size,by rw [yq];exact hI.defers,fun j hj=>(hn _ j Zo).trans (hI.old j hj),?_,?_,?_,?_,?_,hsrc1,?_,?_,?_,?_,?_⟩
     · rw [hu 0 Zd];intro h0;exact (hn _ _ Zo).trans (hI.i0 h0)
     · rw [hu 1 Zd];intro h0;exact (hn _ _ Zo).trans (hI.i1 h0)
     · rw [hu 2 Zd];intro h0;exact (hn _ _ Zo).trans (hI.i2 h0)
     · rw [hu 3 Zd];intro h0;exact (hn _ _ Zo).trans (hI.i3 h0)
     · rw [hu 7 Zd];intro h0;exact (hn _ _ Zo).trans (hI.i7 h0)
     · rw [hu 5 Zd,b5];intro h;cases h
     · rw [hu 5 Zd,b5];intro _ h;cases h
     · rw [qg];intro _ h;cases h
     · intro _ _
       exact ⟨A,c,ya _ (by rw [hI.size];omega),hR,Y3 hN.blk hg (Kd.QQ hN.own (fun k hk=>hk.1)),⟨cr,hcr,Y3 hr hg (Kd.QQ hN.own (fun k hk=>hk.2))⟩,hbl⟩
     · rw [hu 8 Zd,b8];intro h;cases h
   · intro b a' w' hI hb hpre hpost
     refine ⟨_,rfl,fun K hK=>?_⟩
     refine qq (hd rfl) rfl (yF (p:=.pointer (some ⟨g,0,none⟩)) ((hI.old 5 hk).trans e5) (Qf ..)) (hK.out _ _ ?_)
     exact hI.put 7 (k+7) _ Zd rfl hb Zo (fun h=>absurd h Zd) (fun h=>absurd h Zd) (fun h=>absurd h Zd) (fun h=>absurd h Zd) (fun _=>rfl) Zd Zd Zd Zd
   · intro b a' w' hI hb hpre hpost
     refine ⟨_,rfl,fun K hK=>?_⟩
     have b5:b 5=true:=hpre 5 Zd
     have b6:b 6=true:=hpre 6 Zd
     obtain ⟨A,c,he6,hR,hblk,⟨cr,hcr,hr⟩,hbl⟩:=hI.p6 b6 hb
     refine skip_ (hd rfl) rfl (run_store (hI.i7 (hpre 7 Zd)) he6 (run_st7 hblk (by simp))) (hK.out _ _ ?_)
     change CallI k a w0 g gr gv onm kids v node T fo vals arg (up b 8) a' _
     have hu:∀ j:Nat,j≠8→up b 8 j=b j:=fun j hj=>J6 hj
     have hgv:gv≠g:=blk_ne hI.src hblk hT
     refine ⟨hI.size,hI.defers,hI.old,?_,?_,?_,?_,?_,yI hI.src hgv _,?_,?_,?_,?_,?_⟩
     · rw [hu 0 Zd];exact hI.i0
     · rw [hu 1 Zd];exact hI.i1
     · rw [hu 2 Zd];exact hI.i2
     · rw [hu 3 Zd];exact hI.i3
     · rw [hu 7 Zd];exact hI.i7
     · rw [hu 5 Zd,b5];intro h;cases h
     · rw [hu 5 Zd,b5];intro _ h;cases h
     · rw [hu 6 Zd,b6];intro _ h;cases h
     · rw [qg];intro _ h;cases h
     · intro _
       exact ⟨.slice A (kids++[node]).length c,Kd.JS hR (p:=⟨g,7,none⟩) (fun k hk=>hk.1) _,yA hblk 7 _ rfl,⟨cr,hcr,yI hr (fun e=>hS.ne e.symm) _⟩,hS.ge,hS.ger,hS.ne,yw hbl hS.ge⟩
 · intro b a' w' hall hI
   obtain ⟨v',hN⟩:=hI.p8 (hall 8 Zd)
   exact h a' w' v' hI.size hI.defers ((hI.old 3 Zo).trans e3) ((hI.old 4 Zo).trans e4) ((hI.old 5 hk).trans e5) hI.src hN
end Go.Proofs.YtdcaggoicdfehaaGreatDoor
namespace Go.Proofs.YtdcaggoicdfehaaGreatDoor
open Go.RowKit Go.Proofs.YtdcaggoicdfehaaGreatDoorW.PrintWords Go.Proofs.YtdcaggoicdfehaaGreatDoorW.PrintLast Go.Proofs.YtdcaggoicdfehaaGreatDoorW.PrintMore
theorem YF {w:World} {g o:Nat} {vals:Array Value} {T:TypeId} {cs:List Value} (h:w.heap[g]?=some (.cells vals T (0,0))) (pre post:List Value) (hp:vals.toList=pre++(cs++post)) (ho:pre.length=o):w.rangeAt g o cs:=by
 intro j v hv
 refine (ye h (o+j)).trans ?_
 rw [← Array.getElem?_toList,hp,List.getElem?_append_right Zo,ho,Nat.add_sub_cancel_left,List.getElem?_append_left]
 · exact hv
 · exact (List.getElem?_eq_some_iff.mp hv).1
abbrev rNode (nm:ByteArray) (kids:List S34):S34:=⟨nm,8,false,0,0,0,⟨#[]⟩,kids⟩
abbrev tNode (nm s:ByteArray):S34:=⟨nm,5,false,0,0,0,s,[]⟩
theorem tNode_M (nm s:ByteArray) (w:World) (base:Nat) (ok:Nat→Prop):Kd.M k34 w base ok (tNode nm s) [.string nm,.int .i64 5,.bool false,.int .i64 0,.int .u64 0,.float .f64 0,.string s,.slice none 0 0]:=
 ybj _ _ _ (tNode nm s) (Kd.qf _ _ _ _ _)
theorem YT {f:FuncId} {args:Array Value} {W:World} {onm:ByteArray} {kids:List S34}
 (h:Calls Tryz.prog f args W fun e w'=>∃ v,e=.returned (.agg (yK onm v))∧Kd.R k34 34 w' W.heap.size (fun _=>True) v kids∧Below W.heap.size W w') :
 Calls Tryz.prog f args W fun e w1=>∃ x0 x1 x2 x3 x4 x5 x6 x7,e=.returned (.agg #[x0,x1,x2,x3,x4,x5,x6,x7])∧Kd.M k34 w1 W.heap.size (fun _=>True) (rNode onm kids) [x0,x1,x2,x3,x4,x5,x6,x7]∧Below W.heap.size W w1:=by
 refine h.mono ?_
 rintro e w1 ⟨v,rfl,hR,hB⟩
 exact ⟨_,_,_,_,_,_,_,_,rfl,ybj _ _ _ (rNode onm kids) hR,hB⟩
theorem R_eq {w:World} {base:Nat} {ok:Nat→Prop} {v:Value} {kids kids':List S34} (e:kids=kids') (h:Kd.R k34 34 w base ok v kids):Kd.R k34 34 w base ok v kids':=e ▸ h
theorem run_btext (w:World) (nm s:ByteArray):(Instr.build 34 #[(0,.string nm),(1,.int .i64 5),(6,.string s)]).run Tryz.prog w=.ok (.agg #[.string nm,.int .i64 5,.bool false,.int .i64 0,.int .u64 0,.float .f64 0,.string s,.slice none 0 0]) w:=by kernel_rfl
theorem app_text {id k:Nat} {Q:Exit→Act→World→Prop} {rest:Code} {a:Act} {w0 w:World} {g gr gv:Nat} {onm nm:ByteArray} {kids:List S34} {v:Value} {T fi:Nat} {vals:Array Value} {x:ByteArray}
 {d0 d1 d2 d3 d5 d6 d7 d8 d9:TypeId} {p0 p1 p2 p3 p5 p6 p7 p8 p9:String} {a0 a1 a2 a3 a5 a6 a7 a8 a9:Array Edge}
 (hfa:∀ W:World,(Instr.fieldAt T (.pointer (some ⟨gv,0,none⟩)) fi).run Tryz.prog W=.ok (.pointer (some ⟨gv,fi,none⟩)) W) (hx:vals[fi]?=some (.string x)) (hT:T≠34)
 (hk:5<k) (hsz:k+7<a.tmps.size) (hl:(kids.length+1) * 96≤140737488355328)
 (e3:a.eval (.tmp 3)=.pointer (some ⟨gv,0,none⟩)) (e4:a.eval (.tmp 4)=.pointer (some ⟨gr,0,none⟩)) (e5:a.eval (.tmp 5)=.pointer (some ⟨g,0,none⟩)) (hv:w.heap[gv]?=some (.cells vals T (0,0))) (hS:NS w0 w g gr onm kids v)
 (h:∀ a' w' v',a'.tmps.size=a.tmps.size→a'.defers=a.defers→a'.eval (.tmp 3)=.pointer (some ⟨gv,0,none⟩)→a'.eval (.tmp 4)=.pointer (some ⟨gr,0,none⟩)→a'.eval (.tmp 5)=.pointer (some ⟨g,0,none⟩) →
  w'.heap[gv]?=some (.cells vals T (0,0))→NS w0 w' g gr onm (kids++[tNode nm x]) v'→rest.wp Tryz.prog Q a' w') :
 (Code.seq (.region id #[⟨some k,.fieldAddr 34 (.tmp 5) 7,d0,p0,a0,none⟩,⟨some (k+1),.load 32 (.tmp k),d1,p1,a1,none⟩,⟨some (k+2),.fieldAddr T (.tmp 3) fi,d2,p2,a2,none⟩,⟨some (k+3),.load 9 (.tmp (k+2)),d3,p3,a3,none⟩,
  ⟨some (k+4),.build 34 #[(0,.const (.string nm)),(1,.const (.int .i64 5)),(6,.tmp (k+3))],d5,p5,a5,none⟩,⟨some (k+5),.buildSlice 32 1 #[(0,.tmp (k+4))],d6,p6,a6,none⟩,
  ⟨some (k+6),.call { callee:=.builtin .append,args:=#[.tmp (k+1),.tmp (k+5)],argTypes:=#[32,32] },d7,p7,a7,none⟩,⟨some (k+7),.fieldAddr 34 (.tmp 5) 7,d8,p8,a8,none⟩,⟨none,.store 32 (.tmp (k+7)) (.tmp (k+6)),d9,p9,a9,none⟩] false) rest).wp Tryz.prog Q a w:=by
 refine wp_seq ?_
 refine wp_region_list ?_
 refine Kd.yh rfl (yF e5 (Qf ..)) ?_
 refine Kd.yh rfl (run_load (ya _ Zo) (Q3 hS.blk rfl)) ?_
 refine Kd.yh rfl (yF ((yb _ Zo).trans ((yb _ Zo).trans e3)) (hfa _)) ?_
 refine Kd.yh rfl (run_load (ya _ Zs) (Jx (fun _=>by kernel_rfl) hv hx)) ?_
 refine Kd.yh rfl (Yg (fun _=>rfl) (ya _ Zs) (run_btext ..)) ?_
 refine ydq (node:=tNode nm x) rfl (fun w'=>tNode_M ..) hS hl ?_ (ya _ Zs) ?_ Zs Zs Zs Zo Zo Zo Zo ?_
 · rw [yb _ Zo,yb _ Zo,yb _ Zo,ya _ Zs];rfl
 · rw [yb _ Zo,yb _ Zo,yb _ Zo,yb _ Zo,yb _ Zo];exact e5
 intro a' w' v' hs hd he hN hb
 have hj:∀ j:Nat,j<6→a'.eval (.tmp j)=a.eval (.tmp j):=fun j hj=>by
  rw [he j Zo Zo Zo,yb _ Zo,yb _ Zo,yb _ Zo,yb _ Zo,yb _ Zo]
 exact h a' w' v' (by rw [hs];simp only [size_put]) (by rw [hd];simp only [yq]) ((hj 3 Zo).trans e3) ((hj 4 Zo).trans e4) ((hj 5 Zo).trans e5) (hb _ _ _ hv hT) hN
theorem JJ {a:Act} (c:Value) {j:Nat} {v:Value} (h:a.eval (.tmp j)=v):#[Operand.const c,.tmp j].map a.eval=#[c,v]:=by
 have:a.eval (.const c)=c:=rfl
 simp [h,this]
end Go.Proofs.YtdcaggoicdfehaaGreatDoor
