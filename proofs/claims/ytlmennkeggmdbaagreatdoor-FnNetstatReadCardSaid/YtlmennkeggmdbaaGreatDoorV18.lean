/- Part 18 of 34 of the proof of the tied card of FnNetstatRead. -/
import Derived.Test.YtlmennkeggmdbaaGreatDoorVz
import Derived.Test.YtlmennkeggmdbaaGreatDoorV17
import Derived.Lib.AtoiErrMem
import Derived.Test.YtlmennkeggmdbaaGreatDoorV6
import Derived.Defers
import Derived.Recover
set_option linter.unusedVariables false
set_option linter.unusedSimpArgs false
namespace Go.Proofs.YtlmennkeggmdbaaGreatDoor
open Go.RowKit Go.Proofs.YtlmennkeggmdbaaGreatDoorW.PrintWords Go.Proofs.YtlmennkeggmdbaaGreatDoorW.PrintLast Go.Proofs.YtlmennkeggmdbaaGreatDoorW.PrintMore
set_option maxRecDepth 100000
theorem yaV (s:ByteArray) (hs:s.size≤1048576) (w:World):Calls Tryz.prog 40 #[.string s] w fun e w'=>∃ cap,e=.returned (.tuple #[.slice (some ⟨w.heap.size,0,none⟩) s.size cap,.nilIface])∧w'=Lib.bytesWorld w 5 s:=by
 refine YS 11 Tryz.func40 rfl Zk (by simp) ?_
 refine yF (Yb (v:=.slice none 0 0) rfl (Yb rfl (yx ?_)))
 refine Yg (yF (yR rfl (qX (s:=s) rfl (r_gtr rfl rfl false (decide_eq_false Zo) (yx (Jt rfl (Jg ?_)))))))
 refine yF (yR rfl (YR (fun a ha=>ycm (p:=.string s) (ha.at_ 9 _ rfl) (Lib.run_convert_string_bytes (P:=Tryz.prog) w 9 86 5 s Tryz.underlying9 Tryz.underlying86 Tryz.underlying5)) (Yb rfl (Yb rfl (yx (JA fun a ha=>?_))))))
 exact J2 (fn:=Tryz.f40) (vs:=[.slice (some ⟨w.heap.size,0,none⟩) s.size (grownCap w s.size 0 5),.nilIface]) rfl ⟨_,rfl,rfl⟩ ha
theorem box_proc (W:World) (s:ByteArray):(Instr.box 62 (.agg #[.int .i64 0,.string s])).run Tryz.prog W=.ok (.pointer (some ⟨W.heap.size,0,none⟩)) (W.alloc (.cells #[.int .i64 0,.string s] 62 (0,0))):=by kernel_rfl
theorem fa_proc0 (g:Nat) (W:World):(Instr.fieldAt 62 (.pointer (some ⟨g,0,none⟩)) 0).run Tryz.prog W=.ok (.pointer (some ⟨g,0,none⟩)) W:=by kernel_rfl
abbrev netW:ByteArray:=⟨#[110,101,116,47,110,101,116,115,116,97,116]⟩
theorem stat_id (p:Nat→Option Nat):(Yx p).toArray.setIfInBounds 0 (.int .i64 0)=(Yx p).toArray:=by
 apply Array.toList_inj.1
 rw [Array.toList_setIfInBounds]
 rfl
set_option maxHeartbeats 1000000 in
theorem netstat_walk (gs:List Grp) (hgood:∀ g ∈ gs,ybB g) (hlen:(Jw gs).length≤65000) (w:World) (hV:Vars w) :
 Calls Tryz.prog 18 #[.agg #[.int .i64 0,.string (mkB (Jw gs))]] w fun e w'=>∃ p,e=.returned (.tuple #[.agg (Yx p).toArray,.nilIface])∧yad w' w.heap.size p (JR J5 gs)∧Below w.heap.size w w':=by
 refine YS 34 Tryz.func18 rfl Zk (by simp) ?_
 refine yF (YR (fun a ha=>yaC (ha.at_ 0 _ rfl) (box_proc w _)) ?_)
 have hp1:=YP w (.cells #[.int .i64 0,.string (mkB (Jw gs))] 62 (0,0))
 have hB1:Below w.heap.size w (w.alloc (.cells #[.int .i64 0,.string (mkB (Jw gs))] 62 (0,0))):=yl (Below.refl _ _) _
 have hz1:(w.alloc (.cells #[.int .i64 0,.string (mkB (Jw gs))] 62 (0,0))).heap.size=w.heap.size+1:=by simp
 generalize (w.alloc (.cells #[.int .i64 0,.string (mkB (Jw gs))] 62 (0,0)))=w1 at hp1 hB1 hz1 ⊢
 refine YR (fun a ha=>YT (QP w1)) (Yb rfl (yx ?_))
 have hg2:=YP w1 qe
 have hp2:=Yw hp1 qe
 have hB2:Below w.heap.size w (w1.alloc qe):=yl hB1 _
 have hz2:(w1.alloc qe).heap.size=w.heap.size+2:=by simp [hz1]
 generalize (w1.alloc qe)=w2 at hg2 hp2 hB2 hz2 ⊢
 rw [hz1] at hg2 ⊢
 refine yF (r_ld (v:=.agg #[.int .i64 0,.string (mkB (Jw gs))]) rfl (run_loadVar_row w2 w.heap.size 62 62 _ (0,0) _ hp2 Tryz.underlying62 rfl Zk) (r_lit (s:=netW) rfl ?_))
 have hB3:Below w2.heap.size w2 (w2.alloc (.cells #[.string netW] 9)):=yl (Below.refl _ _) _
 have hR3:Kd.string.R 9 (w2.alloc (.cells #[.string netW] 9)) w2.heap.size (fun _=>True) (.slice (some ⟨w2.heap.size,0,none⟩) 1 1) [netW]:=R_lits w2 [netW] (by simp)
 obtain ⟨A,c,hv,hc,hC⟩:=Kd.ybD hR3
 generalize (w2.alloc (.cells #[.string netW] 9))=w3 at hB3 hC ⊢
 have hv':Value.slice (some ⟨w2.heap.size,0,none⟩) 1 1=.slice A 1 c:=hv
 rw [hv']
 refine YJ Tryz.func39 Zk rfl rfl ((Ql.calls 0 (mkB (Jw gs)) A c [netW] (mkB (Jw gs)) w3 hC hc rfl).mono ?_)
 rintro e w4 ⟨rfl,hB4⟩
 refine ⟨_,rfl,Yb rfl (yx ?_)⟩
 refine yF (yR rfl (YJ Tryz.func40 Zk rfl rfl ((yaV (mkB (Jw gs)) (by rw [size_mk];omega) w4).mono ?_)))
 rintro e w5 ⟨cap,rfl,hw5⟩
 refine ⟨_,rfl,yR rfl (Jj rfl (J8 _ _) (Jj rfl (J9 _ _) (Yb rfl (Yb rfl (yx ?_)))))⟩
 have hB5:Below w4.heap.size w4 w5:=hw5 ▸ Lib.bytesWorld_below _ _ _
 refine Yg (yF (yR rfl (r_bin (res:=.bool false) rfl rfl Zk (yx (Jt rfl (Jg ?_))))))
 have hconv:(convert 86 58 (.slice (some ⟨w4.heap.size,0,none⟩) (mkB (Jw gs)).size cap)).run Tryz.prog w5=.ok (.string (mkB (Jw gs))) w5:=by
  refine run_convert_bytes_back (P:=Tryz.prog) w5 86 58 5 ⟨w4.heap.size,0,none⟩ cap (Jw gs) Tryz.underlying86 Tryz.underlying5 Tryz.underlying58 ?_
  intro j hj
  rw [hw5,Addr.add_mid,Nat.zero_add,Lib.bytesWorld_cell _ _ _ _ (by rw [size_mk];exact hj)]
  simp [List.getD_eq_getElem?_getD,hj]
 have hBw5:=yw (yw (yw hB2 hB3) hB4) hB5
 refine yF (yR rfl (YR (fun a ha=>ycm (ha.at_ 23 _ rfl) hconv) (yR rfl (YJ Tryz.func41 Zk rfl rfl ((parse_walk gs hgood hlen _ w5 (hV.step hBw5)).mono ?_)))))
 rintro e w6 ⟨p,rfl,hH6,hB6⟩
 have hBw6:=yw hBw5 hB6
 refine ⟨_,rfl,yR rfl (Jj rfl (J8 _ _) (Jj rfl (J9 _ _) (YR (fun a ha=>YT (QP w6)) ?_)))⟩
 have hB26:=yw (yw (yw hB3 hB4) hB5) hB6
 have hg6:=Yw (yI hg2 hB26) qe
 have hp6:=Yw (yI hp2 hB26) qe
 have hg7:=YP w6 qe
 have hH7:=hH6.below (yl (Below.refl _ _) qe)
 have hB7:Below w.heap.size w (w6.alloc qe):=yl hBw6 _
 have hz6:w.heap.size+2≤w6.heap.size:=by have:=yt hB26;omega
 have hz5:w.heap.size≤w5.heap.size:=yt hBw5
 generalize (w6.alloc qe)=w7 at hg6 hp6 hg7 hH7 hB7 ⊢
 generalize w6.heap.size=g7 at hg7 hz6 ⊢
 obtain ⟨w8,hrun8,hg8,hT8⟩:=QR (p':=p) hg7
 refine Qt rfl rfl hrun8 (Yb rfl (yx ?_))
 have hg28:=(hT8.other (w.heap.size+1) Zo).trans hg6
 have hp8:=(hT8.other w.heap.size Zo).trans hp6
 have hH8:yad w8 w5.heap.size p (JR J5 gs):=fun i=>by
  rcases hH7 i with hh|⟨b,x,h1,h2,h3,h4⟩
  · exact .inl hh
  · exact .inr ⟨b,x,h1,h2,h3,(hT8.other _ (JT h4 hg7 Zd)).trans h4⟩
 have hB8:=hT8.below _ _ Zo hB7
 have hg9:Q9 (w8.setCell ⟨g7,0+0,none⟩ (.int .i64 0)) g7 p:=yy hg8 0 _ (stat_id p)
 have hT9:=(JQ.refl g7 w8).set (0+0) (.int .i64 0)
 refine yF (r_fa rfl (fa_proc0 w.heap.size) (r_ld (v:=.int .i64 0) rfl (ybR Zk ((yg hp8 0).trans rfl)) (r_fa rfl (fa_stat0 g7 0) (Qt rfl rfl (QK (x:=0) Zk Zk ((yg hg8 0).trans rfl) (yf hg8 0)) (yx ?_)))))
 generalize (w8.setCell ⟨g7,0+0,none⟩ (.int .i64 0))=w9 at hg9 hT9 ⊢
 have hg29:=(hT9.other (w.heap.size+1) Zo).trans hg28
 have hH9:yad w9 w5.heap.size p (JR J5 gs):=fun i=>by
  rcases hH8 i with hh|⟨b,x,h1,h2,h3,h4⟩
  · exact .inl hh
  · exact .inr ⟨b,x,h1,h2,h3,(hT9.other _ (JT h4 hg8 Zd)).trans h4⟩
 have hB9:=hT9.below _ _ Zo hB8
 obtain ⟨w10,hrun10,hg10,hT10⟩:=QR (p':=p) hg29
 refine yF (r_ld (v:=.agg (Yx p).toArray) rfl (run_loadVar_row w9 g7 56 56 _ (0,0) _ hg9 Tryz.underlying56 rfl (by rw [List.size_toArray,Qa];kernel_rfl)) (yR rfl (Qt rfl rfl hrun10 (Yb rfl (yx (JA fun a ha=>?_))))))
 refine ydl (fn:=Tryz.f18) (t:=2) (u:=3) rfl hg10 rfl rfl ⟨p,rfl,fun i=>?_,hT10.below _ _ Zo hB9⟩ ha
 rcases hH9 i with hh|⟨b,x,h1,h2,h3,h4⟩
 · exact .inl hh
 · exact .inr ⟨b,x,h1,h2,by omega,(hT10.other _ (JT h4 hg29 Zd)).trans h4⟩
theorem implN_walk (gs:List Grp) (hgood:∀ g ∈ gs,ybB g) (hlen:(Jw gs).length≤65000) (w:World) (hV:Vars w) :
 Calls Tryz.prog 7 #[.string (mkB (Jw gs))] w fun e w'=>∃ v,e=.returned (.tuple #[.agg (Yl ⟨#[]⟩ v),.int .i64 0])∧Kd.R k34 34 w' w.heap.size (fun _=>True) v (JW (JR J5 gs))∧Below w.heap.size w w':=by
 refine YS 10 Tryz.func7 rfl Zk (by simp) ?_
 refine yF (YR (fun a ha=>YT (Jh w)) (Yb rfl (yx ?_)))
 have hgr:=YP w (.cells Qc 34 (0,0))
 have hB1:Below w.heap.size w (w.alloc (.cells Qc 34 (0,0))):=yl (Below.refl _ _) _
 generalize (w.alloc (.cells Qc 34 (0,0)))=w1 at hgr hB1 ⊢
 refine yF (yR rfl (YJ Tryz.func17 Zk rfl rfl ((QA.calls (mkB (Jw gs)) 0 (mkB (Jw gs)) w1 rfl).mono ?_)))
 rintro e w2 ⟨rfl,hB2⟩
 have hB2w:=yw hB1 hB2
 refine ⟨_,rfl,YR (fun a ha=>run_mff (ha.at_ 5 _ rfl)) (YJ Tryz.func16 Zk rfl rfl ((tree_walk (.agg #[.int .i64 0,.string (mkB (Jw gs))]) (JR J5 gs) w2 fun W hW=>netstat_walk gs hgood hlen W (hV.step (yw hB2w hW))).mono ?_))⟩
 rintro e w3 ⟨v,rfl,hR,hB3⟩
 have hR':=Kd.ybm hR (yI hgr hB2)
 obtain ⟨A,c,hv1⟩:=Kd.YF hR'
 subst hv1
 obtain ⟨w4,hrun4,hb4,hoth4,hbel4⟩:=J3 (s1:=⟨#[]⟩) (k:=8) (b:=false) (i:=0) (u:=0) (f:=0) (s2:=⟨#[]⟩) (A:=A) (n:=(JW (JR J5 gs)).length) (c:=c) (yI (yI hgr hB2) hB3) rfl
 refine ⟨_,rfl,Jj rfl (J8 _ _) (Jj rfl (J9 _ _) (Qt rfl rfl hrun4 (Yb rfl (yx (JA fun a ha=>?_)))))⟩
 refine bodyPost_ret (v:=.tuple #[.agg (Yl ⟨#[]⟩ (.slice A (JW (JR J5 gs)).length c)),.int .i64 0]) ?_ ha.defers ⟨_,rfl,Kd.Ji (Kd.Yr (Kd.qn hR' (fun j hj _=>hoth4 j hj.2)) (fun _ _=>trivial)) (yt hB2w),hbel4 _ _ (Nat.le_refl _) (yw hB2w hB3)⟩
 refine qb (rs:=[.cell 2 34,.tmp 3]) (vs:=[.agg (Yl ⟨#[]⟩ (.slice A (JW (JR J5 gs)).length c)),.int .i64 0]) rfl (by simp) ?_
 refine .cell w.heap.size 34 _ (0,0) _ (ha.at_ 2 _ rfl) hb4 Tryz.underlying34 rfl Zk ?_
 have e3:a.tmps.getD 3 undef=.int .i64 0:=ha.at_ 3 _ rfl
 rw [← e3]
 exact .tmp .nil
end Go.Proofs.YtlmennkeggmdbaaGreatDoor
namespace Go.Proofs.YtlmennkeggmdbaaGreatDoor
open Go.RowKit Go.Proofs.YtlmennkeggmdbaaGreatDoorW.PrintWords Go.Proofs.YtlmennkeggmdbaaGreatDoorW.PrintLast Go.Proofs.YtlmennkeggmdbaaGreatDoorW.PrintMore
theorem goesV_ {P:Program} {ops:Array Oper} {Q:Exit→Act→World→Prop} {rest:List Oper} {oi:Oper} {a:Act} {w:World} (N:Option Tmp) (hd:oi.dst=N) (hg:oi.guard=none) {f:FuncId} {fn:Func} {x:Operand} {cap:Array Value} {ao:Array Operand} {ts:Array TypeId}
 (hx:a.eval x=.func (.func f) #[] cap) (hf:P.funcs[f]?=some fn) (hname:(fn.name == "runtime.NumGoroutine")=false) (hb:fn.body.isSome=true) (args0:Array Value) (args:Array Value)
 (hop:oi.op=.call { callee:=.value x,args:=ao,argTypes:=ts }) (hargs:ao.map a.eval=args0) (hall:args0++cap=args)
 (h:Calls P f args w fun e w'=>∃ v,e=.returned v∧wpList P ops Q rest (a.put N v) w'):wpList P ops Q (oi::rest) a w:=by
 refine wpList_plain hg fun K hK=>?_
 have he:=QX hf hname hb args w
 have hrun:(execOp a.eval oi).run P w=.ok (.enter f args) w:=by
  unfold execOp
  simp [hop,resolve,Deferred.ofValue,invoke,hx,hargs,hall,he]
 unfold Oper.wp
 rw [hrun,Oper.upon_enter]
 refine h.mono fun e w'' hh=>?_
 obtain ⟨v,rfl,hk⟩:=hh
 subst hd
 exact hK _ _ hk
theorem node_ret {ops:Array Oper} {r s:Nat} {fn:Func} {R:Ending→World→Prop} {a:Act} {w0 w:World} {gr:Nat} {base:Nat} {nm:ByteArray} {kids:List S34} {v:Value} {cr:Array Value} {d:TypeId} {p:String} {e:Array Edge}
 (hres:fn.results=#[.cell r 34]) (hd:a.defers=[]) (er:a.eval (.tmp r)=.pointer (some ⟨gr,0,none⟩)) (es:a.eval (.tmp s)=.agg (Yl nm v)) (hr:w.heap[gr]?=some (.cells cr 34 (0,0))) (hcr:cr.size=8)
 (hger:w0.heap.size≤gr) (hK:Kd.R k34 34 w base (fun k=>k≠gr) v kids) (hB:Below w0.heap.size w0 w)
 (hR:∀ w',Kd.R k34 34 w' base (fun k=>k≠gr) v kids→Below w0.heap.size w0 w'→R (.returned (.agg (Yl nm v))) w') :
 wpList Tryz.prog ops (Exit.then (Code.ret.wp Tryz.prog (bodyPost Tryz.prog fn R)) (bodyPost Tryz.prog fn R)) [⟨none,.store 34 (.tmp r) (.tmp s),d,p,e,none⟩] a w:=by
 obtain ⟨A,c,hv1⟩:=Kd.YF hK
 subst hv1
 obtain ⟨w1,hrun,hb1,hoth,hbel⟩:=J3 (s1:=nm) (k:=8) (b:=false) (i:=0) (u:=0) (f:=0) (s2:=⟨#[]⟩) (A:=A) (n:=kids.length) (c:=c) hr hcr
 refine JH rfl rfl (run_store er es hrun) ?_
 refine wpList_nil ?_
 simp only [Exit.then]
 refine wp_ret ?_
 exact yaa hres hd er hb1 rfl (hR _ (Kd.qn hK (fun j hj _=>hoth j hj)) (hbel _ _ hger hB))
theorem args1p {a:Act} {j f:Nat} {c v:Value} (h:a.eval (.tmp j)=v):#[Operand.const c,.tmp j,.func f].map a.eval=#[c,v,.func (.func f) #[] #[]]:=by
 have h1:a.eval (.const c)=c:=rfl
 have h2:a.eval (.func f)=.func (.func f) #[] #[]:=rfl
 simp [h,h1,h2]
theorem ycH {a:Act} {j k:Nat} {v u:Value} (h:a.eval (.tmp j)=v) (h':a.eval (.tmp k)=u):#[Operand.tmp j,.tmp k].map a.eval=#[v,u]:=by simp [h,h']
theorem args_tf {a:Act} {j f:Nat} {v:Value} (h:a.eval (.tmp j)=v):#[Operand.tmp j,.func f].map a.eval=#[v,.func (.func f) #[] #[]]:=by
 have h2:a.eval (.func f)=.func (.func f) #[] #[]:=rfl
 simp [h,h2]
theorem run_eqlptr {a:Act} {d ty pos aft gd} {w:World} {x:Nat} {p:Addr} {T:TypeId} {t2:TypeId} (hx:a.eval (.tmp x)=.pointer (some p)) (hl:∀ W:World,(binOp .eql T (.pointer (some p)) (.pointer none)).run Tryz.prog W=.ok (.bool false) W)
 (hg:∀ W:World,(eqGuard .eql T (.tmp x) (.const (.pointer none)) (.pointer (some p)) (.pointer none)).run Tryz.prog W=.ok () W) :
 (execOp a.eval ⟨d,.binOp .eql T (.tmp x) (.const (.pointer none)) t2,ty,pos,aft,gd⟩).run Tryz.prog w=.ok (.value (.bool false)) w:=by
 unfold execOp
 have h1:a.eval (.const (.pointer none))=.pointer none:=rfl
 simp [hx,h1,hl,hg]
theorem run_nilok {a:Act} {d ty pos aft gd} {w:World} {x:Nat} {p:Addr} (hx:a.eval (.tmp x)=.pointer (some p)) :
 (execOp a.eval ⟨d,.nilCheck (.tmp x),ty,pos,aft,gd⟩).run Tryz.prog w=.ok (.value (.pointer (some p))) w:=by
 unfold execOp
 simp [hx]
theorem err_skip {id k er:Nat} {sz:Nat} {X rest:Code} {Q:Exit→Act→World→Prop} {a:Act} {w:World} {d0 d1:TypeId} {p0 p1:String} {a0 a1:Array Edge}
 (hs:a.tmps.size=sz) (hk:k+1<sz) (he:a.eval (.tmp er)=.nilIface)
 (h:∀ a',a'.tmps.size=sz→a'.defers=a.defers→(∀ j:Nat,j≠k→j≠k+1→a'.eval (.tmp j)=a.eval (.tmp j))→rest.wp Tryz.prog Q a' w) :
 (Code.seq (Code.seq (.region id #[⟨some k,.move (.tmp er),d0,p0,a0,none⟩,⟨some (k+1),.binOp .neq 82 (.tmp k) (.const .nilIface) 82,d1,p1,a1,none⟩] false) (Code.cond (.tmp (k+1)) X .skip)) rest).wp Tryz.prog Q a w:=by
 refine wp_seq ?_
 refine yY ?_
 refine yq rfl (yV he) ?_
 refine yq rfl (yba (ya _ Zo) ZW) ?_
 refine Yd ?_
 refine wp_cond_false (ya _ Zs) ?_
 refine wp_skip ?_
 simp only [Exit.then]
 exact h _ (by simp only [size_put];exact hs) (by simp only [yJ]) (fun j h1 h2=>by rw [yb _ h2,yb _ h1])
end Go.Proofs.YtlmennkeggmdbaaGreatDoor
