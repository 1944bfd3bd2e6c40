/- Part 9 of 44 of the proof of the tied card of FnXfsRead. -/
import Derived.Test.YtdcaggoicdfehaaGreatDoorVz
import Derived.Test.YtdcaggoicdfehaaGreatDoorV8
set_option linter.unusedVariables false
set_option linter.unusedSimpArgs false
namespace Go.Proofs.YtdcaggoicdfehaaGreatDoor
open Go.RowKit Go.Proofs.YtdcaggoicdfehaaGreatDoorW.PrintWords Go.Proofs.YtdcaggoicdfehaaGreatDoorW.PrintLast Go.Proofs.YtdcaggoicdfehaaGreatDoorW.PrintMore
theorem yck {t:ByteArray} {l:List UInt8} (h:t.data.toList=l):t.size=l.length:=by
 rw [← h,Array.length_toList];rfl
theorem text_take {t:ByteArray} {L R:List UInt8} (h:t.data.toList=L++R):t.extract 0 L.length=⟨L.toArray⟩:=by
 apply ByteArray.ext
 rw [ByteArray.data_extract]
 apply Array.toList_inj.1
 simp [h]
theorem text_drop {t:ByteArray} {L R:List UInt8} (h:t.data.toList=L++R):t.extract L.length t.size=⟨R.toArray⟩:=by
 apply ByteArray.ext
 rw [ByteArray.data_extract]
 apply Array.toList_inj.1
 rw [yck h]
 simp [h]
theorem yda {t:ByteArray} {l:List UInt8} (h:t.data.toList=l) (i:Nat) (hi:i<t.size):t[i]'hi=l[i]'(by rw [← yck h];exact hi):=by
 subst h;rfl
theorem run_neq8 {a:Act} {d ty pos aft gd} {w:World} {x:Operand} {c:Nat} {u:Nat} (hx:a.eval x=.int .u8 u):(execOp a.eval ⟨d,.binOp .neq 5 x (.const (.int .u8 c)) 5,ty,pos,aft,gd⟩).run Tryz.prog w=.ok (.value (.bool (decide ((u:Int)≠c)))) w:=
 Jg (v:=.int .u8 c) hx rfl (by
  have:(do eqGuard .neq 5 x (.const (.int .u8 c)) (.int .u8 u) (.int .u8 c);binOp .neq 5 (.int .u8 u) (.int .u8 c):Sem Value).run Tryz.prog w=.ok (.bool (!((u:Int) == (c:Int)))) w:=by kernel_rfl
  rw [this]
  by_cases h:(u:Int)=c <;> simp [h])
theorem run_eql8 {a:Act} {d ty pos aft gd} {w:World} {x:Operand} {c:Nat} {u:Nat} (hx:a.eval x=.int .u8 u):(execOp a.eval ⟨d,.binOp .eql 5 x (.const (.int .u8 c)) 5,ty,pos,aft,gd⟩).run Tryz.prog w=.ok (.value (.bool ((u:Int) == (c:Int)))) w:=
 Jg hx rfl Zk
theorem run_geq {a:Act} {d ty pos aft gd} {w:World} {x y:Operand} {i n:Int} (hx:a.eval x=.int .i64 i) (hy:a.eval y=.int .i64 n):(execOp a.eval ⟨d,.binOp .geq 3 x y 3,ty,pos,aft,gd⟩).run Tryz.prog w=.ok (.value (.bool (decide (n≤i)))) w:=
 Jg hx hy Zk
theorem yb5 {a:Act} {d ty pos aft gd} {w:World} {x y:Operand} {i n:Int} (hx:a.eval x=.int .i64 i) (hy:a.eval y=.int .i64 n):(execOp a.eval ⟨d,.binOp .gtr 3 x y 3,ty,pos,aft,gd⟩).run Tryz.prog w=.ok (.value (.bool (decide (n<i)))) w:=
 Jg hx hy Zk
theorem run_sub {a:Act} {d ty pos aft gd} {w:World} {x y:Operand} {i n:Int} (hx:a.eval x=.int .i64 i) (hy:a.eval y=.int .i64 n):(execOp a.eval ⟨d,.binOp .sub 3 x y 3,ty,pos,aft,gd⟩).run Tryz.prog w=.ok (.value (.int .i64 (IntKind.i64.wrap (i - n)))) w:=
 Jg hx hy Zk
structure Qp (b:Nat) (w w':World):Prop where
 size:w'.heap.size=w.heap.size
 other:∀ j,j≠b→w'.heap[j]?=w.heap[j]?
 below:∀ B w0,B≤b→Below B w0 w→Below B w0 w'
theorem Qp.refl (b:Nat) (w:World):Qp b w w:=⟨rfl,fun _ _=>rfl,fun _ _ _ h=>h⟩
theorem Qp.set {b:Nat} {w w':World} (h:Qp b w w') (i:Nat) (v:Value):Qp b w (w'.setCell ⟨b,i,none⟩ v):=
 ⟨by rw [← h.size];simp [World.setCell],fun j hj=>(Below.heap_setCell _ _ _ _ (show j≠(⟨b,i,none⟩:Addr).block from hj)).trans (h.other j hj),fun B w0 hB hb=>(h.below B w0 hB hb).setCell hB _⟩
theorem Qp.drew {b:Nat} {w w':World} (h:Qp b w w'):Qp b w w'.drew:=⟨h.size,h.other,fun B w0 hB hb=>(h.below B w0 hB hb).drew⟩
set_option maxRecDepth 100000 in
set_option maxHeartbeats 1000000 in
theorem scan_end {w:World} {b:Nat} {l:ByteArray} (h:JO w b ⟨#[]⟩ l):Calls Tryz.prog 43 #[.pointer (some ⟨b,0,none⟩)] w fun e w'=>e=.returned (.bool false)∧JO w' b ⟨#[]⟩ ⟨#[]⟩∧Qp b w w':=by
 go_enter Tryz.func43,Tryz.ntmps43
 generalize ha0:(Act.mk _ _)=a0
 have hsz:a0.tmps.size=Tryz.f43.ntmps:=by rw [← ha0];rfl
 replace hsz:a0.tmps.size=108:=hsz.trans Zk
 have hdf:a0.defers=[]:=by rw [← ha0]
 have e0:a0.eval (.tmp 0)=.pointer (some ⟨b,0,none⟩):=by rw [← ha0];rfl
 clear ha0
 refine yB ?_
 refine yf rfl run_assign ?_
 refine yG ?_
 refine yB ?_
 refine yf rfl (yJ (v:=.pointer (some ⟨b,0,none⟩)) (by simp (disch:=exact Zq hsz) only [ya,yb,e0])) ?_
 refine yf rfl (Jh (p:=⟨b,0,none⟩) (by simp (disch:=exact Zq hsz) only [ya,yb,e0])) ?_
 refine yf rfl (yF (by simp (disch:=exact Zq hsz) only [ya,yb]) (qV _ b)) ?_
 refine ql rfl rfl (run_store (v:=.string ⟨#[]⟩) (by simp (disch:=exact Zq hsz) only [ya,yb]) rfl (st_line h ⟨#[]⟩)) ?_
 refine yG ?_
 have h1:=yc4 h ⟨#[]⟩
 have hT:=(Qp.refl b w).set 1 (.string ⟨#[]⟩)
 generalize (w.setCell ⟨b,1,none⟩ (.string ⟨#[]⟩))=w1 at h1 hT ⊢
 simp only
 generalize hb0:(Act.put _ (some 6) _)=c0
 have cs:c0.tmps.size=108:=by rw [← hb0];simp only [size_put];exact hsz
 have cd:c0.defers=[]:=by rw [← hb0];simp only [yq];exact hdf
 have c00:c0.eval (.tmp 0)=.pointer (some ⟨b,0,none⟩):=by rw [← hb0];simp (disch:=decide) only [yb,e0]
 clear hb0
 refine wp_seq ?_
 refine wp_seq ?_
 refine wp_region_list (Q5 ?_)
 refine Yh rfl (yJ (v:=.pointer (some ⟨b,0,none⟩)) (by simp (disch:=exact Zq cs) only [ya,yb,c00])) ?_
 refine Yh rfl (Jh (p:=⟨b,0,none⟩) (by simp (disch:=exact Zq cs) only [ya,yb,c00])) ?_
 refine Yh rfl (yF (by simp (disch:=exact Zq cs) only [ya,yb,c00]) (yce _ b)) ?_
 refine Yh rfl (run_load (by simp (disch:=exact Zq cs) only [ya,yb,c00]) (ld_err h1)) ?_
 refine Yh rfl (qU (by simp (disch:=exact Zq cs) only [ya,yb,c00]) ZW) ?_
 refine Yh rfl (yJ (v:=.bool false) (by simp (disch:=exact Zq cs) only [ya,yb,c00])) ?_
 refine Yo (Yc (d:=12) rfl rfl rfl (by simp only [size_put,cs];decide) (by simp (disch:=exact Zq cs) only [ya,yb,c00])) (yJ (v:=.pointer (some ⟨b,0,none⟩)) (by simp (disch:=exact Zq cs) only [ya,yb,c00])) ?_
 refine Yo (Yc (d:=12) rfl rfl rfl (by simp only [size_put,cs];decide) (by simp (disch:=exact Zq cs) only [ya,yb,c00])) (Jh (p:=⟨b,0,none⟩) (by simp (disch:=exact Zq cs) only [ya,yb,c00])) ?_
 refine Yo (Yc (d:=12) rfl rfl rfl (by simp only [size_put,cs];decide) (by simp (disch:=exact Zq cs) only [ya,yb,c00])) (yF (by simp (disch:=exact Zq cs) only [ya,yb,c00]) (Qi _ b)) ?_
 refine Yo (Yc (d:=12) rfl rfl rfl (by simp only [size_put,cs];decide) (by simp (disch:=exact Zq cs) only [ya,yb,c00])) (run_load (by simp (disch:=exact Zq cs) only [ya,yb,c00]) (yax h1)) ?_
 refine Yo (Yc (d:=12) rfl rfl rfl (by simp only [size_put,cs];decide) (by simp (disch:=exact Zq cs) only [ya,yb,c00])) (run_seq (s:=⟨#[]⟩) (by simp (disch:=exact Zq cs) only [ya,yb,c00])) ?_
 refine Yh rfl (Jr (b:=false) (by simp (disch:=exact Zq cs) only [ya,yb,c00])) ?_
 refine yaV ?_
 refine wp_cond_true (?_:_=Value.bool true) ?_
 · simp (disch:=exact Zq cs) only [ya,yb]
   rw [if_neg Zd];simp
 refine yB ?_
 refine yf rfl run_assign ?_
 refine yG ?_
 refine wp_ret ?_
 simp only [Exit.then]
 refine Y8 (v:=.bool false) rfl (by simp only [yq];exact cd) (ya _ (by simp only [size_put,cs];decide)) ⟨rfl,h1,hT⟩
set_option maxRecDepth 100000 in
set_option maxHeartbeats 2000000 in
theorem scan_line {w:World} {b:Nat} {t l:ByteArray} {L R:List UInt8} (h:JO w b t l) (ht:t.data.toList=L++10::R) (hL:∀ x ∈ L,x≠10) (hne:L≠[]) (hlast:∀ x,L.getLast?=some x→x≠13) (hlen:L.length<65536) :
 Calls Tryz.prog 43 #[.pointer (some ⟨b,0,none⟩)] w fun e w'=>e=.returned (.bool true)∧JO w' b ⟨R.toArray⟩ ⟨L.toArray⟩∧Qp b w w':=by
 have hts:t.size=L.length+1+R.length:=by rw [yck ht];simp;omega
 go_enter Tryz.func43,Tryz.ntmps43
 generalize ha0:(Act.mk _ _)=a0
 have hsz:a0.tmps.size=Tryz.f43.ntmps:=by rw [← ha0];rfl
 replace hsz:a0.tmps.size=108:=hsz.trans Zk
 have hdf:a0.defers=[]:=by rw [← ha0]
 have e0:a0.eval (.tmp 0)=.pointer (some ⟨b,0,none⟩):=by rw [← ha0];rfl
 clear ha0
 refine yB ?_
 refine yf rfl run_assign ?_
 refine yG ?_
 refine yB ?_
 refine yf rfl (yJ (v:=.pointer (some ⟨b,0,none⟩)) (by simp (disch:=exact Zq hsz) only [ya,yb,e0])) ?_
 refine yf rfl (Jh (p:=⟨b,0,none⟩) (by simp (disch:=exact Zq hsz) only [ya,yb,e0])) ?_
 refine yf rfl (yF (by simp (disch:=exact Zq hsz) only [ya,yb]) (qV _ b)) ?_
 refine ql rfl rfl (run_store (v:=.string ⟨#[]⟩) (by simp (disch:=exact Zq hsz) only [ya,yb]) rfl (st_line h ⟨#[]⟩)) ?_
 refine yG ?_
 have h1:=yc4 h ⟨#[]⟩
 have hT:=(Qp.refl b w).set 1 (.string ⟨#[]⟩)
 generalize (w.setCell ⟨b,1,none⟩ (.string ⟨#[]⟩))=w1 at h1 hT ⊢
 simp only
 generalize hb0:(Act.put _ (some 6) _)=c0
 have cs:c0.tmps.size=108:=by rw [← hb0];simp only [size_put];exact hsz
 have cd:c0.defers=[]:=by rw [← hb0];simp only [yq];exact hdf
 have c00:c0.eval (.tmp 0)=.pointer (some ⟨b,0,none⟩):=by rw [← hb0];simp (disch:=decide) only [yb,e0]
 clear hb0
 refine wp_seq ?_
 refine wp_seq ?_
 refine wp_region_list (Q5 ?_)
 refine Yh rfl (yJ (v:=.pointer (some ⟨b,0,none⟩)) (by simp (disch:=exact Zq cs) only [ya,yb,c00])) ?_
 refine Yh rfl (Jh (p:=⟨b,0,none⟩) (by simp (disch:=exact Zq cs) only [ya,yb,c00])) ?_
 refine Yh rfl (yF (by simp (disch:=exact Zq cs) only [ya,yb,c00]) (yce _ b)) ?_
 refine Yh rfl (run_load (by simp (disch:=exact Zq cs) only [ya,yb,c00]) (ld_err h1)) ?_
 refine Yh rfl (qU (by simp (disch:=exact Zq cs) only [ya,yb,c00]) ZW) ?_
 refine Yh rfl (yJ (v:=.bool false) (by simp (disch:=exact Zq cs) only [ya,yb,c00])) ?_
 refine Yo (Yc (d:=12) rfl rfl rfl (by simp only [size_put,cs];decide) (by simp (disch:=exact Zq cs) only [ya,yb,c00])) (yJ (v:=.pointer (some ⟨b,0,none⟩)) (by simp (disch:=exact Zq cs) only [ya,yb,c00])) ?_
 refine Yo (Yc (d:=12) rfl rfl rfl (by simp only [size_put,cs];decide) (by simp (disch:=exact Zq cs) only [ya,yb,c00])) (Jh (p:=⟨b,0,none⟩) (by simp (disch:=exact Zq cs) only [ya,yb,c00])) ?_
 refine Yo (Yc (d:=12) rfl rfl rfl (by simp only [size_put,cs];decide) (by simp (disch:=exact Zq cs) only [ya,yb,c00])) (yF (by simp (disch:=exact Zq cs) only [ya,yb,c00]) (Qi _ b)) ?_
 refine Yo (Yc (d:=12) rfl rfl rfl (by simp only [size_put,cs];decide) (by simp (disch:=exact Zq cs) only [ya,yb,c00])) (run_load (by simp (disch:=exact Zq cs) only [ya,yb,c00]) (yax h1)) ?_
 refine Yo (Yc (d:=12) rfl rfl rfl (by simp only [size_put,cs];decide) (by simp (disch:=exact Zq cs) only [ya,yb,c00])) (run_seq (s:=t) (by simp (disch:=exact Zq cs) only [ya,yb,c00])) ?_
 refine Yh rfl (Jr (b:=false) (by simp (disch:=exact Zq cs) only [ya,yb,c00])) ?_
 refine yaV ?_
 refine wp_cond_false (?_:_=Value.bool false) ?_
 · simp (disch:=exact Zq cs) only [ya,yb]
   have:¬ (t.toList=[]):=fun e=>by
    have:=congrArg List.length e
    rw [ByteArray.toList_eq] at this
    simp [ht] at this
   rw [if_neg Zd]
   simp only [Value.bool.injEq,beq_eq_false_iff_ne,ne_eq]
   intro e
   exact this (by rw [e];simp)
 refine wp_skip ?_
 simp only [Exit.then]
 generalize hd0:(Act.put _ (some 18) _)=d0
 have ds:d0.tmps.size=108:=by rw [← hd0];simp only [size_put];exact cs
 have dd:d0.defers=[]:=by rw [← hd0];simp only [yq];exact cd
 have d00:d0.eval (.tmp 0)=.pointer (some ⟨b,0,none⟩):=by rw [← hd0];simp (disch:=decide) only [yb,c00]
 clear hd0
 refine yB ?_
 refine yf rfl run_assign ?_
 refine yG ?_
 refine wp_seq ?_
 refine wp_block ?_
 refine wp_loop_ghost (fun r a w'=>∃ m,r=L.length - m∧m≤L.length∧a.tmps.size=108∧a.defers=[]∧a.eval (.tmp 0)=.pointer (some ⟨b,0,none⟩)∧a.eval (.tmp 3)=.int .i64 m∧w'=w1) L.length ⟨0,rfl,Nat.zero_le _,by simp only [size_put];exact ds,by simp only [yq];exact dd,(yb _ Zd).trans d00,ya _ (by rw [ds];decide),rfl⟩ ?_
 rintro r m0 wr ⟨m,rfl,hm,ms,md,m00,m3,rfl⟩
 refine wp_seq ?_
 refine wp_seq ?_
 refine wp_region_list (Q5 ?_)
 refine Yh rfl (yJ (v:=.int .i64 m) (by simp (disch:=exact Zq ms) only [ya,yb,m3])) ?_
 refine Yh rfl (yJ (v:=.pointer (some ⟨b,0,none⟩)) (by simp (disch:=exact Zq ms) only [ya,yb,m00])) ?_
 refine Yh rfl (Jh (p:=⟨b,0,none⟩) (by simp (disch:=exact Zq ms) only [ya,yb,m00])) ?_
 refine Yh rfl (yF (by simp (disch:=exact Zq ms) only [ya,yb]) (Qi _ b)) ?_
 refine Yh rfl (run_load (by simp (disch:=exact Zq ms) only [ya,yb]) (yax h1)) ?_
 refine Yh rfl (Qh (s:=t) (by simp (disch:=exact Zq ms) only [ya,yb])) ?_
 refine Yh rfl (Q4 (i:=m) (n:=t.size) (by simp (disch:=exact Zq ms) only [ya,yb,m3]) (by simp (disch:=exact Zq ms) only [ya,yb])) ?_
 rw [decide_eq_true (show (m:Int)<t.size by omega)]
 refine Yh rfl (yJ (v:=.bool true) (by simp (disch:=exact Zq ms) only [ya,yb])) ?_
 refine Yo (Yc (d:=26) rfl rfl rfl (by simp only [size_put,ms];decide) (by simp (disch:=exact Zq ms) only [ya,yb])) (yJ (v:=.pointer (some ⟨b,0,none⟩)) (by simp (disch:=exact Zq ms) only [ya,yb,m00])) ?_
 refine Yo (Yc (d:=26) rfl rfl rfl (by simp only [size_put,ms];decide) (by simp (disch:=exact Zq ms) only [ya,yb])) (Jh (p:=⟨b,0,none⟩) (by simp (disch:=exact Zq ms) only [ya,yb,m00])) ?_
 refine Yo (Yc (d:=26) rfl rfl rfl (by simp only [size_put,ms];decide) (by simp (disch:=exact Zq ms) only [ya,yb])) (yF (by simp (disch:=exact Zq ms) only [ya,yb]) (Qi _ b)) ?_
 refine Yo (Yc (d:=26) rfl rfl rfl (by simp only [size_put,ms];decide) (by simp (disch:=exact Zq ms) only [ya,yb])) (run_load (by simp (disch:=exact Zq ms) only [ya,yb]) (yax h1)) ?_
 refine Yo (Yc (d:=26) rfl rfl rfl (by simp only [size_put,ms];decide) (by simp (disch:=exact Zq ms) only [ya,yb])) (yJ (v:=.int .i64 m) (by simp (disch:=exact Zq ms) only [ya,yb,m3])) ?_
 refine Yo (Yc (d:=26) rfl rfl rfl (by simp only [size_put,ms];decide) (by simp (disch:=exact Zq ms) only [ya,yb])) (run_sidx (s:=t) (i:=m) (by simp (disch:=exact Zq ms) only [ya,yb]) (by simp (disch:=exact Zq ms) only [ya,yb,m3]) Zo) ?_
 refine Yo (Yc (d:=26) rfl rfl rfl (by simp only [size_put,ms];decide) (by simp (disch:=exact Zq ms) only [ya,yb])) (run_neq8 (c:=10) (u:=(t[m]'(by omega)).toNat) (by simp (disch:=exact Zq ms) only [ya,yb])) ?_
 refine Yh rfl (Jr (b:=true) (by simp (disch:=exact Zq ms) only [ya,yb])) ?_
 refine yaV ?_
 by_cases hmn:m<L.length
 · refine wp_cond_true (?_:_=Value.bool true) ?_
   · simp (disch:=exact Zq ms) only [ya,yb,if_true]
     rw [yda ht m Zo]
     have hx:=hL _ (List.getElem_mem hmn)
     rw [List.getElem_append_left hmn,decide_eq_true]
     intro e
     exact hx (UInt8.toNat_inj.1 (by show _=10;omega))
   refine wp_skip ?_
   simp only [Exit.then]
   refine wp_block ?_
   refine wp_region_list (J5 ?_)
   refine yf rfl (yJ (v:=.int .i64 m) (by simp (disch:=exact Zq ms) only [ya,yb,m3])) ?_
   refine yf rfl (ya9 (i:=m) (by simp (disch:=exact Zq ms) only [ya,yb,m3]) rfl) ?_
   refine yf rfl run_assign ?_
   refine yG ?_
   simp only [Exit.inBlock]
   refine ⟨L.length - (m+1),by omega,m+1,rfl,hmn,by simp only [size_put];exact ms,by simp only [yq];exact md,(by simp (disch:=exact Zq ms) only [ya,yb,m00]),?_,rfl⟩
   simp (disch:=exact Zq ms) only [ya,yb]
   rw [wrap_i64 Zo Zo];rfl
 · have hme:m=L.length:=by omega
   subst hme
   refine wp_cond_false (?_:_=Value.bool false) ?_
   · simp (disch:=exact Zq ms) only [ya,yb,if_true]
     rw [yda ht L.length Zo]
     simp
   refine wp_exit ?_
   simp only [Exit.then,Exit.inBlock,if_true]
   generalize hf0:(Act.put _ (some 34) _)=f0
   have fs:f0.tmps.size=108:=by rw [← hf0];simp only [size_put];exact ms
   have fd:f0.defers=[]:=by rw [← hf0];simp only [yq];exact md
   have f00:f0.eval (.tmp 0)=.pointer (some ⟨b,0,none⟩):=by rw [← hf0];simp (disch:=decide) only [yb,m00]
   have f3:f0.eval (.tmp 3)=.int .i64 L.length:=by rw [← hf0];simp (disch:=decide) only [yb,m3]
   clear hf0 m3 m00 md ms
   refine wp_seq ?_
   refine yB ?_
   refine yf rfl (yJ (v:=.int .i64 L.length) (by simp (disch:=exact Zq fs) only [ya,yb,f3])) ?_
   refine yf rfl (yJ (v:=.pointer (some ⟨b,0,none⟩)) (by simp (disch:=exact Zq fs) only [ya,yb,f00])) ?_
   refine yf rfl (Jh (p:=⟨b,0,none⟩) (by simp (disch:=exact Zq fs) only [ya,yb,f00])) ?_
   refine yf rfl (yF (by simp (disch:=exact Zq fs) only [ya,yb]) (fa_lines2 _ b)) ?_
   refine yf rfl (run_load (by simp (disch:=exact Zq fs) only [ya,yb]) (ld_most h1)) ?_
   refine yf rfl (run_geq (i:=L.length) (n:=65536) (by simp (disch:=exact Zq fs) only [ya,yb,f3]) (by simp (disch:=exact Zq fs) only [ya,yb])) ?_
   rw [decide_eq_false Zo]
   refine yG ?_
   refine wp_cond_false (by simp (disch:=exact Zq fs) only [ya,yb]) ?_
   refine wp_skip ?_
   simp only [Exit.then]
   refine yB ?_
   refine yf rfl (yJ (v:=.pointer (some ⟨b,0,none⟩)) (by simp (disch:=exact Zq fs) only [ya,yb,f00])) ?_
   refine yf rfl (yJ (v:=.pointer (some ⟨b,0,none⟩)) (by simp (disch:=exact Zq fs) only [ya,yb,f00])) ?_
   refine yf rfl (Jh (p:=⟨b,0,none⟩) (by simp (disch:=exact Zq fs) only [ya,yb,f00])) ?_
   refine yf rfl (yF (by simp (disch:=exact Zq fs) only [ya,yb]) (Qi _ b)) ?_
   refine yf rfl (run_load (by simp (disch:=exact Zq fs) only [ya,yb]) (yax h1)) ?_
   refine yf rfl (yJ (v:=.int .i64 L.length) (by simp (disch:=exact Zq fs) only [ya,yb,f3])) ?_
   refine yf rfl (run_sto (s:=t) (n:=L.length) (by simp (disch:=exact Zq fs) only [ya,yb]) (by simp (disch:=exact Zq fs) only [ya,yb,f3]) Zo) ?_
   refine yf rfl (Jh (p:=⟨b,0,none⟩) (by simp (disch:=exact Zq fs) only [ya,yb,f00])) ?_
   refine yf rfl (yF (by simp (disch:=exact Zq fs) only [ya,yb]) (qV _ b)) ?_
   refine ql rfl rfl (run_store (v:=.string ⟨L.toArray⟩) (by simp (disch:=exact Zq fs) only [ya,yb]) ?_ (st_line h1 ⟨L.toArray⟩)) ?_
   · simp (disch:=exact Zq fs) only [ya,yb]
     rw [text_take ht]
   refine yG ?_
   have h2:=yc4 h1 ⟨L.toArray⟩
   have hT2:=hT.set 1 (.string ⟨L.toArray⟩)
   generalize (World.setCell _ ⟨b,1,none⟩ (.string ⟨L.toArray⟩))=w2 at h2 hT2 ⊢
   refine wp_seq ?_
   refine yB ?_
   refine yf rfl (yJ (v:=.int .i64 L.length) (by simp (disch:=exact Zq fs) only [ya,yb,f3])) ?_
   refine yf rfl (yJ (v:=.pointer (some ⟨b,0,none⟩)) (by simp (disch:=exact Zq fs) only [ya,yb,f00])) ?_
   refine yf rfl (Jh (p:=⟨b,0,none⟩) (by simp (disch:=exact Zq fs) only [ya,yb,f00])) ?_
   refine yf rfl (yF (by simp (disch:=exact Zq fs) only [ya,yb]) (Qi _ b)) ?_
   refine yf rfl (run_load (by simp (disch:=exact Zq fs) only [ya,yb]) (yax h2)) ?_
   refine yf rfl (Qh (s:=t) (by simp (disch:=exact Zq fs) only [ya,yb])) ?_
   refine yf rfl (Q4 (i:=L.length) (n:=t.size) (by simp (disch:=exact Zq fs) only [ya,yb,f3]) (by simp (disch:=exact Zq fs) only [ya,yb])) ?_
   rw [decide_eq_true (show (L.length:Int)<t.size by omega)]
   refine yG ?_
   refine wp_cond_true (by simp (disch:=exact Zq fs) only [ya,yb]) ?_
   refine wp_region_list (J5 ?_)
   refine yf rfl (yJ (v:=.int .i64 L.length) (by simp (disch:=exact Zq fs) only [ya,yb,f3])) ?_
   refine yf rfl (ya9 (i:=L.length) (by simp (disch:=exact Zq fs) only [ya,yb,f3]) rfl) ?_
   refine yf rfl run_assign ?_
   refine yG ?_
   simp only [Exit.then]
   generalize hg0:(Act.put _ (some 3) _)=g0
   have gs:g0.tmps.size=108:=by rw [← hg0];simp only [size_put];exact fs
   have gd:g0.defers=[]:=by rw [← hg0];simp only [yq];exact fd
   have g00:g0.eval (.tmp 0)=.pointer (some ⟨b,0,none⟩):=by rw [← hg0];simp (disch:=decide) only [yb,f00]
   have g3:g0.eval (.tmp 3)=.int .i64 ((L.length+1:Nat):Int):=by
    rw [← hg0]
    simp (disch:=exact Zq fs) only [ya,yb]
    rw [wrap_i64 Zo Zo];rfl
   clear hg0
   refine yB ?_
   refine yf rfl (yJ (v:=.pointer (some ⟨b,0,none⟩)) (by simp (disch:=exact Zq gs) only [ya,yb,g00])) ?_
   refine yf rfl (yJ (v:=.pointer (some ⟨b,0,none⟩)) (by simp (disch:=exact Zq gs) only [ya,yb,g00])) ?_
   refine yf rfl (Jh (p:=⟨b,0,none⟩) (by simp (disch:=exact Zq gs) only [ya,yb,g00])) ?_
   refine yf rfl (yF (by simp (disch:=exact Zq gs) only [ya,yb]) (Qi _ b)) ?_
   refine yf rfl (run_load (by simp (disch:=exact Zq gs) only [ya,yb]) (yax h2)) ?_
   refine yf rfl (yJ (v:=.int .i64 ((L.length+1:Nat):Int)) (by simp (disch:=exact Zq gs) only [ya,yb,g3])) ?_
   refine yf rfl (run_sfrom (s:=t) (n:=L.length+1) (by simp (disch:=exact Zq gs) only [ya,yb]) (by simp (disch:=exact Zq gs) only [ya,yb,g3]) Zo) ?_
   refine yf rfl (Jh (p:=⟨b,0,none⟩) (by simp (disch:=exact Zq gs) only [ya,yb,g00])) ?_
   refine yf rfl (yF (by simp (disch:=exact Zq gs) only [ya,yb]) (Qi _ b)) ?_
   refine ql rfl rfl (run_store (v:=.string ⟨R.toArray⟩) (by simp (disch:=exact Zq gs) only [ya,yb]) ?_ (st_text h2 ⟨R.toArray⟩)) ?_
   · simp (disch:=exact Zq gs) only [ya,yb]
     have:=text_drop (t:=t) (L:=L++[10]) (R:=R) (by rw [ht];simp)
     rw [List.length_append] at this
     exact congrArg Value.string this
   refine yG ?_
   have h3:=set_text h2 ⟨R.toArray⟩
   have hT3:=hT2.set 0 (.string ⟨R.toArray⟩)
   generalize (World.setCell _ ⟨b,0,none⟩ (.string ⟨R.toArray⟩))=w3 at h3 hT3 ⊢
   simp only
   generalize hk0:(Act.put _ (some 73) _)=k0
   have ks:k0.tmps.size=108:=by rw [← hk0];simp only [size_put];exact gs
   have kd:k0.defers=[]:=by rw [← hk0];simp only [yq];exact gd
   have k00:k0.eval (.tmp 0)=.pointer (some ⟨b,0,none⟩):=by rw [← hk0];simp (disch:=decide) only [yb,g00]
   clear hk0
   refine wp_seq ?_
   have hpos:0<L.length:=List.length_pos_iff.2 hne
   have hls:(⟨L.toArray⟩:ByteArray).size=L.length:=by simp [ByteArray.size]
   refine early_all (k:=74) (n:=20) (B:=[0,1,2,4,8,16,32,64,192,320,576,64,2112,4160,8256,16448,32832,66624,131136,262208])
    (Y:=fun i=>[Value.pointer (some ⟨b,0,none⟩),.pointer (some ⟨b,0,none⟩),.pointer (some ⟨b,1,none⟩),.string ⟨L.toArray⟩,.int .i64 L.length,.bool true,.bool true,.pointer (some ⟨b,0,none⟩),.pointer (some ⟨b,0,none⟩),.pointer (some ⟨b,1,none⟩),.string ⟨L.toArray⟩,.pointer (some ⟨b,0,none⟩),.pointer (some ⟨b,0,none⟩),.pointer (some ⟨b,1,none⟩),.string ⟨L.toArray⟩,.int .i64 L.length,.int .i64 ((L.length - 1:Nat):Int),.int .u8 ((L.getLast hne).toNat:Int),.bool false,.bool false].getD i undef) Zk rfl Zk Zk Zd Zk ?_ ?_ Zo ?_
   · intro i o hi ho
     match i,hi with
     | 0,_|1,_|2,_|3,_|4,_|5,_|6,_|19,_=>obtain rfl:=Option.some.inj ho;exact .inl rfl
     | 7,_|8,_|9,_|10,_|11,_|12,_|13,_|14,_|15,_|16,_|17,_|18,_=>obtain rfl:=Option.some.inj ho;exact .inr ⟨6,true,rfl,by decide,rfl⟩
   · intro i o hi ho a' hgot hold W hW
     have h3':JO W b ⟨R.toArray⟩ ⟨L.toArray⟩:=by unfold JO;rw [hW];exact h3
     match i,hi with
     | 0,_|7,_|11,_=>
      obtain rfl:=Option.some.inj ho
      exact yJ ((hold 0 Zd).trans k00)
     | 1,_=>obtain rfl:=Option.some.inj ho;exact Jh (hgot 0 Zd)
     | 8,_=>obtain rfl:=Option.some.inj ho;exact Jh (hgot 7 Zd)
     | 12,_=>obtain rfl:=Option.some.inj ho;exact Jh (hgot 11 Zd)
     | 2,_=>obtain rfl:=Option.some.inj ho;exact yF (hgot 1 Zd) (qV _ b)
     | 9,_=>obtain rfl:=Option.some.inj ho;exact yF (hgot 8 Zd) (qV _ b)
     | 13,_=>obtain rfl:=Option.some.inj ho;exact yF (hgot 12 Zd) (qV _ b)
     | 3,_=>obtain rfl:=Option.some.inj ho;exact run_load (hgot 2 Zd) (ycH h3')
     | 10,_=>obtain rfl:=Option.some.inj ho;exact run_load (hgot 9 Zd) (ycH h3')
     | 14,_=>obtain rfl:=Option.some.inj ho;exact run_load (hgot 13 Zd) (ycH h3')
     | 4,_=>obtain rfl:=Option.some.inj ho;exact Qh (hgot 3 Zd)
     | 15,_=>obtain rfl:=Option.some.inj ho;exact Qh (hgot 14 Zd)
     | 5,_=>
      obtain rfl:=Option.some.inj ho
      refine (yb5 (i:=L.length) (n:=0) (hgot 4 Zd) rfl).trans ?_
      rw [decide_eq_true Zo];rfl
     | 6,_=>obtain rfl:=Option.some.inj ho;exact yJ (hgot 5 Zd)
     | 16,_=>
      obtain rfl:=Option.some.inj ho
      refine (run_sub (i:=L.length) (n:=1) (hgot 15 Zd) rfl).trans ?_
      rw [wrap_i64 Zo Zo]
      have:(L.length:Int) - 1=((L.length - 1:Nat):Int):=by omega
      rw [this];rfl
     | 17,_=>
      obtain rfl:=Option.some.inj ho
      refine (run_sidx (s:=⟨L.toArray⟩) (i:=L.length - 1) (hgot 10 Zd) (hgot 16 Zd) (by rw [hls];omega)).trans ?_
      rw [yda (t:=⟨L.toArray⟩) (l:=L) (by simp) _ (by rw [hls];omega)]
      simp [List.getLast_eq_getElem]
     | 18,_=>
      obtain rfl:=Option.some.inj ho
      refine (run_eql8 (c:=13) (u:=(L.getLast hne).toNat) (hgot 17 Zd)).trans ?_
      have hx:=hlast _ (List.getLast?_eq_some_getLast hne)
      have:(((L.getLast hne).toNat:Int) == ((13:Nat):Int))=false:=by
       rw [beq_eq_false_iff_ne]
       intro e
       exact hx (UInt8.toNat_inj.1 (by show _=13;omega))
      rw [this];rfl
     | 19,_=>
      obtain rfl:=Option.some.inj ho
      refine (Jr (b:=true) (hgot 6 Zd)).trans ?_
      rw [if_pos rfl]
      exact congrArg (fun v=>Result.ok (Next.value v) W) (hgot 18 Zd)
   · intro a' hs hdd hold hgot
     refine wp_cond_false (hgot 19 Zd) ?_
     refine wp_skip ?_
     simp only [Exit.then]
     refine yB ?_
     refine yf rfl run_assign ?_
     refine yG ?_
     refine wp_ret ?_
     refine Y8 (v:=.bool true) rfl (by simp only [yq];rw [hdd];exact kd) (ya _ (by rw [hs,ks];decide)) ⟨rfl,h3,hT3.drew⟩
end Go.Proofs.YtdcaggoicdfehaaGreatDoor
