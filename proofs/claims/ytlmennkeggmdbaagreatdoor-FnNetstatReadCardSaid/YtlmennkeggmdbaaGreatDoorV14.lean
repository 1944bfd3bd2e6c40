/- Part 14 of 34 of the proof of the tied card of FnNetstatRead. -/
import Derived.Test.YtlmennkeggmdbaaGreatDoorVz
import Derived.Test.YtlmennkeggmdbaaGreatDoorV4
import Derived.Test.YtlmennkeggmdbaaGreatDoorV13
import Derived.Test.YtlmennkeggmdbaaGreatDoorV6
set_option linter.unusedVariables false
set_option linter.unusedSimpArgs false
namespace Go.Proofs.YtlmennkeggmdbaaGreatDoor
open Go.RowKit Go.Proofs.YtlmennkeggmdbaaGreatDoorW.PrintWords Go.Proofs.YtlmennkeggmdbaaGreatDoorW.PrintLast Go.Proofs.YtlmennkeggmdbaaGreatDoorW.PrintMore
theorem ycn {t:ByteArray} {l:List UInt8} (h:t.data.toList=l):t.size=l.length:=by
 rw [← h,Array.length_toList];rfl
theorem text_take {t:ByteArray} {L R:List UInt8} (h:t.data.toList=L++R):t.extract 0 L.length=⟨L.toArray⟩:=by
 apply ByteArray.ext
 rw [ByteArray.data_extract]
 apply Array.toList_inj.1
 simp [h]
theorem text_drop {t:ByteArray} {L R:List UInt8} (h:t.data.toList=L++R):t.extract L.length t.size=⟨R.toArray⟩:=by
 apply ByteArray.ext
 rw [ByteArray.data_extract]
 apply Array.toList_inj.1
 rw [ycn h]
 simp [h]
theorem ydw {t:ByteArray} {l:List UInt8} (h:t.data.toList=l) (i:Nat) (hi:i<t.size):t[i]'hi=l[i]'(by rw [← ycn h];exact hi):=by
 subst h;rfl
theorem run_neq8 {a:Act} {d ty pos aft gd} {w:World} {x:Operand} {c:Nat} {u:Nat} (hx:a.eval x=.int .u8 u):(execOp a.eval ⟨d,.binOp .neq 5 x (.const (.int .u8 c)) 5,ty,pos,aft,gd⟩).run Tryz.prog w=.ok (.value (.bool (decide ((u:Int)≠c)))) w:=
 Y0 (v:=.int .u8 c) hx rfl (by
  have:(do eqGuard .neq 5 x (.const (.int .u8 c)) (.int .u8 u) (.int .u8 c);binOp .neq 5 (.int .u8 u) (.int .u8 c):Sem Value).run Tryz.prog w=.ok (.bool (!((u:Int) == (c:Int)))) w:=by kernel_rfl
  rw [this]
  by_cases h:(u:Int)=c <;> simp [h])
theorem run_eql8 {a:Act} {d ty pos aft gd} {w:World} {x:Operand} {c:Nat} {u:Nat} (hx:a.eval x=.int .u8 u):(execOp a.eval ⟨d,.binOp .eql 5 x (.const (.int .u8 c)) 5,ty,pos,aft,gd⟩).run Tryz.prog w=.ok (.value (.bool ((u:Int) == (c:Int)))) w:=
 Y0 hx rfl Zk
theorem run_geq {a:Act} {d ty pos aft gd} {w:World} {x y:Operand} {i n:Int} (hx:a.eval x=.int .i64 i) (hy:a.eval y=.int .i64 n):(execOp a.eval ⟨d,.binOp .geq 3 x y 3,ty,pos,aft,gd⟩).run Tryz.prog w=.ok (.value (.bool (decide (n≤i)))) w:=
 Y0 hx hy Zk
theorem ycP {a:Act} {d ty pos aft gd} {w:World} {x y:Operand} {i n:Int} (hx:a.eval x=.int .i64 i) (hy:a.eval y=.int .i64 n):(execOp a.eval ⟨d,.binOp .gtr 3 x y 3,ty,pos,aft,gd⟩).run Tryz.prog w=.ok (.value (.bool (decide (n<i)))) w:=
 Y0 hx hy Zk
theorem run_sub {a:Act} {d ty pos aft gd} {w:World} {x y:Operand} {i n:Int} (hx:a.eval x=.int .i64 i) (hy:a.eval y=.int .i64 n):(execOp a.eval ⟨d,.binOp .sub 3 x y 3,ty,pos,aft,gd⟩).run Tryz.prog w=.ok (.value (.int .i64 (IntKind.i64.wrap (i - n)))) w:=
 Y0 hx hy Zk
structure JQ (b:Nat) (w w':World):Prop where
 size:w'.heap.size=w.heap.size
 other:∀ j,j≠b→w'.heap[j]?=w.heap[j]?
 below:∀ B w0,B≤b→Below B w0 w→Below B w0 w'
theorem JQ.refl (b:Nat) (w:World):JQ b w w:=⟨rfl,fun _ _=>rfl,fun _ _ _ h=>h⟩
theorem JQ.set {b:Nat} {w w':World} (h:JQ b w w') (i:Nat) (v:Value):JQ b w (w'.setCell ⟨b,i,none⟩ v):=
 ⟨by rw [← h.size];simp [World.setCell],fun j hj=>(Below.heap_setCell _ _ _ _ (show j≠(⟨b,i,none⟩:Addr).block from hj)).trans (h.other j hj),fun B w0 hB hb=>(h.below B w0 hB hb).setCell hB _⟩
theorem JQ.drew {b:Nat} {w w':World} (h:JQ b w w'):JQ b w w'.drew:=⟨h.size,h.other,fun B w0 hB hb=>(h.below B w0 hB hb).drew⟩
set_option maxRecDepth 100000 in
set_option maxHeartbeats 1000000 in
theorem scan_end {w:World} {b:Nat} {l:ByteArray} (h:qk w b ⟨#[]⟩ l):Calls Tryz.prog 54 #[.pointer (some ⟨b,0,none⟩)] w fun e w'=>e=.returned (.bool false)∧qk w' b ⟨#[]⟩ ⟨#[]⟩∧JQ b w w':=by
 go_enter Tryz.func54,Tryz.ntmps54
 generalize ha0:(Act.mk _ _)=a0
 have hsz:a0.tmps.size=Tryz.f54.ntmps:=by rw [← ha0];rfl
 replace hsz:a0.tmps.size=108:=hsz.trans Zk
 have hdf:a0.defers=[]:=by rw [← ha0]
 have e0:a0.eval (.tmp 0)=.pointer (some ⟨b,0,none⟩):=by rw [← ha0];rfl
 clear ha0
 refine yY ?_
 refine yq rfl run_assign ?_
 refine Yd ?_
 refine yY ?_
 refine yq rfl (yV (v:=.pointer (some ⟨b,0,none⟩)) (by simp (disch:=exact Zq hsz) only [ya,yb,e0])) ?_
 refine yq rfl (Y4 (p:=⟨b,0,none⟩) (by simp (disch:=exact Zq hsz) only [ya,yb,e0])) ?_
 refine yq rfl (yG (by simp (disch:=exact Zq hsz) only [ya,yb]) (Qg _ b)) ?_
 refine yal rfl rfl (run_store (v:=.string ⟨#[]⟩) (by simp (disch:=exact Zq hsz) only [ya,yb]) rfl (st_line h ⟨#[]⟩)) ?_
 refine Yd ?_
 have h1:=ydr h ⟨#[]⟩
 have hT:=(JQ.refl b w).set 1 (.string ⟨#[]⟩)
 generalize (w.setCell ⟨b,1,none⟩ (.string ⟨#[]⟩))=w1 at h1 hT ⊢
 simp only
 generalize hb0:(Act.put _ (some 6) _)=c0
 have cs:c0.tmps.size=108:=by rw [← hb0];simp only [size_put];exact hsz
 have cd:c0.defers=[]:=by rw [← hb0];simp only [yJ];exact hdf
 have c00:c0.eval (.tmp 0)=.pointer (some ⟨b,0,none⟩):=by rw [← hb0];simp (disch:=decide) only [yb,e0]
 clear hb0
 refine wp_seq ?_
 refine wp_seq ?_
 refine wp_region_list (ya4 ?_)
 refine YG rfl (yV (v:=.pointer (some ⟨b,0,none⟩)) (by simp (disch:=exact Zq cs) only [ya,yb,c00])) ?_
 refine YG rfl (Y4 (p:=⟨b,0,none⟩) (by simp (disch:=exact Zq cs) only [ya,yb,c00])) ?_
 refine YG rfl (yG (by simp (disch:=exact Zq cs) only [ya,yb,c00]) (yce _ b)) ?_
 refine YG rfl (run_load (by simp (disch:=exact Zq cs) only [ya,yb,c00]) (ld_err h1)) ?_
 refine YG rfl (yba (by simp (disch:=exact Zq cs) only [ya,yb,c00]) ZW) ?_
 refine YG rfl (yV (v:=.bool false) (by simp (disch:=exact Zq cs) only [ya,yb,c00])) ?_
 refine YI (YA (d:=12) rfl rfl rfl (by simp only [size_put,cs];decide) (by simp (disch:=exact Zq cs) only [ya,yb,c00])) (yV (v:=.pointer (some ⟨b,0,none⟩)) (by simp (disch:=exact Zq cs) only [ya,yb,c00])) ?_
 refine YI (YA (d:=12) rfl rfl rfl (by simp only [size_put,cs];decide) (by simp (disch:=exact Zq cs) only [ya,yb,c00])) (Y4 (p:=⟨b,0,none⟩) (by simp (disch:=exact Zq cs) only [ya,yb,c00])) ?_
 refine YI (YA (d:=12) rfl rfl rfl (by simp only [size_put,cs];decide) (by simp (disch:=exact Zq cs) only [ya,yb,c00])) (yG (by simp (disch:=exact Zq cs) only [ya,yb,c00]) (Qq _ b)) ?_
 refine YI (YA (d:=12) rfl rfl rfl (by simp only [size_put,cs];decide) (by simp (disch:=exact Zq cs) only [ya,yb,c00])) (run_load (by simp (disch:=exact Zq cs) only [ya,yb,c00]) (yay h1)) ?_
 refine YI (YA (d:=12) rfl rfl rfl (by simp only [size_put,cs];decide) (by simp (disch:=exact Zq cs) only [ya,yb,c00])) (run_seq (s:=⟨#[]⟩) (by simp (disch:=exact Zq cs) only [ya,yb,c00])) ?_
 refine YG rfl (Jv (b:=false) (by simp (disch:=exact Zq cs) only [ya,yb,c00])) ?_
 refine rg_nil ?_
 refine wp_cond_true (?_:_=Value.bool true) ?_
 · simp (disch:=exact Zq cs) only [ya,yb]
   rw [if_neg Zd];simp
 refine yY ?_
 refine yq rfl run_assign ?_
 refine Yd ?_
 refine wp_ret ?_
 simp only [Exit.then]
 refine Jd (v:=.bool false) rfl (by simp only [yJ];exact cd) (ya _ (by simp only [size_put,cs];decide)) ⟨rfl,h1,hT⟩
set_option maxRecDepth 100000 in
set_option maxHeartbeats 2000000 in
theorem scan_line {w:World} {b:Nat} {t l:ByteArray} {L R:List UInt8} (h:qk w b t l) (ht:t.data.toList=L++10::R) (hL:∀ x ∈ L,x≠10) (hne:L≠[]) (hlast:∀ x,L.getLast?=some x→x≠13) (hlen:L.length<65536) :
 Calls Tryz.prog 54 #[.pointer (some ⟨b,0,none⟩)] w fun e w'=>e=.returned (.bool true)∧qk w' b ⟨R.toArray⟩ ⟨L.toArray⟩∧JQ b w w':=by
 have hts:t.size=L.length+1+R.length:=by rw [ycn ht];simp;omega
 go_enter Tryz.func54,Tryz.ntmps54
 generalize ha0:(Act.mk _ _)=a0
 have hsz:a0.tmps.size=Tryz.f54.ntmps:=by rw [← ha0];rfl
 replace hsz:a0.tmps.size=108:=hsz.trans Zk
 have hdf:a0.defers=[]:=by rw [← ha0]
 have e0:a0.eval (.tmp 0)=.pointer (some ⟨b,0,none⟩):=by rw [← ha0];rfl
 clear ha0
 refine yY ?_
 refine yq rfl run_assign ?_
 refine Yd ?_
 refine yY ?_
 refine yq rfl (yV (v:=.pointer (some ⟨b,0,none⟩)) (by simp (disch:=exact Zq hsz) only [ya,yb,e0])) ?_
 refine yq rfl (Y4 (p:=⟨b,0,none⟩) (by simp (disch:=exact Zq hsz) only [ya,yb,e0])) ?_
 refine yq rfl (yG (by simp (disch:=exact Zq hsz) only [ya,yb]) (Qg _ b)) ?_
 refine yal rfl rfl (run_store (v:=.string ⟨#[]⟩) (by simp (disch:=exact Zq hsz) only [ya,yb]) rfl (st_line h ⟨#[]⟩)) ?_
 refine Yd ?_
 have h1:=ydr h ⟨#[]⟩
 have hT:=(JQ.refl b w).set 1 (.string ⟨#[]⟩)
 generalize (w.setCell ⟨b,1,none⟩ (.string ⟨#[]⟩))=w1 at h1 hT ⊢
 simp only
 generalize hb0:(Act.put _ (some 6) _)=c0
 have cs:c0.tmps.size=108:=by rw [← hb0];simp only [size_put];exact hsz
 have cd:c0.defers=[]:=by rw [← hb0];simp only [yJ];exact hdf
 have c00:c0.eval (.tmp 0)=.pointer (some ⟨b,0,none⟩):=by rw [← hb0];simp (disch:=decide) only [yb,e0]
 clear hb0
 refine wp_seq ?_
 refine wp_seq ?_
 refine wp_region_list (ya4 ?_)
 refine YG rfl (yV (v:=.pointer (some ⟨b,0,none⟩)) (by simp (disch:=exact Zq cs) only [ya,yb,c00])) ?_
 refine YG rfl (Y4 (p:=⟨b,0,none⟩) (by simp (disch:=exact Zq cs) only [ya,yb,c00])) ?_
 refine YG rfl (yG (by simp (disch:=exact Zq cs) only [ya,yb,c00]) (yce _ b)) ?_
 refine YG rfl (run_load (by simp (disch:=exact Zq cs) only [ya,yb,c00]) (ld_err h1)) ?_
 refine YG rfl (yba (by simp (disch:=exact Zq cs) only [ya,yb,c00]) ZW) ?_
 refine YG rfl (yV (v:=.bool false) (by simp (disch:=exact Zq cs) only [ya,yb,c00])) ?_
 refine YI (YA (d:=12) rfl rfl rfl (by simp only [size_put,cs];decide) (by simp (disch:=exact Zq cs) only [ya,yb,c00])) (yV (v:=.pointer (some ⟨b,0,none⟩)) (by simp (disch:=exact Zq cs) only [ya,yb,c00])) ?_
 refine YI (YA (d:=12) rfl rfl rfl (by simp only [size_put,cs];decide) (by simp (disch:=exact Zq cs) only [ya,yb,c00])) (Y4 (p:=⟨b,0,none⟩) (by simp (disch:=exact Zq cs) only [ya,yb,c00])) ?_
 refine YI (YA (d:=12) rfl rfl rfl (by simp only [size_put,cs];decide) (by simp (disch:=exact Zq cs) only [ya,yb,c00])) (yG (by simp (disch:=exact Zq cs) only [ya,yb,c00]) (Qq _ b)) ?_
 refine YI (YA (d:=12) rfl rfl rfl (by simp only [size_put,cs];decide) (by simp (disch:=exact Zq cs) only [ya,yb,c00])) (run_load (by simp (disch:=exact Zq cs) only [ya,yb,c00]) (yay h1)) ?_
 refine YI (YA (d:=12) rfl rfl rfl (by simp only [size_put,cs];decide) (by simp (disch:=exact Zq cs) only [ya,yb,c00])) (run_seq (s:=t) (by simp (disch:=exact Zq cs) only [ya,yb,c00])) ?_
 refine YG rfl (Jv (b:=false) (by simp (disch:=exact Zq cs) only [ya,yb,c00])) ?_
 refine rg_nil ?_
 refine wp_cond_false (?_:_=Value.bool false) ?_
 · simp (disch:=exact Zq cs) only [ya,yb]
   have:¬ (t.toList=[]):=fun e=>by
    have:=congrArg List.length e
    rw [ByteArray.toList_eq] at this
    simp [ht] at this
   rw [if_neg Zd]
   simp only [Value.bool.injEq,beq_eq_false_iff_ne,ne_eq]
   intro e
   exact this (by rw [e];simp)
 refine wp_skip ?_
 simp only [Exit.then]
 generalize hd0:(Act.put _ (some 18) _)=d0
 have ds:d0.tmps.size=108:=by rw [← hd0];simp only [size_put];exact cs
 have dd:d0.defers=[]:=by rw [← hd0];simp only [yJ];exact cd
 have d00:d0.eval (.tmp 0)=.pointer (some ⟨b,0,none⟩):=by rw [← hd0];simp (disch:=decide) only [yb,c00]
 clear hd0
 refine yY ?_
 refine yq rfl run_assign ?_
 refine Yd ?_
 refine wp_seq ?_
 refine wp_block ?_
 refine wp_loop_ghost (fun r a w'=>∃ m,r=L.length - m∧m≤L.length∧a.tmps.size=108∧a.defers=[]∧a.eval (.tmp 0)=.pointer (some ⟨b,0,none⟩)∧a.eval (.tmp 3)=.int .i64 m∧w'=w1) L.length ⟨0,rfl,Nat.zero_le _,by simp only [size_put];exact ds,by simp only [yJ];exact dd,(yb _ Zd).trans d00,ya _ (by rw [ds];decide),rfl⟩ ?_
 rintro r m0 wr ⟨m,rfl,hm,ms,md,m00,m3,rfl⟩
 refine wp_seq ?_
 refine wp_seq ?_
 refine wp_region_list (ya4 ?_)
 refine YG rfl (yV (v:=.int .i64 m) (by simp (disch:=exact Zq ms) only [ya,yb,m3])) ?_
 refine YG rfl (yV (v:=.pointer (some ⟨b,0,none⟩)) (by simp (disch:=exact Zq ms) only [ya,yb,m00])) ?_
 refine YG rfl (Y4 (p:=⟨b,0,none⟩) (by simp (disch:=exact Zq ms) only [ya,yb,m00])) ?_
 refine YG rfl (yG (by simp (disch:=exact Zq ms) only [ya,yb]) (Qq _ b)) ?_
 refine YG rfl (run_load (by simp (disch:=exact Zq ms) only [ya,yb]) (yay h1)) ?_
 refine YG rfl (Qu (s:=t) (by simp (disch:=exact Zq ms) only [ya,yb])) ?_
 refine YG rfl (ya9 (i:=m) (n:=t.size) (by simp (disch:=exact Zq ms) only [ya,yb,m3]) (by simp (disch:=exact Zq ms) only [ya,yb])) ?_
 rw [decide_eq_true (show (m:Int)<t.size by omega)]
 refine YG rfl (yV (v:=.bool true) (by simp (disch:=exact Zq ms) only [ya,yb])) ?_
 refine YI (YA (d:=26) rfl rfl rfl (by simp only [size_put,ms];decide) (by simp (disch:=exact Zq ms) only [ya,yb])) (yV (v:=.pointer (some ⟨b,0,none⟩)) (by simp (disch:=exact Zq ms) only [ya,yb,m00])) ?_
 refine YI (YA (d:=26) rfl rfl rfl (by simp only [size_put,ms];decide) (by simp (disch:=exact Zq ms) only [ya,yb])) (Y4 (p:=⟨b,0,none⟩) (by simp (disch:=exact Zq ms) only [ya,yb,m00])) ?_
 refine YI (YA (d:=26) rfl rfl rfl (by simp only [size_put,ms];decide) (by simp (disch:=exact Zq ms) only [ya,yb])) (yG (by simp (disch:=exact Zq ms) only [ya,yb]) (Qq _ b)) ?_
 refine YI (YA (d:=26) rfl rfl rfl (by simp only [size_put,ms];decide) (by simp (disch:=exact Zq ms) only [ya,yb])) (run_load (by simp (disch:=exact Zq ms) only [ya,yb]) (yay h1)) ?_
 refine YI (YA (d:=26) rfl rfl rfl (by simp only [size_put,ms];decide) (by simp (disch:=exact Zq ms) only [ya,yb])) (yV (v:=.int .i64 m) (by simp (disch:=exact Zq ms) only [ya,yb,m3])) ?_
 refine YI (YA (d:=26) rfl rfl rfl (by simp only [size_put,ms];decide) (by simp (disch:=exact Zq ms) only [ya,yb])) (ydp (s:=t) (i:=m) (by simp (disch:=exact Zq ms) only [ya,yb]) (by simp (disch:=exact Zq ms) only [ya,yb,m3]) Zo) ?_
 refine YI (YA (d:=26) rfl rfl rfl (by simp only [size_put,ms];decide) (by simp (disch:=exact Zq ms) only [ya,yb])) (run_neq8 (c:=10) (u:=(t[m]'(by omega)).toNat) (by simp (disch:=exact Zq ms) only [ya,yb])) ?_
 refine YG rfl (Jv (b:=true) (by simp (disch:=exact Zq ms) only [ya,yb])) ?_
 refine rg_nil ?_
 by_cases hmn:m<L.length
 · refine wp_cond_true (?_:_=Value.bool true) ?_
   · simp (disch:=exact Zq ms) only [ya,yb,if_true]
     rw [ydw ht m Zo]
     have hx:=hL _ (List.getElem_mem hmn)
     rw [List.getElem_append_left hmn,decide_eq_true]
     intro e
     exact hx (UInt8.toNat_inj.1 (by show _=10;omega))
   refine wp_skip ?_
   simp only [Exit.then]
   refine wp_block ?_
   refine wp_region_list (qO ?_)
   refine yq rfl (yV (v:=.int .i64 m) (by simp (disch:=exact Zq ms) only [ya,yb,m3])) ?_
   refine yq rfl (ybZ (i:=m) (by simp (disch:=exact Zq ms) only [ya,yb,m3]) rfl) ?_
   refine yq rfl run_assign ?_
   refine Yd ?_
   simp only [Exit.inBlock]
   refine ⟨L.length - (m+1),by omega,m+1,rfl,hmn,by simp only [size_put];exact ms,by simp only [yJ];exact md,(by simp (disch:=exact Zq ms) only [ya,yb,m00]),?_,rfl⟩
   simp (disch:=exact Zq ms) only [ya,yb]
   rw [wrap_i64 Zo Zo];rfl
 · have hme:m=L.length:=by omega
   subst hme
   refine wp_cond_false (?_:_=Value.bool false) ?_
   · simp (disch:=exact Zq ms) only [ya,yb,if_true]
     rw [ydw ht L.length Zo]
     simp
   refine wp_exit ?_
   simp only [Exit.then,Exit.inBlock,if_true]
   generalize hf0:(Act.put _ (some 34) _)=f0
   have fs:f0.tmps.size=108:=by rw [← hf0];simp only [size_put];exact ms
   have fd:f0.defers=[]:=by rw [← hf0];simp only [yJ];exact md
   have f00:f0.eval (.tmp 0)=.pointer (some ⟨b,0,none⟩):=by rw [← hf0];simp (disch:=decide) only [yb,m00]
   have f3:f0.eval (.tmp 3)=.int .i64 L.length:=by rw [← hf0];simp (disch:=decide) only [yb,m3]
   clear hf0 m3 m00 md ms
   refine wp_seq ?_
   refine yY ?_
   refine yq rfl (yV (v:=.int .i64 L.length) (by simp (disch:=exact Zq fs) only [ya,yb,f3])) ?_
   refine yq rfl (yV (v:=.pointer (some ⟨b,0,none⟩)) (by simp (disch:=exact Zq fs) only [ya,yb,f00])) ?_
   refine yq rfl (Y4 (p:=⟨b,0,none⟩) (by simp (disch:=exact Zq fs) only [ya,yb,f00])) ?_
   refine yq rfl (yG (by simp (disch:=exact Zq fs) only [ya,yb]) (fa_lines2 _ b)) ?_
   refine yq rfl (run_load (by simp (disch:=exact Zq fs) only [ya,yb]) (ld_most h1)) ?_
   refine yq rfl (run_geq (i:=L.length) (n:=65536) (by simp (disch:=exact Zq fs) only [ya,yb,f3]) (by simp (disch:=exact Zq fs) only [ya,yb])) ?_
   rw [decide_eq_false Zo]
   refine Yd ?_
   refine wp_cond_false (by simp (disch:=exact Zq fs) only [ya,yb]) ?_
   refine wp_skip ?_
   simp only [Exit.then]
   refine yY ?_
   refine yq rfl (yV (v:=.pointer (some ⟨b,0,none⟩)) (by simp (disch:=exact Zq fs) only [ya,yb,f00])) ?_
   refine yq rfl (yV (v:=.pointer (some ⟨b,0,none⟩)) (by simp (disch:=exact Zq fs) only [ya,yb,f00])) ?_
   refine yq rfl (Y4 (p:=⟨b,0,none⟩) (by simp (disch:=exact Zq fs) only [ya,yb,f00])) ?_
   refine yq rfl (yG (by simp (disch:=exact Zq fs) only [ya,yb]) (Qq _ b)) ?_
   refine yq rfl (run_load (by simp (disch:=exact Zq fs) only [ya,yb]) (yay h1)) ?_
   refine yq rfl (yV (v:=.int .i64 L.length) (by simp (disch:=exact Zq fs) only [ya,yb,f3])) ?_
   refine yq rfl (run_sto (s:=t) (n:=L.length) (by simp (disch:=exact Zq fs) only [ya,yb]) (by simp (disch:=exact Zq fs) only [ya,yb,f3]) Zo) ?_
   refine yq rfl (Y4 (p:=⟨b,0,none⟩) (by simp (disch:=exact Zq fs) only [ya,yb,f00])) ?_
   refine yq rfl (yG (by simp (disch:=exact Zq fs) only [ya,yb]) (Qg _ b)) ?_
   refine yal rfl rfl (run_store (v:=.string ⟨L.toArray⟩) (by simp (disch:=exact Zq fs) only [ya,yb]) ?_ (st_line h1 ⟨L.toArray⟩)) ?_
   · simp (disch:=exact Zq fs) only [ya,yb]
     rw [text_take ht]
   refine Yd ?_
   have h2:=ydr h1 ⟨L.toArray⟩
   have hT2:=hT.set 1 (.string ⟨L.toArray⟩)
   generalize (World.setCell _ ⟨b,1,none⟩ (.string ⟨L.toArray⟩))=w2 at h2 hT2 ⊢
   refine wp_seq ?_
   refine yY ?_
   refine yq rfl (yV (v:=.int .i64 L.length) (by simp (disch:=exact Zq fs) only [ya,yb,f3])) ?_
   refine yq rfl (yV (v:=.pointer (some ⟨b,0,none⟩)) (by simp (disch:=exact Zq fs) only [ya,yb,f00])) ?_
   refine yq rfl (Y4 (p:=⟨b,0,none⟩) (by simp (disch:=exact Zq fs) only [ya,yb,f00])) ?_
   refine yq rfl (yG (by simp (disch:=exact Zq fs) only [ya,yb]) (Qq _ b)) ?_
   refine yq rfl (run_load (by simp (disch:=exact Zq fs) only [ya,yb]) (yay h2)) ?_
   refine yq rfl (Qu (s:=t) (by simp (disch:=exact Zq fs) only [ya,yb])) ?_
   refine yq rfl (ya9 (i:=L.length) (n:=t.size) (by simp (disch:=exact Zq fs) only [ya,yb,f3]) (by simp (disch:=exact Zq fs) only [ya,yb])) ?_
   rw [decide_eq_true (show (L.length:Int)<t.size by omega)]
   refine Yd ?_
   refine wp_cond_true (by simp (disch:=exact Zq fs) only [ya,yb]) ?_
   refine wp_region_list (qO ?_)
   refine yq rfl (yV (v:=.int .i64 L.length) (by simp (disch:=exact Zq fs) only [ya,yb,f3])) ?_
   refine yq rfl (ybZ (i:=L.length) (by simp (disch:=exact Zq fs) only [ya,yb,f3]) rfl) ?_
   refine yq rfl run_assign ?_
   refine Yd ?_
   simp only [Exit.then]
   generalize hg0:(Act.put _ (some 3) _)=g0
   have gs:g0.tmps.size=108:=by rw [← hg0];simp only [size_put];exact fs
   have gd:g0.defers=[]:=by rw [← hg0];simp only [yJ];exact fd
   have g00:g0.eval (.tmp 0)=.pointer (some ⟨b,0,none⟩):=by rw [← hg0];simp (disch:=decide) only [yb,f00]
   have g3:g0.eval (.tmp 3)=.int .i64 ((L.length+1:Nat):Int):=by
    rw [← hg0]
    simp (disch:=exact Zq fs) only [ya,yb]
    rw [wrap_i64 Zo Zo];rfl
   clear hg0
   refine yY ?_
   refine yq rfl (yV (v:=.pointer (some ⟨b,0,none⟩)) (by simp (disch:=exact Zq gs) only [ya,yb,g00])) ?_
   refine yq rfl (yV (v:=.pointer (some ⟨b,0,none⟩)) (by simp (disch:=exact Zq gs) only [ya,yb,g00])) ?_
   refine yq rfl (Y4 (p:=⟨b,0,none⟩) (by simp (disch:=exact Zq gs) only [ya,yb,g00])) ?_
   refine yq rfl (yG (by simp (disch:=exact Zq gs) only [ya,yb]) (Qq _ b)) ?_
   refine yq rfl (run_load (by simp (disch:=exact Zq gs) only [ya,yb]) (yay h2)) ?_
   refine yq rfl (yV (v:=.int .i64 ((L.length+1:Nat):Int)) (by simp (disch:=exact Zq gs) only [ya,yb,g3])) ?_
   refine yq rfl (run_sfrom (s:=t) (n:=L.length+1) (by simp (disch:=exact Zq gs) only [ya,yb]) (by simp (disch:=exact Zq gs) only [ya,yb,g3]) Zo) ?_
   refine yq rfl (Y4 (p:=⟨b,0,none⟩) (by simp (disch:=exact Zq gs) only [ya,yb,g00])) ?_
   refine yq rfl (yG (by simp (disch:=exact Zq gs) only [ya,yb]) (Qq _ b)) ?_
   refine yal rfl rfl (run_store (v:=.string ⟨R.toArray⟩) (by simp (disch:=exact Zq gs) only [ya,yb]) ?_ (st_text h2 ⟨R.toArray⟩)) ?_
   · simp (disch:=exact Zq gs) only [ya,yb]
     have:=text_drop (t:=t) (L:=L++[10]) (R:=R) (by rw [ht];simp)
     rw [List.length_append] at this
     exact congrArg Value.string this
   refine Yd ?_
   have h3:=set_text h2 ⟨R.toArray⟩
   have hT3:=hT2.set 0 (.string ⟨R.toArray⟩)
   generalize (World.setCell _ ⟨b,0,none⟩ (.string ⟨R.toArray⟩))=w3 at h3 hT3 ⊢
   simp only
   generalize hk0:(Act.put _ (some 73) _)=k0
   have ks:k0.tmps.size=108:=by rw [← hk0];simp only [size_put];exact gs
   have kd:k0.defers=[]:=by rw [← hk0];simp only [yJ];exact gd
   have k00:k0.eval (.tmp 0)=.pointer (some ⟨b,0,none⟩):=by rw [← hk0];simp (disch:=decide) only [yb,g00]
   clear hk0
   refine wp_seq ?_
   have hpos:0<L.length:=List.length_pos_iff.2 hne
   have hls:(⟨L.toArray⟩:ByteArray).size=L.length:=by simp [ByteArray.size]
   refine early_all (k:=74) (n:=20) (B:=[0,1,2,4,8,16,32,64,192,320,576,64,2112,4160,8256,16448,32832,66624,131136,262208])
    (Y:=fun i=>[Value.pointer (some ⟨b,0,none⟩),.pointer (some ⟨b,0,none⟩),.pointer (some ⟨b,1,none⟩),.string ⟨L.toArray⟩,.int .i64 L.length,.bool true,.bool true,.pointer (some ⟨b,0,none⟩),.pointer (some ⟨b,0,none⟩),.pointer (some ⟨b,1,none⟩),.string ⟨L.toArray⟩,.pointer (some ⟨b,0,none⟩),.pointer (some ⟨b,0,none⟩),.pointer (some ⟨b,1,none⟩),.string ⟨L.toArray⟩,.int .i64 L.length,.int .i64 ((L.length - 1:Nat):Int),.int .u8 ((L.getLast hne).toNat:Int),.bool false,.bool false].getD i undef) Zk rfl Zk Zk Zd Zk ?_ ?_ Zo ?_
   · intro i o hi ho
     match i,hi with
     | 0,_|1,_|2,_|3,_|4,_|5,_|6,_|19,_=>obtain rfl:=Option.some.inj ho;exact .inl rfl
     | 7,_|8,_|9,_|10,_|11,_|12,_|13,_|14,_|15,_|16,_|17,_|18,_=>obtain rfl:=Option.some.inj ho;exact .inr ⟨6,true,rfl,by decide,rfl⟩
   · intro i o hi ho a' hgot hold W hW
     have h3':qk W b ⟨R.toArray⟩ ⟨L.toArray⟩:=by unfold qk;rw [hW];exact h3
     match i,hi with
     | 0,_|7,_|11,_=>
      obtain rfl:=Option.some.inj ho
      exact yV ((hold 0 Zd).trans k00)
     | 1,_=>obtain rfl:=Option.some.inj ho;exact Y4 (hgot 0 Zd)
     | 8,_=>obtain rfl:=Option.some.inj ho;exact Y4 (hgot 7 Zd)
     | 12,_=>obtain rfl:=Option.some.inj ho;exact Y4 (hgot 11 Zd)
     | 2,_=>obtain rfl:=Option.some.inj ho;exact yG (hgot 1 Zd) (Qg _ b)
     | 9,_=>obtain rfl:=Option.some.inj ho;exact yG (hgot 8 Zd) (Qg _ b)
     | 13,_=>obtain rfl:=Option.some.inj ho;exact yG (hgot 12 Zd) (Qg _ b)
     | 3,_=>obtain rfl:=Option.some.inj ho;exact run_load (hgot 2 Zd) (ycL h3')
     | 10,_=>obtain rfl:=Option.some.inj ho;exact run_load (hgot 9 Zd) (ycL h3')
     | 14,_=>obtain rfl:=Option.some.inj ho;exact run_load (hgot 13 Zd) (ycL h3')
     | 4,_=>obtain rfl:=Option.some.inj ho;exact Qu (hgot 3 Zd)
     | 15,_=>obtain rfl:=Option.some.inj ho;exact Qu (hgot 14 Zd)
     | 5,_=>
      obtain rfl:=Option.some.inj ho
      refine (ycP (i:=L.length) (n:=0) (hgot 4 Zd) rfl).trans ?_
      rw [decide_eq_true Zo];rfl
     | 6,_=>obtain rfl:=Option.some.inj ho;exact yV (hgot 5 Zd)
     | 16,_=>
      obtain rfl:=Option.some.inj ho
      refine (run_sub (i:=L.length) (n:=1) (hgot 15 Zd) rfl).trans ?_
      rw [wrap_i64 Zo Zo]
      have:(L.length:Int) - 1=((L.length - 1:Nat):Int):=by omega
      rw [this];rfl
     | 17,_=>
      obtain rfl:=Option.some.inj ho
      refine (ydp (s:=⟨L.toArray⟩) (i:=L.length - 1) (hgot 10 Zd) (hgot 16 Zd) (by rw [hls];omega)).trans ?_
      rw [ydw (t:=⟨L.toArray⟩) (l:=L) (by simp) _ (by rw [hls];omega)]
      simp [List.getLast_eq_getElem]
     | 18,_=>
      obtain rfl:=Option.some.inj ho
      refine (run_eql8 (c:=13) (u:=(L.getLast hne).toNat) (hgot 17 Zd)).trans ?_
      have hx:=hlast _ (List.getLast?_eq_some_getLast hne)
      have:(((L.getLast hne).toNat:Int) == ((13:Nat):Int))=false:=by
       rw [beq_eq_false_iff_ne]
       intro e
       exact hx (UInt8.toNat_inj.1 (by show _=13;omega))
      rw [this];rfl
     | 19,_=>
      obtain rfl:=Option.some.inj ho
      refine (Jv (b:=true) (hgot 6 Zd)).trans ?_
      rw [if_pos rfl]
      exact congrArg (fun v=>Result.ok (Next.value v) W) (hgot 18 Zd)
   · intro a' hs hdd hold hgot
     refine wp_cond_false (hgot 19 Zd) ?_
     refine wp_skip ?_
     simp only [Exit.then]
     refine yY ?_
     refine yq rfl run_assign ?_
     refine Yd ?_
     refine wp_ret ?_
     refine Jd (v:=.bool true) rfl (by simp only [yJ];rw [hdd];exact kd) (ya _ (by rw [hs,ks];decide)) ⟨rfl,h3,hT3.drew⟩
end Go.Proofs.YtlmennkeggmdbaaGreatDoor
namespace Go.Proofs.YtlmennkeggmdbaaGreatDoor
open Go.RowKit Go.Proofs.YtlmennkeggmdbaaGreatDoorW.PrintWords Go.Proofs.YtlmennkeggmdbaaGreatDoorW.PrintLast Go.Proofs.YtlmennkeggmdbaaGreatDoorW.PrintMore
section
variable {sz:Nat} {D:List Deferred} {L:Kn} {w:World} {ops:Array Oper} {K:Kn→World→Prop} {r:List Oper} {d:Nat} {ty:TypeId} {pos:String} {aft:Array Edge} {gd:Option (Nat × Bool)} {x y:Operand} {T T':Nat}
theorem run_bits2 {op:BinOp} (ho:op=.and∨op=.or∨op=.andNot) (i n:Int) (w:World):(do eqGuard op T x y (.int .u64 i) (.int .u64 n);binOp op T (.int .u64 i) (.int .u64 n):Sem Value).run Tryz.prog w=.ok (.int .u64 (Go.bits op .u64 i n)) w:=by
 rcases ho with rfl|rfl|rfl <;> simp [go_sem]
theorem ycj {op:BinOp} {i n m:Int} (ho:op=.and∨op=.or∨op=.andNot) (hx:kv L x=some (.int .u64 i)) (hy:kv L y=some (.int .u64 n)) (hm:Go.bits op .u64 i n=m) (h:yZ Tryz.prog sz D ops K r ((d,.int .u64 m)::L) w) (hd:d<sz:=by decide) :
 yZ Tryz.prog sz D ops K (⟨some d,.binOp op T x y T',ty,pos,aft,none⟩ :: r) L w:=by
 subst hm;exact QF rfl hx hy (run_bits2 ho i n w) h hd
theorem r_shr {k:IntKind} {i n m:Int} (hx:kv L x=some (.int .u64 i)) (hy:kv L y=some (.int k n)) (h0:0≤n) (h1:n≤64) (hm:i / 2 ^ n.toNat=m) (h:yZ Tryz.prog sz D ops K r ((d,.int .u64 m)::L) w) (hd:d<sz:=by decide) :
 yZ Tryz.prog sz D ops K (⟨some d,.binOp .shr T x y T',ty,pos,aft,none⟩ :: r) L w:=by
 subst hm;exact QF rfl hx hy (by simp [go_sem,shift_shr_u64 (h₀:=h0) (h₁:=h1)]) h hd
theorem r_shl {k:IntKind} {i n m:Int} (hx:kv L x=some (.int .u64 i)) (hy:kv L y=some (.int k n)) (h0:0≤n) (h1:n≤64) (hm:IntKind.u64.wrap (i * 2 ^ n.toNat)=m) (h:yZ Tryz.prog sz D ops K r ((d,.int .u64 m)::L) w) (hd:d<sz:=by decide) :
 yZ Tryz.prog sz D ops K (⟨some d,.binOp .shl T x y T',ty,pos,aft,none⟩ :: r) L w:=by
 subst hm;exact QF rfl hx hy (by simp [go_sem,shift_shl_u64 (h₀:=h0) (h₁:=h1)]) h hd
theorem ycN {i n:Int} (hx:kv L x=some (.int .u64 i)) (hy:kv L y=some (.int .u64 n)) (b:Bool) (hb:decide (n≤i)=b) (h:yZ Tryz.prog sz D ops K r ((d,.bool b)::L) w) (hd:d<sz:=by decide):yZ Tryz.prog sz D ops K (⟨some d,.binOp .geq T x y T',ty,pos,aft,none⟩ :: r) L w:=by
 subst hb;exact QF rfl hx hy Zk h hd
theorem r_lss64 {i n:Int} (hx:kv L x=some (.int .u64 i)) (hy:kv L y=some (.int .u64 n)) (b:Bool) (hb:decide (i<n)=b) (h:yZ Tryz.prog sz D ops K r ((d,.bool b)::L) w) (hd:d<sz:=by decide):yZ Tryz.prog sz D ops K (⟨some d,.binOp .lss T x y T',ty,pos,aft,none⟩ :: r) L w:=by
 subst hb;exact QF rfl hx hy Zk h hd
theorem r_sub64 {i n m:Int} (hx:kv L x=some (.int .u64 i)) (hy:kv L y=some (.int .u64 n)) (hm:IntKind.u64.wrap (i - n)=m) (h:yZ Tryz.prog sz D ops K r ((d,.int .u64 m)::L) w) (hd:d<sz:=by decide):yZ Tryz.prog sz D ops K (⟨some d,.binOp .sub 30 x y 30,ty,pos,aft,none⟩ :: r) L w:=by
 subst hm;exact QF rfl hx hy Zk h hd
theorem r_neg {i m:Int} (hx:kv L x=some (.int .i64 i)) (hm:IntKind.i64.wrap (-i)=m) (h:yZ Tryz.prog sz D ops K r ((d,.int .i64 m)::L) w) (hd:d<sz:=by decide):yZ Tryz.prog sz D ops K (⟨some d,.unOp .neg T x,ty,pos,aft,none⟩ :: r) L w:=
 YR (fun a ha=>by
  have h1:(Op.unary UnOp.neg (.int .i64 i)).run Tryz.prog w=.ok (.int .i64 (IntKind.i64.wrap (-i))) w:=by simp [go_sem,Op.unary]
  unfold execOp
  simp only [ha.kv hx]
  subst hm
  rw [Sem.run_bind,h1]
  rfl) h hd
theorem r_cv {S:Nat} {u v:Value} (hx:kv L x=some u) (hm:∀ w:World,(convert S T u).run Tryz.prog w=.ok v w) (h:yZ Tryz.prog sz D ops K r ((d,v)::L) w) (hd:d<sz:=by decide):yZ Tryz.prog sz D ops K (⟨some d,.convert S T x,ty,pos,aft,none⟩ :: r) L w:=
 YR (fun a ha=>ycA (ha.kv hx) (hm w)) h hd
theorem r_idx8 {l:List UInt8} {i:Nat} {b:UInt8} (hx:kv L x=some (.string (mkB l))) (hy:kv L y=some (.int .u8 i)) (hb:l[i]?=some b) (h:yZ Tryz.prog sz D ops K r ((d,.int .u8 b.toNat)::L) w) (hd:d<sz:=by decide):yZ Tryz.prog sz D ops K (⟨some d,.index 9 x y,ty,pos,aft,none⟩ :: r) L w:=by
 obtain ⟨hi,hv⟩:=List.getElem?_eq_some_iff.1 hb
 refine YR (fun a ha=>?_) h hd
 have h1:(Instr.index 9 (a.eval x) (a.eval y)).run Tryz.prog w=.ok (.int .u8 b.toNat) w:=by
  have hi':i<(mkB l).size:=hi
  rw [ha.kv hx,ha.kv hy,run_index_string (h:=Tryz.underlying9),dif_pos ⟨by omega,by omega⟩]
  subst hv
  rfl
 exact Y8 h1
end
theorem norm_at {P:Program} {fn:Func} {a:Act} {sz:Nat} {L:Kn} {w:World} {R:Ending→World→Prop} (hr:fn.results=#[]) (hR:R (.returned (.tuple #[])) w):Has sz [] L a→bodyPost P fn R .normal a w:=fun ha=>
 ⟨ha.defers,.tuple #[],qb (rs:=[]) (vs:=[]) (by rw [hr]) (by simp) .nil,hR⟩
theorem QK {P:Program} {w:World} {a:Addr} {T:TypeId} {k:IntKind} {x y:Int} (hT:(isAgg T).run P w=.ok false w) (hs:(sizeOf T).run P w=.ok 1 w) (hc:w.cell? a=some (.int k x)) (hf:w.frozen? a=false) :
 (Instr.storeAt T (.pointer (some a)) (.int k y)).run P w=.ok () (w.setCell a (.int k y)):=by
 simp [Instr.storeAt,Instr.sureAddr,go_sem,hc,hf,hT,hs]
theorem load_int {P:Program} {w:World} {a:Addr} {T:TypeId} {v:Value} (hT:(isAgg T).run P w=.ok false w) (hs:(sizeOf T).run P w=.ok 1 w) (hc:w.cell? a=some v):(loadVar T a).run P w=.ok v w:=by
 simp [go_sem,hc,hT,hs]
def len8:List UInt8:=[0,1]++List.replicate 2 2++List.replicate 4 3++List.replicate 8 4++List.replicate 16 5++List.replicate 32 6++List.replicate 64 7++List.replicate 128 8
theorem len8_all:((List.range 33).all fun i=>decide (i<16) || len8[i]? == some (if i<32 then 5 else 6))=true:=by decide
theorem len8_at {i:Nat} (h1:16≤i) (h2:i≤32):len8[i]?=some (if i<32 then 5 else 6):=by
 have:=List.all_eq_true.1 len8_all i (List.mem_range.2 Zo)
 simpa [show ¬ i<16 by omega] using this
set_option maxRecDepth 100000 in
theorem len64_walk (m:Nat) (h1:4503599627370496≤m) (h2:m≤9007199254740992) (w:World):Calls Tryz.prog 248 #[.int .u64 m] w fun e w'=>e=.returned (.int .i64 (if m<9007199254740992 then 53 else 54))∧w'=w:=by
 refine YS 25 Tryz.func248 rfl Zk (by simp) ?_
 refine yF (Yb rfl (yx ?_))
 refine Yg (yF (yR rfl (ycN rfl rfl true (decide_eq_true Zo) (yx (QI rfl (yF (yR rfl (r_shr rfl rfl Zd Zd (m:=((m / 4294967296:Nat):Int)) ?_ (Yb rfl (yx (ybf (Yb rfl (yx ?_)))))))))))))
 · show (m:Int) / 4294967296=_;omega
 refine Yg (yF (yR rfl (ycN rfl rfl true (decide_eq_true Zo) (yx (QI rfl (yF (yR rfl (r_shr rfl rfl Zd Zd (m:=((m / 281474976710656:Nat):Int)) ?_ (Yb rfl (yx (ybf (yR rfl (QY rfl rfl rfl (Yb rfl (yx ?_)))))))))))))))
 · show ((m / 4294967296:Nat):Int) / 65536=_;omega
 refine Yg (yF (yR rfl (ycN rfl rfl false (decide_eq_false Zo) (yx (Jt rfl (Jg ?_))))))
 have hb:=len8_at (i:=m / 281474976710656) Zo Zo
 refine yF (yR rfl (yR rfl (r_cv rfl (v:=.int .u8 ((m / 281474976710656:Nat):Int)) (fun w=>?_) (r_idx8 (l:=len8) (show _=some (Value.string (mkB len8)) by kernel_rfl) rfl hb (r_cv rfl (fun w=>show _=Result.ok (Value.int .i64 (if m<9007199254740992 then 5 else 6)) w from ?_) (QY rfl rfl (m:=if m<9007199254740992 then 53 else 54) ?_ (Yb rfl (yx (JA fun a ha=>?_)))))))))
 · have:(convert 30 5 (.int .u64 ((m / 281474976710656:Nat):Int))).run Tryz.prog w=.ok (.int .u8 (IntKind.u8.wrap ((m / 281474976710656:Nat):Int))) w:=by kernel_rfl
   rw [this,wrap_u8 Zo Zo]
 · have:∀ z:Int,(convert 5 3 (.int .u8 z)).run Tryz.prog w=.ok (.int .i64 (IntKind.i64.wrap z)) w:=fun z=>by kernel_rfl
   rw [this]
   by_cases hm:m<9007199254740992
   · rw [if_pos hm,if_pos Zo];rfl
   · rw [if_neg hm,if_neg Zo];rfl
 · by_cases hm:m<9007199254740992
   · rw [if_pos hm,if_pos hm];rfl
   · rw [if_neg hm,if_neg hm];rfl
 · exact J2 (fn:=Tryz.f248) (vs:=[.int .i64 (if m<9007199254740992 then 53 else 54)]) rfl ⟨rfl,rfl⟩ ha
end Go.Proofs.YtlmennkeggmdbaaGreatDoor
namespace Go.Proofs.YtlmennkeggmdbaaGreatDoor
open Go.RowKit Go.Proofs.YtlmennkeggmdbaaGreatDoorW.PrintWords Go.Proofs.YtlmennkeggmdbaaGreatDoorW.PrintLast Go.Proofs.YtlmennkeggmdbaaGreatDoorW.PrintMore
abbrev IsPre (w:World) (g:Nat) (a b c:Int):Prop:=w.heap[g]?=some (.cells #[.int .u64 a,.int .u64 b,.int .i64 c] 194 (0,0))
theorem idx_pow (w:World):(Instr.indexAt 211 (.pointer (some ⟨11,0,none⟩)) (.int .i64 348)).run Tryz.prog w=.ok (.pointer (some ⟨11,696,none⟩)) w:=by kernel_rfl
theorem fa_pow0 (w:World):(Instr.fieldAt 210 (.pointer (some ⟨11,696,none⟩)) 0).run Tryz.prog w=.ok (.pointer (some ⟨11,696,none⟩)) w:=by kernel_rfl
theorem fa_pow1 (w:World):(Instr.fieldAt 210 (.pointer (some ⟨11,696,none⟩)) 1).run Tryz.prog w=.ok (.pointer (some ⟨11,697,none⟩)) w:=by kernel_rfl
theorem fa_pre0 (g:Nat) (w:World):(Instr.fieldAt 194 (.pointer (some ⟨g,0,none⟩)) 0).run Tryz.prog w=.ok (.pointer (some ⟨g,0,none⟩)) w:=by kernel_rfl
theorem fa_pre1 (g:Nat) (w:World):(Instr.fieldAt 194 (.pointer (some ⟨g,0,none⟩)) 1).run Tryz.prog w=.ok (.pointer (some ⟨g,1,none⟩)) w:=by kernel_rfl
theorem fa_pre2 (g:Nat) (w:World):(Instr.fieldAt 194 (.pointer (some ⟨g,0,none⟩)) 2).run Tryz.prog w=.ok (.pointer (some ⟨g,2,none⟩)) w:=by kernel_rfl
theorem ybR {T:TypeId} {v:Value} {W:World} {g j:Nat} (hT:(isAgg T).run Tryz.prog W=.ok false W) (hc:W.cell? ⟨g,j,none⟩=some v):(Instr.loadAt T (.pointer (some ⟨g,j,none⟩))).run Tryz.prog W=.ok v W:=Qz hT hc
structure PowAt (w:World):Prop where
 hi:∀ W,Below w.heap.size w W→(Instr.loadAt 30 (.pointer (some ⟨11,696,none⟩))).run Tryz.prog W=.ok (.int .u64 9223372036854775808) W
 lo:∀ W,Below w.heap.size w W→(Instr.loadAt 30 (.pointer (some ⟨11,697,none⟩))).run Tryz.prog W=.ok (.int .u64 0) W
set_option maxRecDepth 100000 in
theorem ydJ {w0 w:World} {g:Nat} {a b c:Int} (hg:IsPre w g a b c) (hge:w0.heap.size≤g) (hB:Below w0.heap.size w0 w) (hP:PowAt w0) (e:Int) (he : -100≤e) (he2:e≤100) :
 Calls Tryz.prog 250 #[.pointer (some ⟨g,0,none⟩),.int .i64 e,.int .i64 0,.int .i64 0] w fun r w'=>r=.returned (.tuple #[])∧IsPre w' g 9223372036854775808 0 (-(e+3))∧JQ g w w':=by
 refine YS 32 Tryz.func250 rfl Zk (by simp) ?_
 have h1:IsPre (w.setCell ⟨g,0,none⟩ (.int .u64 9223372036854775808)) g 9223372036854775808 b c:=yy hg 0 _ rfl
 have t1:=(JQ.refl g w).set 0 (.int .u64 9223372036854775808)
 refine yF (yR rfl (yR rfl (ybV rfl rfl (m:=348) rfl (YR (fun a ha=>qv (i:=.int .i64 348) rfl (ha.kv rfl) (idx_pow w)) (r_fa rfl fa_pow0 (r_ld rfl (hP.hi w hB) (r_nck rfl (r_fa rfl (fa_pre0 g) (Qt rfl rfl (QK (x:=a) Zk Zk ((yg hg 0).trans rfl) (yf hg 0)) (yx ?_))))))))))
 generalize (w.setCell ⟨g,0,none⟩ (.int .u64 9223372036854775808))=w1 at h1 t1 ⊢
 have h2:IsPre (w1.setCell ⟨g,1,none⟩ (.int .u64 0)) g 9223372036854775808 0 c:=yy h1 1 _ rfl
 have t2:=t1.set 1 (.int .u64 0)
 refine yF (yR rfl (yR rfl (ybV rfl rfl (m:=348) rfl (YR (fun a ha=>qv (i:=.int .i64 348) rfl (ha.kv rfl) (idx_pow w1)) (r_fa rfl fa_pow1 (r_ld rfl (hP.lo w1 (t1.below _ _ hge hB)) (r_nck rfl (r_fa rfl (fa_pre1 g) (Qt rfl rfl (QK (x:=b) Zk Zk ((yg h1 1).trans rfl) (yf h1 1)) (yx ?_))))))))))
 generalize (w1.setCell ⟨g,1,none⟩ (.int .u64 0))=w2 at h2 t2 ⊢
 have h3:IsPre (w2.setCell ⟨g,2,none⟩ (.int .i64 (-(e+3)))) g 9223372036854775808 0 (-(e+3)):=yy h2 2 _ rfl
 have t3:=t2.set 2 (.int .i64 (-(e+3)))
 refine at_r (yR rfl (yR rfl (yR rfl (QY rfl rfl (m:=e) (by rw [wrap_i64 Zo Zo];omega) (QY rfl rfl (m:=e+3) (wrap_i64 Zo Zo) (r_neg rfl (m := -(e+3)) (wrap_i64 Zo Zo) (r_nck rfl (r_fa rfl (fa_pre2 g) (Qt rfl rfl (QK (x:=c) Zk Zk ((yg h2 2).trans rfl) (yf h2 2)) (yx fun a ha=>?_))))))))))
 exact norm_at (fn:=Tryz.f250) rfl ⟨rfl,h3,t3⟩ ha
theorem frombits_run (x:Nat) (w:World):(callFunc 237 #[.int .u64 x]).run Tryz.prog w=.ok (.value (.float .f64 x)) w:=by kernel_rfl
section
variable {sz:Nat} {D:List Deferred} {L:Kn} {w:World} {ops:Array Oper} {K:Kn→World→Prop} {r:List Oper} {d:Nat} {ty:TypeId} {pos:String} {aft:Array Edge} {ts:Array TypeId}
theorem r_frombits {t x:Nat} (hx:lkv L t=some (.int .u64 x)) (h:yZ Tryz.prog sz D ops K r ((d,.float .f64 x)::L) w) (hd:d<sz:=by decide):yZ Tryz.prog sz D ops K (⟨some d,.call { callee:=.value (.func 237),args:=#[.tmp t],argTypes:=ts },ty,pos,aft,none⟩ :: r) L w:=
 YR (fun a ha=>by
  have h2:(execOp a.eval ⟨some d,.call { callee:=.value (.func 237),args:=#[.tmp t],argTypes:=ts },ty,pos,aft,none⟩).run Tryz.prog w=(callFunc 237 #[a.eval (.tmp t)]).run Tryz.prog w:=by
   unfold execOp
   simp [resolve,Deferred.ofValue,invoke,Act.eval]
  rw [h2,ha.at_ _ _ hx];exact frombits_run x w) h hd
end
set_option maxRecDepth 100000 in
theorem pack64_walk (s y e:Nat) (hs:s<2) (hy:y<4503599627370496) (he:e≤1) (w:World):Calls Tryz.prog 258 #[.int .u64 ((s * 9223372036854775808+4503599627370496+y:Nat):Int),.int .i64 e] w fun r w'=>r=.returned (.tuple #[.float .f64 (s * 9223372036854775808+(1075+e) * 4503599627370496+y),.nilIface])∧w'=w:=by
 have hP:(4503599627370496:Nat)=2 ^ 52:=by decide
 have hQ:(9223372036854775808:Nat)=2 ^ 63:=by decide
 refine YS 26 Tryz.func258 rfl Zk (by simp) ?_
 refine yF (Yb rfl (Yb rfl (yx ?_)))
 refine Yg (yF (yR rfl (ycj (.inl rfl) rfl rfl (m:=((4503599627370496:Nat):Int)) ?_ (r_eq64 rfl rfl false Zd (yx (Jt rfl (Jg ?_)))))))
 · have h:=(bits_nat .u64 64 Zd yaW (s * 9223372036854775808+4503599627370496+y) 4503599627370496 Zo Zo).1
   rw [and_52 hP hQ s y hy] at h
   exact h
 refine Yg (yF (yR rfl (r_geq rfl rfl false (decide_eq_false Zo) (yx (Jt rfl (Jg ?_))))))
 refine yF (yR rfl (ycj (.inr (.inr rfl)) rfl rfl (m:=((s * 9223372036854775808+y:Nat):Int)) ?_ (yR rfl (QY rfl rfl (m:=((1075+e:Nat):Int)) (by rw [wrap_i64 Zo Zo];omega) (r_cv rfl (v:=.int .u64 ((1075+e:Nat):Int)) ?_ (r_shl rfl rfl Zd Zd (m:=(((1075+e) * 4503599627370496:Nat):Int)) ?_ (ycj (.inr (.inl rfl)) rfl rfl (m:=((s * 9223372036854775808+(1075+e) * 4503599627370496+y:Nat):Int)) ?_ (r_frombits rfl (Yb rfl (Yb rfl (yx (JA fun a ha=>?_))))))))))))
 · rw [show (4503599627370496:Int)=((4503599627370496:Nat):Int) by decide,bits_andNot,not_52 hP hQ s y hy Zo]
   exact wrap_u64 Zo Zo
 · intro w
   have:(convert 3 30 (.int .i64 ((1075+e:Nat):Int))).run Tryz.prog w=.ok (.int .u64 (IntKind.u64.wrap ((1075+e:Nat):Int))) w:=by kernel_rfl
   rw [this,wrap_u64 Zo Zo]
 · rw [show ((52:Int)).toNat=52 from rfl,show (2:Int) ^ 52=4503599627370496 by decide,wrap_u64 Zo Zo];omega
 · have h:=(bits_nat .u64 64 Zd yaW (s * 9223372036854775808+y) ((1075+e) * 4503599627370496) Zo Zo).2
   rw [or_52 hP hQ s y (1075+e) hy Zo Zo] at h
   exact h
 · exact J2 (fn:=Tryz.f258) (vs:=[.float .f64 (s * 9223372036854775808+(1075+e) * 4503599627370496+y),.nilIface]) rfl ⟨rfl,rfl⟩ ha
end Go.Proofs.YtlmennkeggmdbaaGreatDoor
