/- Part 18 of 44 of the proof of the tied card of FnXfsRead. -/
import Derived.Test.YtdcaggoicdfehaaGreatDoorVz
import Derived.Test.YtdcaggoicdfehaaGreatDoorV17
set_option linter.unusedVariables false
set_option linter.unusedSimpArgs false
namespace Go.Proofs.YtdcaggoicdfehaaGreatDoor
open Go.RowKit Go.Proofs.YtdcaggoicdfehaaGreatDoorW.PrintWords Go.Proofs.YtdcaggoicdfehaaGreatDoorW.PrintLast Go.Proofs.YtdcaggoicdfehaaGreatDoorW.PrintMore
structure LI (w0:World) (gs gl:Nat) (rows:List (List UInt8 × Nat × (Nat→Nat))) (n:Nat→Nat→Int) (a:Act) (w:World):Prop where
 size:a.tmps.size=364
 defers:a.defers=[]
 e4:a.eval (.tmp 4)=.pointer (some ⟨gs,0,none⟩)
 e5:a.eval (.tmp 5)=.pointer (some ⟨gl,0,none⟩)
 lines:∃ l,JO w gl ⟨(Y5 rows).toArray⟩ l
 stats:w.heap[gs]?=some (.cells (yj ⟨#[]⟩ n) 127 (0,0))
 below:Below w0.heap.size w0 w
 ges:w0.heap.size≤gs
 gel:w0.heap.size≤gl
 ne:gs≠gl
theorem qD {B g:Nat} {w0:World} (hg:B≤g):∀ (vs:List Value) (o:Nat) (w:World),Below B w0 w→Below B w0 (w.setCells g o vs)
 | [],_,_,h=>h
 | v::r,o,w,h=>qD hg r (o+1) _ (h.setCell (p:=⟨g,o,none⟩) hg v)
theorem li_next {w0 W:World} {gs gl fo:Nat} {vs:List Value} {rows:List (List UInt8 × Nat × (Nat→Nat))} {n:Nat→Nat→Int} {a:Act} {l:ByteArray} (h1:a.tmps.size=364) (h2:a.defers=[])
 (h4:a.eval (.tmp 4)=.pointer (some ⟨gs,0,none⟩)) (h5:a.eval (.tmp 5)=.pointer (some ⟨gl,0,none⟩)) (hL:JO W gl ⟨(Y5 rows).toArray⟩ l)
 (hst:(W.setCells gs fo vs).heap[gs]?=some (.cells (yj ⟨#[]⟩ n) 127 (0,0))) (hB:Below w0.heap.size w0 W) (hgs:w0.heap.size≤gs) (hgl:w0.heap.size≤gl) (hne:gs≠gl) :
 LI w0 gs gl rows n a (W.setCells gs fo vs):=
 ⟨h1,h2,h4,h5,⟨l,(yaa (Ne.symm hne) _ _ _).trans hL⟩,hst,qD hgs _ _ _ hB,hgs,hgl,hne⟩
def After (gs gl:Nat) (w:World) (n:Nat→Nat→Int) (a:Act) (w':World):Prop:=
 ∃ w7 fo vs,Below w.heap.size w w7∧w'=w7.setCells gs fo vs∧w'.heap[gs]?=some (.cells (yj ⟨#[]⟩ n) 127 (0,0))∧a.tmps.size=364∧a.defers=[]∧a.eval (.tmp 4)=.pointer (some ⟨gs,0,none⟩)∧a.eval (.tmp 5)=.pointer (some ⟨gl,0,none⟩)∧a.eval (.tmp 15)=.nilIface
theorem Jq {id k gs gl g m cap fi fo T i:Nat} {a:Act} {w:World} {f:FuncId} {fn:Func} {n:Nat→Nat→Int} {x:Nat→Int} {cells:Array Value} {lab:ByteArray}
 {d0 d1 d2 d3 d4 d5 d6 d7:TypeId} {p0 p1 p2 p3 p4 p5 p6 p7:String} {a0 a1 a2 a3 a4 a5 a6 a7:Array Edge} {ts:Array TypeId}
 (hf:Tryz.prog.funcs[f]?=some fn) (hname:(fn.name == "runtime.NumGoroutine")=false) (hbody:fn.body.isSome=true)
 (hcall:Calls Tryz.prog f #[.slice (some ⟨g,0,none⟩) m cap] w fun e w'=>e=.returned (.tuple #[.agg cells,.nilIface])∧Below w.heap.size w w')
 (hfa:∀ W:World,(Instr.fieldAt 127 (.pointer (some ⟨gs,0,none⟩)) fi).run Tryz.prog W=.ok (.pointer (some ⟨gs,fo,none⟩)) W)
 (hi:(Tryz.prog.info? T).map (·.size)=some cells.size) (hone:cells.all (·.oneCell')=true) (hfit:fo+cells.size≤276)
 (hn':yT (yj ⟨#[]⟩ n) fo cells.toList=yj ⟨#[]⟩ (upd n i x)) (hk:110<k) (hk2:k+5<364) (hS:SW gs gl g m cap lab a) (hblk:w.heap[gs]?=some (.cells (yj ⟨#[]⟩ n) 127 (0,0))) :
 (Code.region id #[⟨some (k+1),.move (.tmp 14),d0,p0,a0,none⟩,⟨some (k+2),.call { callee:=.value (.func f),args:=#[.tmp (k+1)],argTypes:=ts },d1,p1,a1,none⟩,⟨some k,.move (.tmp (k+2)),d2,p2,a2,none⟩,⟨some (k+3),.extract (.tmp k) 0,d3,p3,a3,none⟩,
  ⟨some (k+4),.extract (.tmp k) 1,d4,p4,a4,none⟩,⟨some (k+5),.fieldAddr 127 (.tmp 4) fi,d5,p5,a5,none⟩,⟨none,.store T (.tmp (k+5)) (.tmp (k+3)),d6,p6,a6,none⟩,⟨some 15,.assign (.tmp (k+4)),d7,p7,a7,none⟩] false).wp Tryz.prog (fun e a' w'=>e=.normal∧After gs gl w (upd n i x) a' w') a w:=by
 refine arm_run (k:=k) (sr:=14) (er:=15) (fo:=fo) hf hname hbody hcall hfa hi hone hfit hn' (yaD _ _) hS.size hS.e4 hS.e14 Zo hk2 Zo hblk ?_
 intro a2 w7 w8 hB7 hw8 hst8 hs2 hd2 ho2 h15
 exact ⟨rfl,w7,fo,_,hB7,hw8,hst8,hs2,hd2.trans hS.defers,(ho2 4 Zo Zd).trans hS.e4,(ho2 5 Zo Zd).trans hS.e5,h15⟩
theorem groups_mem (L:List (List UInt8)) (h:(List.range 33).all (fun i=>match yZ[i]? with|some g=>L.contains g.f0.data.toList|none=>true)=true) (i:Nat) (g:S53) (hi:i<33) (hg:yZ[i]?=some g):g.f0.data.toList ∈ L:=by
 have h1:=List.all_eq_true.1 h i (List.mem_range.2 hi)
 rw [hg] at h1
 simpa using h1
theorem groups_gc (i:Nat) (g:S53) (hi:i<33) (hg:yZ[i]?=some g):g.f0≠⟨#[103,99]⟩:=by
 have h:(List.range 33).all (fun i=>match yZ[i]? with|some g=>g.f0.data.toList != [103,99]|none=>true)=true:=by kernel_rfl
 have h1:=List.all_eq_true.1 h i (List.mem_range.2 hi)
 rw [hg] at h1
 intro e
 simp [e] at h1
theorem Yn (c:List UInt8) (k:Nat) (h:(List.range 34).all (fun i=>match yZ[i]? with|some g=>g.f0.data.toList != c || i == k|none=>true)=true) (i:Nat) (g:S53) (hi:i<34) (hg:yZ[i]?=some g) (hc:g.f0.data.toList=c):i=k:=by
 have h1:=List.all_eq_true.1 h i (List.mem_range.2 hi)
 rw [hg] at h1
 simpa [hc] using h1
theorem groups_pos:∀ g ∈ yZ,0<g.f2.length:=by
 have h:yZ.all (fun g=>decide (0<g.f2.length))=true:=by kernel_rfl
 exact fun g hg=>of_decide_eq_true (List.all_eq_true.1 h g hg)
theorem groups_small:∀ g ∈ yZ,g.f2.length<100:=by
 have h:yZ.all (fun g=>decide (g.f2.length<100))=true:=by kernel_rfl
 exact fun g hg=>of_decide_eq_true (List.all_eq_true.1 h g hg)
set_option maxRecDepth 100000 in
set_option maxHeartbeats 4000000 in
theorem ycC (rows:List (List UInt8 × Nat × (Nat→Nat))) (hrows:∀ r ∈ rows,RowOk r.1 r.2.1 r.2.2) (w:World) (htab:∀ W,Below w.heap.size w W→Lib.TabIs Tryz.prog W "strings.asciiSpace" .u8 Lib.asciiSpaceTab) :
 Calls Tryz.prog 22 #[.string ⟨(Y5 rows).toArray⟩] w fun e w'=>∃ gs,e=.returned (.tuple #[.pointer (some ⟨gs,0,none⟩),.nilIface])∧w.heap.size≤gs∧w'.heap[gs]?=some (.cells (yj ⟨#[]⟩ (YZ (fun _ _=>0) rows)) 127 (0,0))∧Below w.heap.size w w':=by
 go_enter Tryz.func22,Tryz.ntmps22
 generalize ha0:(Act.mk _ _)=a0
 have hsz:a0.tmps.size=Tryz.f22.ntmps:=by rw [← ha0];rfl
 replace hsz:a0.tmps.size=364:=hsz.trans Zk
 have hdf:a0.defers=[]:=by rw [← ha0]
 have e0:a0.eval (.tmp 0)=.string ⟨(Y5 rows).toArray⟩:=by rw [← ha0];rfl
 clear ha0
 refine yB ?_
 refine yf rfl (yX (v:=.pointer none) rfl) ?_
 refine yf rfl (yX (v:=.nilIface) rfl) ?_
 refine yG ?_
 refine yB ?_
 refine yf rfl (Y9 (show _=Result.ok (.pointer (some ⟨w.heap.size,0,none⟩)) (w.alloc (.cells (yj ⟨#[]⟩ fun _ _=>0) 127)) by kernel_rfl)) ?_
 refine yG ?_
 have hst:=Y2 w (.cells (yj ⟨#[]⟩ fun _ _=>0) 127 (0,0))
 have hB1:Below w.heap.size w (w.alloc (.cells (yj ⟨#[]⟩ fun _ _=>0) 127)):=ym (Below.refl _ _) _
 have hz1:(w.alloc (.cells (yj ⟨#[]⟩ fun _ _=>0) 127 (0,0))).heap.size=w.heap.size+1:=by simp
 generalize (w.alloc (.cells (yj ⟨#[]⟩ fun _ _=>0) 127 (0,0)))=w1 at hst hB1 hz1 ⊢
 refine wp_seq ?_
 refine wp_region_list ?_
 refine Kd.yh rfl (yJ (v:=.string ⟨(Y5 rows).toArray⟩) (by simp (disch:=exact Zq hsz) only [ya,yb,e0])) ?_
 refine Yp (some 17) rfl rfl Tryz.func42 Zk rfl #[.string ⟨(Y5 rows).toArray⟩] rfl (JX (ya _ (by simp only [size_put,hsz];decide))) ?_
 refine (ydE _ w1).mono ?_
 rintro e w2 ⟨rfl,hL2,hB2⟩
 refine ⟨_,rfl,?_⟩
 refine Kd.yh rfl (yX (v:=.pointer (some ⟨w1.heap.size,0,none⟩)) (ya _ (by simp only [size_put,hsz];decide))) ?_
 refine wpList_nil ?_
 simp only [Exit.then]
 have hI0:∀ b:Act,b.tmps.size=364→b.defers=[]→b.eval (.tmp 4)=.pointer (some ⟨w.heap.size,0,none⟩)→b.eval (.tmp 5)=.pointer (some ⟨w1.heap.size,0,none⟩)→LI w w.heap.size w1.heap.size rows (fun _ _=>0) b w2:=fun b h1 h2 h3 h4=>
  ⟨h1,h2,h3,h4,⟨_,hL2⟩,yE hst hB2,yy hB1 hB2,Nat.le_refl _,by omega,by omega⟩
 generalize hb0:(Act.put _ (some 5) _)=b0
 replace hI0:=hI0 b0 (by rw [← hb0];simp only [size_put];exact hsz) (by rw [← hb0];simp only [yq];exact hdf) (by rw [← hb0];simp (disch:=exact Zq hsz) only [ya,yb]) (by rw [← hb0];simp (disch:=exact Zq hsz) only [ya,yb])
 clear hb0
 refine wp_seq ?_
 refine wp_block ?_
 refine wp_loop_ghost (fun r a w'=>∃ rs n,r=rs.length∧(∀ x ∈ rs,RowOk x.1 x.2.1 x.2.2)∧YZ n rs=YZ (fun _ _=>0) rows∧LI w w.heap.size w1.heap.size rs n a w') rows.length ⟨rows,_,rfl,hrows,rfl,hI0⟩ ?_
 rintro r a wr ⟨rs,n,rfl,hok,hnum,hI⟩
 obtain ⟨l,hlines⟩:=hI.lines
 have hsa:=hI.size
 refine wp_seq ?_
 refine wp_seq ?_
 refine wp_region_list ?_
 refine Kd.yh rfl (yJ hI.e5) ?_
 cases rs with
 | nil=>
  refine Yp (some 19) rfl rfl Tryz.func43 Zk rfl #[.pointer (some ⟨w1.heap.size,0,none⟩)] rfl (JX (ya _ Zo)) ?_
  refine (scan_end hlines).mono ?_
  rintro e w3 ⟨rfl,hL3,hT3⟩
  refine ⟨_,rfl,?_⟩
  refine wpList_nil ?_
  simp only [Exit.then]
  refine wp_cond_false (ya _ Zs) ?_
  refine wp_exit ?_
  simp only [Exit.then,Exit.inBlock,if_true]
  refine wp_seq ?_
  refine wp_region_list ?_
  refine Kd.yh rfl (yJ (v:=.pointer (some ⟨w1.heap.size,0,none⟩)) ((yb _ Zd).trans ((yb _ Zd).trans hI.e5))) ?_
  refine Yp (some 363) rfl rfl Tryz.func81 Zk rfl #[.pointer (some ⟨w1.heap.size,0,none⟩)] rfl (JX (ya _ Zs)) ?_
  refine (err_walk hL3).mono ?_
  rintro e w4 ⟨rfl,rfl⟩
  refine ⟨_,rfl,?_⟩
  refine Kd.yh rfl (yX (v:=.pointer (some ⟨w.heap.size,0,none⟩)) ?_) ?_
  · rw [yb _ Zd,yb _ Zd,yb _ Zd,yb _ Zd];exact hI.e4
  refine Kd.yh rfl (yX (v:=.nilIface) ?_) ?_
  · rw [yb _ Zd,ya _ Zs]
  refine wpList_nil ?_
  simp only [Exit.then]
  refine wp_ret ?_
  refine bodyPost_ret (results_tmp2 rfl _ _ _) (by simp only [yq];exact hI.defers) ⟨w.heap.size,?_,Nat.le_refl _,?_,hT3.below _ _ hI.gel hI.below⟩
  · have h2:∀ b:Act,b.tmps.getD 2 undef=b.eval (.tmp 2):=fun _=>rfl
    have h3:∀ b:Act,b.tmps.getD 3 undef=b.eval (.tmp 3):=fun _=>rfl
    rw [h2,h3,yb _ Zd,ya _ Zs,ya _ Zs]
  · rw [← hnum];exact (hT3.other _ hI.ne).trans hI.stats
 | cons r rs=>
  have hr:=hok r (List.mem_cons_self ..)
  obtain ⟨gr,toks,hgr,hfl,htl,hpu⟩:=hr.flds
  have hls:(⟨r.1.toArray⟩:ByteArray).size=r.1.length:=by simp [ByteArray.size]
  refine Yp (some 19) rfl rfl Tryz.func43 Zk rfl #[.pointer (some ⟨w1.heap.size,0,none⟩)] rfl (JX (ya _ Zo)) ?_
  refine (scan_line (L:=r.1) (R:=Y5 rs) hlines (by simp [Y5]) hr.noLF hr.ne hr.last hr.len).mono ?_
  rintro e w3 ⟨rfl,hL3,hT3⟩
  refine ⟨_,rfl,?_⟩
  refine wpList_nil ?_
  simp only [Exit.then]
  refine wp_cond_true (ya _ Zs) ?_
  refine wp_skip ?_
  simp only [Exit.then]
  have hst3:w3.heap[w.heap.size]?=some (.cells (yj ⟨#[]⟩ n) 127 (0,0)):=(hT3.other _ hI.ne).trans hI.stats
  have hB3:Below w.heap.size w w3:=hT3.below _ _ hI.gel hI.below
  generalize hc0:(Act.put _ (some 19) _)=c0
  have cs:c0.tmps.size=364:=by rw [← hc0];simp only [size_put];exact hsa
  have cd:c0.defers=[]:=by rw [← hc0];simp only [yq];exact hI.defers
  have c4:c0.eval (.tmp 4)=.pointer (some ⟨w.heap.size,0,none⟩):=by rw [← hc0,yb _ Zd,yb _ Zd];exact hI.e4
  have c5:c0.eval (.tmp 5)=.pointer (some ⟨w1.heap.size,0,none⟩):=by rw [← hc0,yb _ Zd,yb _ Zd];exact hI.e5
  clear hc0
  refine wp_block ?_
  refine wp_seq ?_
  refine wp_region_list ?_
  refine Kd.yh rfl (yJ c5) ?_
  refine Yp (some 21) rfl rfl Tryz.func45 Zk rfl #[.pointer (some ⟨w1.heap.size,0,none⟩)] rfl (JX (ya _ Zo)) ?_
  refine (bytes_walk hL3).mono ?_
  rintro e w4 ⟨bcap,rfl,rfl⟩
  refine ⟨_,rfl,?_⟩
  refine Kd.yh rfl (ybf (p:=.slice (some ⟨w3.heap.size,0,none⟩) r.1.length bcap) (v:=.string ⟨r.1.toArray⟩) ?_ (run_convert_bytes_back (P:=Tryz.prog) _ 144 9 5 ⟨w3.heap.size,0,none⟩ bcap r.1 Tryz.underlying144 Tryz.underlying5 Tryz.underlying9 ?_)) ?_
  · rw [ya _ Zs,hls]
  · intro j hj
    rw [Addr.add_mid,Nat.zero_add,Lib.bytesWorld_cell _ _ _ _ (by rw [hls];exact hj)]
    simp [List.getD_eq_getElem?_getD,hj]
  have hB4:Below w3.heap.size w3 (Lib.bytesWorld w3 5 ⟨r.1.toArray⟩):=Lib.bytesWorld_below _ _ _
  have hBw4:Below w.heap.size w (Lib.bytesWorld w3 5 ⟨r.1.toArray⟩):=yy hB3 hB4
  have hst4:=yE hst3 hB4
  have hL4:JO _ _ _ _:=yE hL3 hB4
  generalize (Lib.bytesWorld w3 5 ⟨r.1.toArray⟩)=w4 at hB4 hBw4 hst4 hL4 ⊢
  refine Yp (some 23) rfl rfl Tryz.func44 Zk rfl #[.string ⟨r.1.toArray⟩] rfl (JX (ya _ Zs)) ?_
  refine (Tryz.strings_Fields ⟨r.1.toArray⟩ w4 (by rw [hls];have:=hr.len;omega) (fun j b hb=>hr.ascii b (List.mem_of_getElem? (by simpa using hb))) (htab w4 hBw4)).mono ?_
  rintro e w5 ⟨rfl,rfl⟩
  refine ⟨_,rfl,?_⟩
  have hfl':Lib.fields (⟨r.1.toArray⟩:ByteArray).data.toList=gr.f0.data.toList::toks:=by simpa using hfl
  rw [hfl']
  refine Kd.yh rfl (yX (ya _ Zs)) ?_
  refine wpList_nil ?_
  simp only [Exit.then,List.length_cons]
  have hcells:=Y2 w4 (.cells (((gr.f0.data.toList::toks).map fun l=>Value.string ⟨l.toArray⟩).toArray) 9 (0,0))
  have hB5:Below w4.heap.size w4 (w4.alloc (.cells (((gr.f0.data.toList::toks).map fun l=>Value.string ⟨l.toArray⟩).toArray) 9 (0,0))):=ym (Below.refl _ _) _
  generalize (w4.alloc (.cells (((gr.f0.data.toList::toks).map fun l=>Value.string ⟨l.toArray⟩).toArray) 9 (0,0)))=w5 at hcells hB5 ⊢
  have hBw5:=yy hBw4 hB5
  have hst5:=yE hst4 hB5
  have hL5:JO _ _ _ _:=yE hL4 hB5
  generalize hd0:(Act.put _ (some 6) _)=d0
  have ds:d0.tmps.size=364:=by rw [← hd0];simp only [size_put];exact cs
  have dd:d0.defers=[]:=by rw [← hd0];simp only [yq];exact cd
  have d4:d0.eval (.tmp 4)=.pointer (some ⟨w.heap.size,0,none⟩):=by rw [← hd0];simp (disch:=decide) only [yb,c4]
  have d5:d0.eval (.tmp 5)=.pointer (some ⟨w1.heap.size,0,none⟩):=by rw [← hd0];simp (disch:=decide) only [yb,c5]
  have d6:d0.eval (.tmp 6)=.slice (some ⟨w4.heap.size,0,none⟩) (toks.length+1) (toks.length+1):=by rw [← hd0,ya _ Zs]
  clear hd0
  have hm0:0<toks.length:=by
   rw [htl]
   have:∀ (i:Nat) (g:S53),yZ[i]?=some g→0<g.f2.length:=fun i g h=>groups_pos g (List.mem_of_getElem? h)
   exact this _ _ hgr
  refine wp_seq ?_
  refine yB ?_
  refine yf rfl (yJ d6) ?_
  refine yf rfl (JE Tryz.underlying44 (n:=toks.length+1) (A:=some ⟨w4.heap.size,0,none⟩) (cap:=toks.length+1) (ya _ Zo) _) ?_
  refine yf rfl (Q4 (i:=((toks.length+1:Nat):Int)) (n:=2) (ya _ Zs) rfl) ?_
  rw [decide_eq_false Zo]
  refine yG ?_
  refine wp_cond_false (ya _ Zs) ?_
  refine wp_skip ?_
  simp only [Exit.then]
  refine yB ?_
  refine yf rfl (yJ (v:=.slice (some ⟨w4.heap.size,0,none⟩) (toks.length+1) (toks.length+1)) (by simp (disch:=exact Zq ds) only [ya,yb,d6])) ?_
  refine yf rfl (qa (u:=.slice (some ⟨w4.heap.size,0,none⟩) (toks.length+1) (toks.length+1)) (i:=.int .i64 ((0:Nat):Int)) (by simp (disch:=exact Zq ds) only [ya,yb]) rfl (idx_of Tryz.underlying44 Zk (show 0<toks.length+1 by omega) _)) ?_
  refine yf rfl (run_load (p:=.pointer (some ⟨w4.heap.size,0,none⟩)) (v:=.string gr.f0) (by simp (disch:=exact Zq ds) only [ya,yb]) (qN Zk ?_)) ?_
  · rw [ye hcells];simp
  refine yf rfl (yX (v:=.string gr.f0) (by simp (disch:=exact Zq ds) only [ya,yb])) ?_
  refine yG ?_
  simp only
  generalize hf0:(Act.put _ (some 7) _)=f0
  have fs:f0.tmps.size=364:=by rw [← hf0];simp only [size_put];exact ds
  have fd:f0.defers=[]:=by rw [← hf0];simp only [yq];exact dd
  have f4:f0.eval (.tmp 4)=.pointer (some ⟨w.heap.size,0,none⟩):=by rw [← hf0];simp (disch:=decide) only [yb,d4]
  have f5:f0.eval (.tmp 5)=.pointer (some ⟨w1.heap.size,0,none⟩):=by rw [← hf0];simp (disch:=decide) only [yb,d5]
  have f6:f0.eval (.tmp 6)=.slice (some ⟨w4.heap.size,0,none⟩) (toks.length+1) (toks.length+1):=by rw [← hf0];simp (disch:=decide) only [yb,d6]
  have f7:f0.eval (.tmp 7)=.string gr.f0:=by rw [← hf0,ya _ Zs]
  clear hf0
  have hgc:gr.f0≠⟨#[103,99]⟩:=groups_gc _ _ hr.idx hgr
  refine wp_seq ?_
  refine wp_seq ?_
  refine wp_region_list (Q5 ?_)
  refine Yh rfl (yJ (v:=.string gr.f0) f7) ?_
  refine Yh rfl (run_seq (s:=gr.f0) (by simp (disch:=exact Zq fs) only [ya,yb])) ?_
  rw [ya4,decide_eq_false hgc]
  refine Yh rfl (yJ (v:=.bool false) (by simp (disch:=exact Zq fs) only [ya,yb])) ?_
  refine Y4 (JF (d:=32) (b':=false) rfl rfl rfl (by simp only [size_put,fs];decide) (by simp (disch:=exact Zq fs) only [ya,yb]) Zd) ?_
  refine Y4 (JF (d:=32) (b':=false) rfl rfl rfl (by simp only [size_put,fs];decide) (by simp (disch:=exact Zq fs) only [ya,yb]) Zd) ?_
  refine Y4 (JF (d:=32) (b':=false) rfl rfl rfl (by simp only [size_put,fs];decide) (by simp (disch:=exact Zq fs) only [ya,yb]) Zd) ?_
  refine Yh rfl (Jr (b:=false) (by simp (disch:=exact Zq fs) only [ya,yb])) ?_
  rw [if_neg Zd]
  refine Yh rfl (yJ (v:=.bool false) ?_) ?_
  · rw [ya _ (by simp only [size_put,fs];decide)];rfl
  refine Y4 (JF (d:=37) (b':=false) rfl rfl rfl (by simp only [size_put,fs];decide) (by simp (disch:=exact Zq fs) only [ya,yb]) Zd) ?_
  refine Y4 (JF (d:=37) (b':=false) rfl rfl rfl (by simp only [size_put,fs];decide) (by simp (disch:=exact Zq fs) only [ya,yb]) Zd) ?_
  refine Y4 (JF (d:=37) (b':=false) rfl rfl rfl (by simp only [size_put,fs];decide) (by simp (disch:=exact Zq fs) only [ya,yb]) Zd) ?_
  refine Y4 (JF (d:=37) (b':=false) rfl rfl rfl (by simp only [size_put,fs];decide) (by simp (disch:=exact Zq fs) only [ya,yb]) Zd) ?_
  refine Yh rfl (Jr (b:=false) (by simp (disch:=exact Zq fs) only [ya,yb])) ?_
  rw [if_neg Zd]
  refine yaV ?_
  refine wp_cond_false (?_:_=Value.bool false) ?_
  · rw [ya _ (by simp only [size_put,fs];decide)];rfl
  refine wp_skip ?_
  simp only [Exit.then]
  generalize hg0:(Act.put _ (some 42) _)=g0
  have gs:g0.tmps.size=364:=by rw [← hg0];simp only [size_put];exact fs
  have gd:g0.defers=[]:=by rw [← hg0];simp only [yq];exact fd
  have g4:g0.eval (.tmp 4)=.pointer (some ⟨w.heap.size,0,none⟩):=by rw [← hg0];simp (disch:=decide) only [yb,f4]
  have g5:g0.eval (.tmp 5)=.pointer (some ⟨w1.heap.size,0,none⟩):=by rw [← hg0];simp (disch:=decide) only [yb,f5]
  have g6:g0.eval (.tmp 6)=.slice (some ⟨w4.heap.size,0,none⟩) (toks.length+1) (toks.length+1):=by rw [← hg0];simp (disch:=decide) only [yb,f6]
  have g7:g0.eval (.tmp 7)=.string gr.f0:=by rw [← hg0];simp (disch:=decide) only [yb,f7]
  clear hg0
  have hcs:∀ j:Nat,j<toks.length→w5.cell? ⟨w4.heap.size,1+j,none⟩=some (.string ⟨(toks.getD j []).toArray⟩):=fun j hj=>by
   rw [ye hcells]
   simp [Nat.add_comm 1 j,List.getElem?_map,List.getD_eq_getElem?_getD,hj]
  have htk:∀ j:Nat,j<toks.length→(⟨(toks.getD j []).toArray⟩:ByteArray).size≤9223372036854775806∧Lib.parseUintB (if r.2.1=13∨r.2.1=32 then 64 else 32) (⟨(toks.getD j []).toArray⟩:ByteArray).data.toList=.ok (r.2.2 j):=fun j hj=>by
   have hg:=hpu j toks[j] (List.getElem?_eq_getElem hj)
   have e:toks.getD j []=toks[j]:=by simp [List.getD_eq_getElem?_getD,hj]
   rw [e]
   refine ⟨?_,by simpa using hg.2⟩
   have h1:(⟨(toks[j]).toArray⟩:ByteArray).size=(toks[j]).length:=by simp [ByteArray.size]
   rw [h1]
   have:=hg.1
   omega
  refine lab_if (k:=61) gs Zd Zd g7 (fun hlab h0 hs0 hd0 ho0=>?_) (fun hlab1 h0 hs0 hd0 ho0=>?_)
  · have hi13:r.2.1=13:=Yn [120,112,99] 13 Zk _ _ (by have:=hr.idx;omega) hgr (by rw [hlab])
    have hm3:toks.length=3:=by
     rw [htl]
     rw [hi13] at hgr
     obtain rfl:=Option.some.inj hgr
     rfl
    rw [hm3] at hcs htk g6
    rw [hi13] at htk
    have hlt:=hr.lt
    rw [hi13] at hlt
    have hcal:=ybZ w4.heap.size 1 3 3 (fun j=>⟨(toks.getD j []).toArray⟩) r.2.2 w5 Zd Zd (fun j hj=>(htk j hj).1) (fun j hj=>(htk j hj).2) (fun j _=>hlt j) (Yy hcells) hcs
    refine yb8 (k:=63) (ur:=10) (er:=11) (m:=3) (K:=.u64) (x:=r.2.2) Tryz.func46 Zk rfl hcal Zd hs0 ((ho0 6 Zd).trans g6) Zd Zd Zd Zd Zd ?_
    intro k0 w6 gu cu hge hgu hnu hB6 hsk hdk hok0 hk10 hk11
    refine Ql (k:=69) hsk Zd hk11 ?_
    intro k1 hs1 hd1 ho1
    have hst6:=yE hst5 hB6
    have hL6:JO _ _ _ _:=yE hL5 hB6
    refine wp_seq ?_
    have hlay:yT (yj ⟨#[]⟩ n) 65 (#[.int .u64 (r.2.2 0),.int .u64 (r.2.2 1),.int .u64 (r.2.2 2)]:Array Value).toList=yj ⟨#[]⟩ (upd n 13 fun j=>(r.2.2 j:Int)):=lay13 ⟨#[]⟩ n (fun j=>(r.2.2 j:Int))
    have hone:(#[.int .u64 (r.2.2 0),.int .u64 (r.2.2 1),.int .u64 (r.2.2 2)]:Array Value).all (·.oneCell')=true:=by kernel_rfl
    have hinf:(Tryz.prog.info? 96).map (·.size)=some (#[.int .u64 (r.2.2 0),.int .u64 (r.2.2 1),.int .u64 (r.2.2 2)]:Array Value).size:=by kernel_rfl
    have hfa:∀ W:World,(Instr.fieldAt 127 (.pointer (some ⟨w.heap.size,0,none⟩)) 14).run Tryz.prog W=.ok (.pointer (some ⟨w.heap.size,65,none⟩)) W:=fun W=>by kernel_rfl
    have hcal2:=QB gu cu (fun j=>(r.2.2 j:Int)) w6 hgu hnu
    refine arm_run (k:=72) (sr:=10) (er:=11) (fo:=65) (n':=upd n 13 fun j=>(r.2.2 j:Int)) (s:=⟨#[]⟩) (cells:=#[.int .u64 (r.2.2 0),.int .u64 (r.2.2 1),.int .u64 (r.2.2 2)]) Tryz.func48 Zk rfl hcal2 hfa hinf hone (show 65+3≤276 by decide) hlay (yaD _ _) hs1 ?_ ?_ Zd Zd Zd hst6 ?_
    · rw [ho1 4 Zd Zd,hok0 4 Zd Zd Zd,ho0 4 Zd];exact g4
    · rw [ho1 10 Zd Zd];exact hk10
    intro k2 w7 w8 hB7 hw8 hst8 hs2 hd2 ho2 hk2
    simp only [Exit.then]
    refine Ql (k:=78) hs2 Zd hk2 ?_
    intro k3 hs3 hd3 ho3
    refine wp_exit ?_
    simp only [Exit.then,Exit.inBlock,if_true]
    refine ⟨rs.length,by simp,rs,upd n 13 fun j=>(r.2.2 j:Int),rfl,fun x hx=>hok x (List.mem_cons_of_mem _ hx),?_,?_⟩
    · rw [← hnum];simp only [YZ,hi13]
    rw [hw8] at hst8 ⊢
    refine li_next hs3 ?_ ?_ ?_ (yE hL6 hB7) hst8 (yy (yy hBw5 hB6) hB7) hI.ges hI.gel hI.ne
    · rw [hd3,hd2,hd1,hdk,hd0];exact gd
    · rw [ho3 4 Zd Zd,ho2 4 Zd Zd,ho1 4 Zd Zd,hok0 4 Zd Zd Zd,ho0 4 Zd];exact g4
    · rw [ho3 5 Zd Zd,ho2 5 Zd Zd,ho1 5 Zd Zd,hok0 5 Zd Zd Zd,ho0 5 Zd];exact g5
  refine lab_if (k:=81) hs0 Zd Zd ((ho0 7 Zd).trans g7) (fun hlab h1 hs1 hd1 ho1=>?_) (fun hlab2 h1 hs1 hd1 ho1=>?_)
  · have hi32:r.2.1=32:=Yn [100,101,102,101,114,95,114,101,108,111,103] 32 Zk _ _ (by have:=hr.idx;omega) hgr (by rw [hlab])
    have hm1:toks.length=1:=by
     rw [htl]
     rw [hi32] at hgr
     obtain rfl:=Option.some.inj hgr
     rfl
    rw [hm1] at hcs htk g6
    rw [hi32] at htk
    have hlt:=hr.lt
    rw [hi32] at hlt
    have hcal:=ybZ w4.heap.size 1 1 1 (fun j=>⟨(toks.getD j []).toArray⟩) r.2.2 w5 Zd Zd (fun j hj=>(htk j hj).1) (fun j hj=>(htk j hj).2) (fun j _=>hlt j) (Yy hcells) hcs
    refine yb8 (k:=83) (ur:=12) (er:=13) (m:=1) (K:=.u64) (x:=r.2.2) Tryz.func46 Zk rfl hcal Zd hs1 ((ho1 6 Zd).trans ((ho0 6 Zd).trans g6)) Zd Zd Zd Zd Zd ?_
    intro k0 w6 gu cu hge hgu hnu hB6 hsk hdk hok0 hk12 hk13
    refine Ql (k:=89) hsk Zd hk13 ?_
    intro k1 hs1' hd1' ho1'
    have hst6:=yE hst5 hB6
    have hL6:JO _ _ _ _:=yE hL5 hB6
    refine wp_seq ?_
    have hlay:yT (yj ⟨#[]⟩ n) 274 (#[.int .u64 (r.2.2 0)]:Array Value).toList=yj ⟨#[]⟩ (upd n 32 fun j=>(r.2.2 j:Int)):=lay32 ⟨#[]⟩ n (fun j=>(r.2.2 j:Int))
    have hone:(#[.int .u64 (r.2.2 0)]:Array Value).all (·.oneCell')=true:=by kernel_rfl
    have hinf:(Tryz.prog.info? 123).map (·.size)=some (#[.int .u64 (r.2.2 0)]:Array Value).size:=by kernel_rfl
    have hfa:∀ W:World,(Instr.fieldAt 127 (.pointer (some ⟨w.heap.size,0,none⟩)) 33).run Tryz.prog W=.ok (.pointer (some ⟨w.heap.size,274,none⟩)) W:=fun W=>by kernel_rfl
    have hcal2:=yaR gu cu (fun j=>(r.2.2 j:Int)) w6 hgu hnu
    refine arm_run (k:=92) (sr:=12) (er:=13) (fo:=274) (n':=upd n 32 fun j=>(r.2.2 j:Int)) (s:=⟨#[]⟩) (cells:=#[.int .u64 (r.2.2 0)]) Tryz.func49 Zk rfl hcal2 hfa hinf hone (show 274+1≤276 by decide) hlay (yaD _ _) hs1' ?_ ?_ Zd Zd Zd hst6 ?_
    · rw [ho1' 4 Zd Zd,hok0 4 Zd Zd Zd,ho1 4 Zd,ho0 4 Zd];exact g4
    · rw [ho1' 12 Zd Zd];exact hk12
    intro k2 w7 w8 hB7 hw8 hst8 hs2 hd2 ho2 hk2
    simp only [Exit.then]
    refine Ql (k:=98) hs2 Zd hk2 ?_
    intro k3 hs3 hd3 ho3
    refine wp_exit ?_
    simp only [Exit.then,Exit.inBlock,if_true]
    refine ⟨rs.length,by simp,rs,upd n 32 fun j=>(r.2.2 j:Int),rfl,fun x hx=>hok x (List.mem_cons_of_mem _ hx),?_,?_⟩
    · rw [← hnum];simp only [YZ,hi32]
    rw [hw8] at hst8 ⊢
    refine li_next hs3 ?_ ?_ ?_ (yE hL6 hB7) hst8 (yy (yy hBw5 hB6) hB7) hI.ges hI.gel hI.ne
    · rw [hd3,hd2,hd1',hdk,hd1,hd0];exact gd
    · rw [ho3 4 Zd Zd,ho2 4 Zd Zd,ho1' 4 Zd Zd,hok0 4 Zd Zd Zd,ho1 4 Zd,ho0 4 Zd];exact g4
    · rw [ho3 5 Zd Zd,ho2 5 Zd Zd,ho1' 5 Zd Zd,hok0 5 Zd Zd Zd,ho1 5 Zd,ho0 5 Zd];exact g5
  have hlt2:r.2.1≠13∧r.2.1≠32:=by
   constructor
   · intro hi
     have h2:=hgr
     rw [hi] at h2
     obtain rfl:=Option.some.inj h2
     exact hlab1 rfl
   · intro hi
     have h2:=hgr
     rw [hi] at h2
     obtain rfl:=Option.some.inj h2
     exact hlab2 rfl
  have hno:¬(r.2.1=13∨r.2.1=32):=fun h=>h.elim hlt2.1 hlt2.2
  simp only [if_neg hno] at htk
  have hlt:=hr.lt
  simp only [if_neg hno] at hlt
  have hmm:toks.length≤1000000:=by
   have:=groups_small gr (List.mem_of_getElem? hgr)
   omega
  have hcal:=parse32_walk w4.heap.size 1 toks.length toks.length (fun j=>⟨(toks.getD j []).toArray⟩) r.2.2 w5 hm0 hmm (fun j hj=>(htk j hj).1) (fun j hj=>(htk j hj).2) (fun j _=>hlt j) (Yy hcells) hcs
  refine yb8 (k:=101) (ur:=14) (er:=15) (m:=toks.length) (K:=.u32) (x:=r.2.2) Tryz.func50 Zk rfl hcal hm0 hs1 ((ho1 6 Zd).trans ((ho0 6 Zd).trans g6)) Zd Zd Zd Zd Zd ?_
  intro k0 w6 gu cu hge hgu hnu hB6 hsk hdk hok0 hk14 hk15
  refine Ql (k:=107) hsk Zd hk15 ?_
  intro k1 hs1' hd1' ho1'
  have hst6:=yE hst5 hB6
  have hL6:JO _ _ _ _:=yE hL5 hB6
  have q4:k1.eval (.tmp 4)=.pointer (some ⟨w.heap.size,0,none⟩):=by rw [ho1' 4 Zd Zd,hok0 4 Zd Zd Zd,ho1 4 Zd,ho0 4 Zd];exact g4
  have q5:k1.eval (.tmp 5)=.pointer (some ⟨w1.heap.size,0,none⟩):=by rw [ho1' 5 Zd Zd,hok0 5 Zd Zd Zd,ho1 5 Zd,ho0 5 Zd];exact g5
  have q7:k1.eval (.tmp 7)=.string gr.f0:=by rw [ho1' 7 Zd Zd,hok0 7 Zd Zd Zd,ho1 7 Zd,ho0 7 Zd];exact g7
  have q14:k1.eval (.tmp 14)=.slice (some ⟨gu,0,none⟩) toks.length cu:=by rw [ho1' 14 Zd Zd];exact hk14
  have qd:k1.defers=[]:=by rw [hd1',hdk,hd1,hd0];exact gd
  have hB6w:=yy hBw5 hB6
  clear ho1' hd1' hok0 hdk ho1 hd1 ho0 hd0 hk14 hk15
  refine wp_seq ?_
  refine yB ?_
  refine yf rfl (yJ q7) ?_
  refine yG ?_
  have hS0:SW w.heap.size w1.heap.size gu toks.length cu gr.f0 (k1.put (some 110) (.string gr.f0)):=
   ⟨by rw [size_put];exact hs1',by rw [yq];exact qd,(yb _ Zd).trans q4,(yb _ Zd).trans q5,(yb _ Zd).trans q14,ya _ (by rw [hs1'];decide)⟩
  generalize (k1.put (some 110) (.string gr.f0))=k2 at hS0 ⊢
  refine wp_block ?_
  refine Code.wp_mono (Q:=fun e a' w'=>e=.normal∧After w.heap.size w1.heap.size w6 (upd n r.2.1 fun j=>(r.2.2 j:Int)) a' w') ?_ ?_
  · rintro e a' w' ⟨rfl,w7,fo,vs,hB7,hw8,hst8,z1,z2,z4,z5,z15⟩
    simp only [Exit.inBlock,Exit.then]
    refine yB ?_
    refine yf rfl (yJ z15) ?_
    refine yf rfl (qU (ya _ Zo) ZW) ?_
    refine yG ?_
    refine wp_cond_false (ya _ Zs) ?_
    refine wp_skip ?_
    simp only [Exit.inBlock,Exit.then]
    refine ⟨rs.length,by simp,rs,upd n r.2.1 fun j=>(r.2.2 j:Int),rfl,fun x hx=>hok x (List.mem_cons_of_mem _ hx),hnum,?_⟩
    rw [hw8] at hst8 ⊢
    exact li_next (by simp only [size_put];exact z1) (by simp only [yq];exact z2) ((yb _ Zd).trans ((yb _ Zd).trans z4)) ((yb _ Zd).trans ((yb _ Zd).trans z5)) (yE hL6 hB7) hst8 (yy hB6w hB7) hI.ges hI.gel hI.ne
  have hidx:=hr.idx
  refine YC hS0 Zd Zd (fun hl a' hS'=>?_) (fun hl0 a0 hS1=>?_)
  · have hi:r.2.1=0:=Yn [101,120,116,101,110,116,95,97,108,108,111,99] 0 Zk _ _ Zo hgr (by rw [hl])
    have hm:toks.length=4:=by
     rw [htl]
     have h2:=hgr
     rw [hi] at h2
     obtain rfl:=Option.some.inj h2
     rfl
    rw [hm] at hS' hnu
    rw [hi]
    have hlay:yT (yj ⟨#[]⟩ n) 1 (#[.int .u32 (r.2.2 0),.int .u32 (r.2.2 1),.int .u32 (r.2.2 2),.int .u32 (r.2.2 3)]:Array Value).toList=yj ⟨#[]⟩ (upd n 0 fun j=>(r.2.2 j:Int)):=lay0 ⟨#[]⟩ n (fun j=>(r.2.2 j:Int))
    exact Jq (k:=113) (fo:=1) (cells:=#[.int .u32 (r.2.2 0),.int .u32 (r.2.2 1),.int .u32 (r.2.2 2),.int .u32 (r.2.2 3)]) Tryz.func51 Zk rfl (QN gu cu (fun j=>(r.2.2 j:Int)) w6 hgu hnu) ZW (show (Tryz.prog.info? 72).map (·.size)=some 4 by kernel_rfl) Zk (show 1+4≤276 by decide) hlay Zd Zd hS' hst6
  refine YC hS1 Zd Zd (fun hl a' hS'=>?_) (fun hl1 a1 hS2=>?_)
  · have hi:r.2.1=1:=Yn [97,98,116] 1 Zk _ _ Zo hgr (by rw [hl])
    have hm:toks.length=4:=by
     rw [htl]
     have h2:=hgr
     rw [hi] at h2
     obtain rfl:=Option.some.inj h2
     rfl
    rw [hm] at hS' hnu
    rw [hi]
    have hlay:yT (yj ⟨#[]⟩ n) 5 (#[.int .u32 (r.2.2 0),.int .u32 (r.2.2 1),.int .u32 (r.2.2 2),.int .u32 (r.2.2 3)]:Array Value).toList=yj ⟨#[]⟩ (upd n 1 fun j=>(r.2.2 j:Int)):=lay1 ⟨#[]⟩ n (fun j=>(r.2.2 j:Int))
    exact Jq (k:=121) (fo:=5) (cells:=#[.int .u32 (r.2.2 0),.int .u32 (r.2.2 1),.int .u32 (r.2.2 2),.int .u32 (r.2.2 3)]) Tryz.func52 Zk rfl (yaH gu cu (fun j=>(r.2.2 j:Int)) w6 hgu hnu) ZW (show (Tryz.prog.info? 74).map (·.size)=some 4 by kernel_rfl) Zk (show 5+4≤276 by decide) hlay Zd Zd hS' hst6
  refine YC hS2 Zd Zd (fun hl a' hS'=>?_) (fun hl2 a2 hS3=>?_)
  · have hi:r.2.1=2:=Yn [98,108,107,95,109,97,112] 2 Zk _ _ Zo hgr (by rw [hl])
    have hm:toks.length=7:=by
     rw [htl]
     have h2:=hgr
     rw [hi] at h2
     obtain rfl:=Option.some.inj h2
     rfl
    rw [hm] at hS' hnu
    rw [hi]
    have hlay:yT (yj ⟨#[]⟩ n) 9 (#[.int .u32 (r.2.2 0),.int .u32 (r.2.2 1),.int .u32 (r.2.2 2),.int .u32 (r.2.2 3),.int .u32 (r.2.2 4),.int .u32 (r.2.2 5),.int .u32 (r.2.2 6)]:Array Value).toList=yj ⟨#[]⟩ (upd n 2 fun j=>(r.2.2 j:Int)):=lay2 ⟨#[]⟩ n (fun j=>(r.2.2 j:Int))
    exact Jq (k:=129) (fo:=9) (cells:=#[.int .u32 (r.2.2 0),.int .u32 (r.2.2 1),.int .u32 (r.2.2 2),.int .u32 (r.2.2 3),.int .u32 (r.2.2 4),.int .u32 (r.2.2 5),.int .u32 (r.2.2 6)]) Tryz.func53 Zk rfl (yay gu cu (fun j=>(r.2.2 j:Int)) w6 hgu hnu) ZW (show (Tryz.prog.info? 76).map (·.size)=some 7 by kernel_rfl) Zk (show 9+7≤276 by decide) hlay Zd Zd hS' hst6
  refine YC hS3 Zd Zd (fun hl a' hS'=>?_) (fun hl3 a3 hS4=>?_)
  · have hi:r.2.1=3:=Yn [98,109,98,116] 3 Zk _ _ Zo hgr (by rw [hl])
    have hm:toks.length=4:=by
     rw [htl]
     have h2:=hgr
     rw [hi] at h2
     obtain rfl:=Option.some.inj h2
     rfl
    rw [hm] at hS' hnu
    rw [hi]
    have hlay:yT (yj ⟨#[]⟩ n) 16 (#[.int .u32 (r.2.2 0),.int .u32 (r.2.2 1),.int .u32 (r.2.2 2),.int .u32 (r.2.2 3)]:Array Value).toList=yj ⟨#[]⟩ (upd n 3 fun j=>(r.2.2 j:Int)):=lay3 ⟨#[]⟩ n (fun j=>(r.2.2 j:Int))
    exact Jq (k:=137) (fo:=16) (cells:=#[.int .u32 (r.2.2 0),.int .u32 (r.2.2 1),.int .u32 (r.2.2 2),.int .u32 (r.2.2 3)]) Tryz.func52 Zk rfl (yaH gu cu (fun j=>(r.2.2 j:Int)) w6 hgu hnu) ZW (show (Tryz.prog.info? 74).map (·.size)=some 4 by kernel_rfl) Zk (show 16+4≤276 by decide) hlay Zd Zd hS' hst6
  refine YC hS4 Zd Zd (fun hl a' hS'=>?_) (fun hl4 a4 hS5=>?_)
  · have hi:r.2.1=4:=Yn [100,105,114] 4 Zk _ _ Zo hgr (by rw [hl])
    have hm:toks.length=4:=by
     rw [htl]
     have h2:=hgr
     rw [hi] at h2
     obtain rfl:=Option.some.inj h2
     rfl
    rw [hm] at hS' hnu
    rw [hi]
    have hlay:yT (yj ⟨#[]⟩ n) 20 (#[.int .u32 (r.2.2 0),.int .u32 (r.2.2 1),.int .u32 (r.2.2 2),.int .u32 (r.2.2 3)]:Array Value).toList=yj ⟨#[]⟩ (upd n 4 fun j=>(r.2.2 j:Int)):=lay4 ⟨#[]⟩ n (fun j=>(r.2.2 j:Int))
    exact Jq (k:=145) (fo:=20) (cells:=#[.int .u32 (r.2.2 0),.int .u32 (r.2.2 1),.int .u32 (r.2.2 2),.int .u32 (r.2.2 3)]) Tryz.func54 Zk rfl (Qy gu cu (fun j=>(r.2.2 j:Int)) w6 hgu hnu) ZW (show (Tryz.prog.info? 78).map (·.size)=some 4 by kernel_rfl) Zk (show 20+4≤276 by decide) hlay Zd Zd hS' hst6
  refine YC hS5 Zd Zd (fun hl a' hS'=>?_) (fun hl5 a5 hS6=>?_)
  · have hi:r.2.1=5:=Yn [116,114,97,110,115] 5 Zk _ _ Zo hgr (by rw [hl])
    have hm:toks.length=3:=by
     rw [htl]
     have h2:=hgr
     rw [hi] at h2
     obtain rfl:=Option.some.inj h2
     rfl
    rw [hm] at hS' hnu
    rw [hi]
    have hlay:yT (yj ⟨#[]⟩ n) 24 (#[.int .u32 (r.2.2 0),.int .u32 (r.2.2 1),.int .u32 (r.2.2 2)]:Array Value).toList=yj ⟨#[]⟩ (upd n 5 fun j=>(r.2.2 j:Int)):=lay5 ⟨#[]⟩ n (fun j=>(r.2.2 j:Int))
    exact Jq (k:=153) (fo:=24) (cells:=#[.int .u32 (r.2.2 0),.int .u32 (r.2.2 1),.int .u32 (r.2.2 2)]) Tryz.func55 Zk rfl (yaM gu cu (fun j=>(r.2.2 j:Int)) w6 hgu hnu) ZW (show (Tryz.prog.info? 80).map (·.size)=some 3 by kernel_rfl) Zk (show 24+3≤276 by decide) hlay Zd Zd hS' hst6
  refine YC hS6 Zd Zd (fun hl a' hS'=>?_) (fun hl6 a6 hS7=>?_)
  · have hi:r.2.1=6:=Yn [105,103] 6 Zk _ _ Zo hgr (by rw [hl])
    have hm:toks.length=7:=by
     rw [htl]
     have h2:=hgr
     rw [hi] at h2
     obtain rfl:=Option.some.inj h2
     rfl
    rw [hm] at hS' hnu
    rw [hi]
    have hlay:yT (yj ⟨#[]⟩ n) 27 (#[.int .u32 (r.2.2 0),.int .u32 (r.2.2 1),.int .u32 (r.2.2 2),.int .u32 (r.2.2 3),.int .u32 (r.2.2 4),.int .u32 (r.2.2 5),.int .u32 (r.2.2 6)]:Array Value).toList=yj ⟨#[]⟩ (upd n 6 fun j=>(r.2.2 j:Int)):=lay6 ⟨#[]⟩ n (fun j=>(r.2.2 j:Int))
    exact Jq (k:=161) (fo:=27) (cells:=#[.int .u32 (r.2.2 0),.int .u32 (r.2.2 1),.int .u32 (r.2.2 2),.int .u32 (r.2.2 3),.int .u32 (r.2.2 4),.int .u32 (r.2.2 5),.int .u32 (r.2.2 6)]) Tryz.func56 Zk rfl (yab gu cu (fun j=>(r.2.2 j:Int)) w6 hgu hnu) ZW (show (Tryz.prog.info? 82).map (·.size)=some 7 by kernel_rfl) Zk (show 27+7≤276 by decide) hlay Zd Zd hS' hst6
  refine YC hS7 Zd Zd (fun hl a' hS'=>?_) (fun hl7 a7 hS8=>?_)
  · have hi:r.2.1=7:=Yn [108,111,103] 7 Zk _ _ Zo hgr (by rw [hl])
    have hm:toks.length=5:=by
     rw [htl]
     have h2:=hgr
     rw [hi] at h2
     obtain rfl:=Option.some.inj h2
     rfl
    rw [hm] at hS' hnu
    rw [hi]
    have hlay:yT (yj ⟨#[]⟩ n) 34 (#[.int .u32 (r.2.2 0),.int .u32 (r.2.2 1),.int .u32 (r.2.2 2),.int .u32 (r.2.2 3),.int .u32 (r.2.2 4)]:Array Value).toList=yj ⟨#[]⟩ (upd n 7 fun j=>(r.2.2 j:Int)):=lay7 ⟨#[]⟩ n (fun j=>(r.2.2 j:Int))
    exact Jq (k:=169) (fo:=34) (cells:=#[.int .u32 (r.2.2 0),.int .u32 (r.2.2 1),.int .u32 (r.2.2 2),.int .u32 (r.2.2 3),.int .u32 (r.2.2 4)]) Tryz.func57 Zk rfl (yaF gu cu (fun j=>(r.2.2 j:Int)) w6 hgu hnu) ZW (show (Tryz.prog.info? 84).map (·.size)=some 5 by kernel_rfl) Zk (show 34+5≤276 by decide) hlay Zd Zd hS' hst6
  refine YC hS8 Zd Zd (fun hl a' hS'=>?_) (fun hl8 a8 hS9=>?_)
  · have hi:r.2.1=8:=Yn [114,119] 8 Zk _ _ Zo hgr (by rw [hl])
    have hm:toks.length=2:=by
     rw [htl]
     have h2:=hgr
     rw [hi] at h2
     obtain rfl:=Option.some.inj h2
     rfl
    rw [hm] at hS' hnu
    rw [hi]
    have hlay:yT (yj ⟨#[]⟩ n) 39 (#[.int .u32 (r.2.2 0),.int .u32 (r.2.2 1)]:Array Value).toList=yj ⟨#[]⟩ (upd n 8 fun j=>(r.2.2 j:Int)):=lay8 ⟨#[]⟩ n (fun j=>(r.2.2 j:Int))
    exact Jq (k:=177) (fo:=39) (cells:=#[.int .u32 (r.2.2 0),.int .u32 (r.2.2 1)]) Tryz.func58 Zk rfl (ybm gu cu (fun j=>(r.2.2 j:Int)) w6 hgu hnu) ZW (show (Tryz.prog.info? 86).map (·.size)=some 2 by kernel_rfl) Zk (show 39+2≤276 by decide) hlay Zd Zd hS' hst6
  refine YC hS9 Zd Zd (fun hl a' hS'=>?_) (fun hl9 a9 hS10=>?_)
  · have hi:r.2.1=9:=Yn [97,116,116,114] 9 Zk _ _ Zo hgr (by rw [hl])
    have hm:toks.length=4:=by
     rw [htl]
     have h2:=hgr
     rw [hi] at h2
     obtain rfl:=Option.some.inj h2
     rfl
    rw [hm] at hS' hnu
    rw [hi]
    have hlay:yT (yj ⟨#[]⟩ n) 41 (#[.int .u32 (r.2.2 0),.int .u32 (r.2.2 1),.int .u32 (r.2.2 2),.int .u32 (r.2.2 3)]:Array Value).toList=yj ⟨#[]⟩ (upd n 9 fun j=>(r.2.2 j:Int)):=lay9 ⟨#[]⟩ n (fun j=>(r.2.2 j:Int))
    exact Jq (k:=185) (fo:=41) (cells:=#[.int .u32 (r.2.2 0),.int .u32 (r.2.2 1),.int .u32 (r.2.2 2),.int .u32 (r.2.2 3)]) Tryz.func59 Zk rfl (Qv gu cu (fun j=>(r.2.2 j:Int)) w6 hgu hnu) ZW (show (Tryz.prog.info? 88).map (·.size)=some 4 by kernel_rfl) Zk (show 41+4≤276 by decide) hlay Zd Zd hS' hst6
  refine YC hS10 Zd Zd (fun hl a' hS'=>?_) (fun hl10 a10 hS11=>?_)
  · have hi:r.2.1=10:=Yn [105,99,108,117,115,116,101,114] 10 Zk _ _ Zo hgr (by rw [hl])
    have hm:toks.length=3:=by
     rw [htl]
     have h2:=hgr
     rw [hi] at h2
     obtain rfl:=Option.some.inj h2
     rfl
    rw [hm] at hS' hnu
    rw [hi]
    have hlay:yT (yj ⟨#[]⟩ n) 45 (#[.int .u32 (r.2.2 0),.int .u32 (r.2.2 1),.int .u32 (r.2.2 2)]:Array Value).toList=yj ⟨#[]⟩ (upd n 10 fun j=>(r.2.2 j:Int)):=lay10 ⟨#[]⟩ n (fun j=>(r.2.2 j:Int))
    exact Jq (k:=193) (fo:=45) (cells:=#[.int .u32 (r.2.2 0),.int .u32 (r.2.2 1),.int .u32 (r.2.2 2)]) Tryz.func60 Zk rfl (QU gu cu (fun j=>(r.2.2 j:Int)) w6 hgu hnu) ZW (show (Tryz.prog.info? 90).map (·.size)=some 3 by kernel_rfl) Zk (show 45+3≤276 by decide) hlay Zd Zd hS' hst6
  refine YC hS11 Zd Zd (fun hl a' hS'=>?_) (fun hl11 a11 hS12=>?_)
  · have hi:r.2.1=11:=Yn [118,110,111,100,101,115] 11 Zk _ _ Zo hgr (by rw [hl])
    have hm:toks.length=8:=by
     rw [htl]
     have h2:=hgr
     rw [hi] at h2
     obtain rfl:=Option.some.inj h2
     rfl
    rw [hm] at hS' hnu
    rw [hi]
    have hlay:yT (yj ⟨#[]⟩ n) 48 (#[.int .u32 (r.2.2 0),.int .u32 (r.2.2 1),.int .u32 (r.2.2 2),.int .u32 (r.2.2 3),.int .u32 (r.2.2 4),.int .u32 (r.2.2 5),.int .u32 (r.2.2 6),.int .u32 (r.2.2 7)]:Array Value).toList=yj ⟨#[]⟩ (upd n 11 fun j=>(r.2.2 j:Int)):=lay11 ⟨#[]⟩ n (fun j=>(r.2.2 j:Int))
    exact Jq (k:=201) (fo:=48) (cells:=#[.int .u32 (r.2.2 0),.int .u32 (r.2.2 1),.int .u32 (r.2.2 2),.int .u32 (r.2.2 3),.int .u32 (r.2.2 4),.int .u32 (r.2.2 5),.int .u32 (r.2.2 6),.int .u32 (r.2.2 7)]) Tryz.func61 Zk rfl (ycF gu cu (fun j=>(r.2.2 j:Int)) w6 hgu hnu) ZW (show (Tryz.prog.info? 92).map (·.size)=some 8 by kernel_rfl) Zk (show 48+8≤276 by decide) hlay Zd Zd hS' hst6
  refine YC hS12 Zd Zd (fun hl a' hS'=>?_) (fun hl12 a12 hS13=>?_)
  · have hi:r.2.1=12:=Yn [98,117,102] 12 Zk _ _ Zo hgr (by rw [hl])
    have hm:toks.length=9:=by
     rw [htl]
     have h2:=hgr
     rw [hi] at h2
     obtain rfl:=Option.some.inj h2
     rfl
    rw [hm] at hS' hnu
    rw [hi]
    have hlay:yT (yj ⟨#[]⟩ n) 56 (#[.int .u32 (r.2.2 0),.int .u32 (r.2.2 1),.int .u32 (r.2.2 2),.int .u32 (r.2.2 3),.int .u32 (r.2.2 4),.int .u32 (r.2.2 5),.int .u32 (r.2.2 6),.int .u32 (r.2.2 7),.int .u32 (r.2.2 8)]:Array Value).toList=yj ⟨#[]⟩ (upd n 12 fun j=>(r.2.2 j:Int)):=lay12 ⟨#[]⟩ n (fun j=>(r.2.2 j:Int))
    exact Jq (k:=209) (fo:=56) (cells:=#[.int .u32 (r.2.2 0),.int .u32 (r.2.2 1),.int .u32 (r.2.2 2),.int .u32 (r.2.2 3),.int .u32 (r.2.2 4),.int .u32 (r.2.2 5),.int .u32 (r.2.2 6),.int .u32 (r.2.2 7),.int .u32 (r.2.2 8)]) Tryz.func62 Zk rfl (yb7 gu cu (fun j=>(r.2.2 j:Int)) w6 hgu hnu) ZW (show (Tryz.prog.info? 94).map (·.size)=some 9 by kernel_rfl) Zk (show 56+9≤276 by decide) hlay Zd Zd hS' hst6
  refine YC hS13 Zd Zd (fun hl a' hS'=>?_) (fun hl13 a13 hS14=>?_)
  · have hi:r.2.1=15:=Yn [112,117,115,104,95,97,105,108] 15 Zk _ _ Zo hgr (by rw [hl])
    have hm:toks.length=10:=by
     rw [htl]
     have h2:=hgr
     rw [hi] at h2
     obtain rfl:=Option.some.inj h2
     rfl
    rw [hm] at hS' hnu
    rw [hi]
    have hlay:yT (yj ⟨#[]⟩ n) 70 (#[.int .u32 (r.2.2 0),.int .u32 (r.2.2 1),.int .u32 (r.2.2 2),.int .u32 (r.2.2 3),.int .u32 (r.2.2 4),.int .u32 (r.2.2 5),.int .u32 (r.2.2 6),.int .u32 (r.2.2 7),.int .u32 (r.2.2 8),.int .u32 (r.2.2 9)]:Array Value).toList=yj ⟨#[]⟩ (upd n 15 fun j=>(r.2.2 j:Int)):=lay15 ⟨#[]⟩ n (fun j=>(r.2.2 j:Int))
    exact Jq (k:=217) (fo:=70) (cells:=#[.int .u32 (r.2.2 0),.int .u32 (r.2.2 1),.int .u32 (r.2.2 2),.int .u32 (r.2.2 3),.int .u32 (r.2.2 4),.int .u32 (r.2.2 5),.int .u32 (r.2.2 6),.int .u32 (r.2.2 7),.int .u32 (r.2.2 8),.int .u32 (r.2.2 9)]) Tryz.func63 Zk rfl (yb2 gu cu (fun j=>(r.2.2 j:Int)) w6 hgu hnu) ZW (show (Tryz.prog.info? 100).map (·.size)=some 10 by kernel_rfl) Zk (show 70+10≤276 by decide) hlay Zd Zd hS' hst6
  refine YC hS14 Zd Zd (fun hl a' hS'=>?_) (fun hl14 a14 hS15=>?_)
  · have hi:r.2.1=14:=Yn [120,115,116,114,97,116] 14 Zk _ _ Zo hgr (by rw [hl])
    have hm:toks.length=2:=by
     rw [htl]
     have h2:=hgr
     rw [hi] at h2
     obtain rfl:=Option.some.inj h2
     rfl
    rw [hm] at hS' hnu
    rw [hi]
    have hlay:yT (yj ⟨#[]⟩ n) 68 (#[.int .u32 (r.2.2 0),.int .u32 (r.2.2 1)]:Array Value).toList=yj ⟨#[]⟩ (upd n 14 fun j=>(r.2.2 j:Int)):=lay14 ⟨#[]⟩ n (fun j=>(r.2.2 j:Int))
    exact Jq (k:=225) (fo:=68) (cells:=#[.int .u32 (r.2.2 0),.int .u32 (r.2.2 1)]) Tryz.func64 Zk rfl (ycn gu cu (fun j=>(r.2.2 j:Int)) w6 hgu hnu) ZW (show (Tryz.prog.info? 98).map (·.size)=some 2 by kernel_rfl) Zk (show 68+2≤276 by decide) hlay Zd Zd hS' hst6
  refine YC hS15 Zd Zd (fun hl a' hS'=>?_) (fun hl15 a15 hS16=>?_)
  · have hi:r.2.1=18:=Yn [97,98,116,98,50] 18 Zk _ _ Zo hgr (by rw [hl])
    have hm:toks.length=15:=by
     rw [htl]
     have h2:=hgr
     rw [hi] at h2
     obtain rfl:=Option.some.inj h2
     rfl
    rw [hm] at hS' hnu
    rw [hi]
    have hlay:yT (yj ⟨#[]⟩ n) 90 (#[.int .u32 (r.2.2 0),.int .u32 (r.2.2 1),.int .u32 (r.2.2 2),.int .u32 (r.2.2 3),.int .u32 (r.2.2 4),.int .u32 (r.2.2 5),.int .u32 (r.2.2 6),.int .u32 (r.2.2 7),.int .u32 (r.2.2 8),.int .u32 (r.2.2 9),.int .u32 (r.2.2 10),.int .u32 (r.2.2 11),.int .u32 (r.2.2 12),.int .u32 (r.2.2 13),.int .u32 (r.2.2 14)]:Array Value).toList=yj ⟨#[]⟩ (upd n 18 fun j=>(r.2.2 j:Int)):=lay18 ⟨#[]⟩ n (fun j=>(r.2.2 j:Int))
    exact Jq (k:=233) (fo:=90) (cells:=#[.int .u32 (r.2.2 0),.int .u32 (r.2.2 1),.int .u32 (r.2.2 2),.int .u32 (r.2.2 3),.int .u32 (r.2.2 4),.int .u32 (r.2.2 5),.int .u32 (r.2.2 6),.int .u32 (r.2.2 7),.int .u32 (r.2.2 8),.int .u32 (r.2.2 9),.int .u32 (r.2.2 10),.int .u32 (r.2.2 11),.int .u32 (r.2.2 12),.int .u32 (r.2.2 13),.int .u32 (r.2.2 14)]) Tryz.func65 Zk rfl (QE gu cu (fun j=>(r.2.2 j:Int)) w6 hgu hnu) ZW (show (Tryz.prog.info? 106).map (·.size)=some 15 by kernel_rfl) Zk (show 90+15≤276 by decide) hlay Zd Zd hS' hst6
  refine YC hS16 Zd Zd (fun hl a' hS'=>?_) (fun hl16 a16 hS17=>?_)
  · have hi:r.2.1=19:=Yn [97,98,116,99,50] 19 Zk _ _ Zo hgr (by rw [hl])
    have hm:toks.length=15:=by
     rw [htl]
     have h2:=hgr
     rw [hi] at h2
     obtain rfl:=Option.some.inj h2
     rfl
    rw [hm] at hS' hnu
    rw [hi]
    have hlay:yT (yj ⟨#[]⟩ n) 105 (#[.int .u32 (r.2.2 0),.int .u32 (r.2.2 1),.int .u32 (r.2.2 2),.int .u32 (r.2.2 3),.int .u32 (r.2.2 4),.int .u32 (r.2.2 5),.int .u32 (r.2.2 6),.int .u32 (r.2.2 7),.int .u32 (r.2.2 8),.int .u32 (r.2.2 9),.int .u32 (r.2.2 10),.int .u32 (r.2.2 11),.int .u32 (r.2.2 12),.int .u32 (r.2.2 13),.int .u32 (r.2.2 14)]:Array Value).toList=yj ⟨#[]⟩ (upd n 19 fun j=>(r.2.2 j:Int)):=lay19 ⟨#[]⟩ n (fun j=>(r.2.2 j:Int))
    exact Jq (k:=241) (fo:=105) (cells:=#[.int .u32 (r.2.2 0),.int .u32 (r.2.2 1),.int .u32 (r.2.2 2),.int .u32 (r.2.2 3),.int .u32 (r.2.2 4),.int .u32 (r.2.2 5),.int .u32 (r.2.2 6),.int .u32 (r.2.2 7),.int .u32 (r.2.2 8),.int .u32 (r.2.2 9),.int .u32 (r.2.2 10),.int .u32 (r.2.2 11),.int .u32 (r.2.2 12),.int .u32 (r.2.2 13),.int .u32 (r.2.2 14)]) Tryz.func66 Zk rfl (QA gu cu (fun j=>(r.2.2 j:Int)) w6 hgu hnu) ZW (show (Tryz.prog.info? 107).map (·.size)=some 15 by kernel_rfl) Zk (show 105+15≤276 by decide) hlay Zd Zd hS' hst6
  refine YC hS17 Zd Zd (fun hl a' hS'=>?_) (fun hl17 a17 hS18=>?_)
  · have hi:r.2.1=20:=Yn [98,109,98,116,50] 20 Zk _ _ Zo hgr (by rw [hl])
    have hm:toks.length=15:=by
     rw [htl]
     have h2:=hgr
     rw [hi] at h2
     obtain rfl:=Option.some.inj h2
     rfl
    rw [hm] at hS' hnu
    rw [hi]
    have hlay:yT (yj ⟨#[]⟩ n) 120 (#[.int .u32 (r.2.2 0),.int .u32 (r.2.2 1),.int .u32 (r.2.2 2),.int .u32 (r.2.2 3),.int .u32 (r.2.2 4),.int .u32 (r.2.2 5),.int .u32 (r.2.2 6),.int .u32 (r.2.2 7),.int .u32 (r.2.2 8),.int .u32 (r.2.2 9),.int .u32 (r.2.2 10),.int .u32 (r.2.2 11),.int .u32 (r.2.2 12),.int .u32 (r.2.2 13),.int .u32 (r.2.2 14)]:Array Value).toList=yj ⟨#[]⟩ (upd n 20 fun j=>(r.2.2 j:Int)):=lay20 ⟨#[]⟩ n (fun j=>(r.2.2 j:Int))
    exact Jq (k:=249) (fo:=120) (cells:=#[.int .u32 (r.2.2 0),.int .u32 (r.2.2 1),.int .u32 (r.2.2 2),.int .u32 (r.2.2 3),.int .u32 (r.2.2 4),.int .u32 (r.2.2 5),.int .u32 (r.2.2 6),.int .u32 (r.2.2 7),.int .u32 (r.2.2 8),.int .u32 (r.2.2 9),.int .u32 (r.2.2 10),.int .u32 (r.2.2 11),.int .u32 (r.2.2 12),.int .u32 (r.2.2 13),.int .u32 (r.2.2 14)]) Tryz.func67 Zk rfl (yac gu cu (fun j=>(r.2.2 j:Int)) w6 hgu hnu) ZW (show (Tryz.prog.info? 108).map (·.size)=some 15 by kernel_rfl) Zk (show 120+15≤276 by decide) hlay Zd Zd hS' hst6
  refine YC hS18 Zd Zd (fun hl a' hS'=>?_) (fun hl18 a18 hS19=>?_)
  · have hi:r.2.1=21:=Yn [105,98,116,50] 21 Zk _ _ Zo hgr (by rw [hl])
    have hm:toks.length=15:=by
     rw [htl]
     have h2:=hgr
     rw [hi] at h2
     obtain rfl:=Option.some.inj h2
     rfl
    rw [hm] at hS' hnu
    rw [hi]
    have hlay:yT (yj ⟨#[]⟩ n) 135 (#[.int .u32 (r.2.2 0),.int .u32 (r.2.2 1),.int .u32 (r.2.2 2),.int .u32 (r.2.2 3),.int .u32 (r.2.2 4),.int .u32 (r.2.2 5),.int .u32 (r.2.2 6),.int .u32 (r.2.2 7),.int .u32 (r.2.2 8),.int .u32 (r.2.2 9),.int .u32 (r.2.2 10),.int .u32 (r.2.2 11),.int .u32 (r.2.2 12),.int .u32 (r.2.2 13),.int .u32 (r.2.2 14)]:Array Value).toList=yj ⟨#[]⟩ (upd n 21 fun j=>(r.2.2 j:Int)):=lay21 ⟨#[]⟩ n (fun j=>(r.2.2 j:Int))
    exact Jq (k:=257) (fo:=135) (cells:=#[.int .u32 (r.2.2 0),.int .u32 (r.2.2 1),.int .u32 (r.2.2 2),.int .u32 (r.2.2 3),.int .u32 (r.2.2 4),.int .u32 (r.2.2 5),.int .u32 (r.2.2 6),.int .u32 (r.2.2 7),.int .u32 (r.2.2 8),.int .u32 (r.2.2 9),.int .u32 (r.2.2 10),.int .u32 (r.2.2 11),.int .u32 (r.2.2 12),.int .u32 (r.2.2 13),.int .u32 (r.2.2 14)]) Tryz.func68 Zk rfl (yaK gu cu (fun j=>(r.2.2 j:Int)) w6 hgu hnu) ZW (show (Tryz.prog.info? 109).map (·.size)=some 15 by kernel_rfl) Zk (show 135+15≤276 by decide) hlay Zd Zd hS' hst6
  refine YC hS19 Zd Zd (fun hl a' hS'=>?_) (fun hl19 a19 hS20=>?_)
  · have hi:r.2.1=22:=Yn [102,105,98,116,50] 22 Zk _ _ Zo hgr (by rw [hl])
    have hm:toks.length=15:=by
     rw [htl]
     have h2:=hgr
     rw [hi] at h2
     obtain rfl:=Option.some.inj h2
     rfl
    rw [hm] at hS' hnu
    rw [hi]
    have hlay:yT (yj ⟨#[]⟩ n) 150 (#[.int .u32 (r.2.2 0),.int .u32 (r.2.2 1),.int .u32 (r.2.2 2),.int .u32 (r.2.2 3),.int .u32 (r.2.2 4),.int .u32 (r.2.2 5),.int .u32 (r.2.2 6),.int .u32 (r.2.2 7),.int .u32 (r.2.2 8),.int .u32 (r.2.2 9),.int .u32 (r.2.2 10),.int .u32 (r.2.2 11),.int .u32 (r.2.2 12),.int .u32 (r.2.2 13),.int .u32 (r.2.2 14)]:Array Value).toList=yj ⟨#[]⟩ (upd n 22 fun j=>(r.2.2 j:Int)):=lay22 ⟨#[]⟩ n (fun j=>(r.2.2 j:Int))
    exact Jq (k:=265) (fo:=150) (cells:=#[.int .u32 (r.2.2 0),.int .u32 (r.2.2 1),.int .u32 (r.2.2 2),.int .u32 (r.2.2 3),.int .u32 (r.2.2 4),.int .u32 (r.2.2 5),.int .u32 (r.2.2 6),.int .u32 (r.2.2 7),.int .u32 (r.2.2 8),.int .u32 (r.2.2 9),.int .u32 (r.2.2 10),.int .u32 (r.2.2 11),.int .u32 (r.2.2 12),.int .u32 (r.2.2 13),.int .u32 (r.2.2 14)]) Tryz.func69 Zk rfl (QZ gu cu (fun j=>(r.2.2 j:Int)) w6 hgu hnu) ZW (show (Tryz.prog.info? 110).map (·.size)=some 15 by kernel_rfl) Zk (show 150+15≤276 by decide) hlay Zd Zd hS' hst6
  refine YC hS20 Zd Zd (fun hl a' hS'=>?_) (fun hl20 a20 hS21=>?_)
  · have hi:r.2.1=23:=Yn [114,109,97,112,98,116] 23 Zk _ _ Zo hgr (by rw [hl])
    have hm:toks.length=15:=by
     rw [htl]
     have h2:=hgr
     rw [hi] at h2
     obtain rfl:=Option.some.inj h2
     rfl
    rw [hm] at hS' hnu
    rw [hi]
    have hlay:yT (yj ⟨#[]⟩ n) 165 (#[.int .u32 (r.2.2 0),.int .u32 (r.2.2 1),.int .u32 (r.2.2 2),.int .u32 (r.2.2 3),.int .u32 (r.2.2 4),.int .u32 (r.2.2 5),.int .u32 (r.2.2 6),.int .u32 (r.2.2 7),.int .u32 (r.2.2 8),.int .u32 (r.2.2 9),.int .u32 (r.2.2 10),.int .u32 (r.2.2 11),.int .u32 (r.2.2 12),.int .u32 (r.2.2 13),.int .u32 (r.2.2 14)]:Array Value).toList=yj ⟨#[]⟩ (upd n 23 fun j=>(r.2.2 j:Int)):=lay23 ⟨#[]⟩ n (fun j=>(r.2.2 j:Int))
    exact Jq (k:=273) (fo:=165) (cells:=#[.int .u32 (r.2.2 0),.int .u32 (r.2.2 1),.int .u32 (r.2.2 2),.int .u32 (r.2.2 3),.int .u32 (r.2.2 4),.int .u32 (r.2.2 5),.int .u32 (r.2.2 6),.int .u32 (r.2.2 7),.int .u32 (r.2.2 8),.int .u32 (r.2.2 9),.int .u32 (r.2.2 10),.int .u32 (r.2.2 11),.int .u32 (r.2.2 12),.int .u32 (r.2.2 13),.int .u32 (r.2.2 14)]) Tryz.func70 Zk rfl (QX gu cu (fun j=>(r.2.2 j:Int)) w6 hgu hnu) ZW (show (Tryz.prog.info? 111).map (·.size)=some 15 by kernel_rfl) Zk (show 165+15≤276 by decide) hlay Zd Zd hS' hst6
  refine YC hS21 Zd Zd (fun hl a' hS'=>?_) (fun hl21 a21 hS22=>?_)
  · have hi:r.2.1=24:=Yn [114,101,102,99,110,116,98,116] 24 Zk _ _ Zo hgr (by rw [hl])
    have hm:toks.length=15:=by
     rw [htl]
     have h2:=hgr
     rw [hi] at h2
     obtain rfl:=Option.some.inj h2
     rfl
    rw [hm] at hS' hnu
    rw [hi]
    have hlay:yT (yj ⟨#[]⟩ n) 180 (#[.int .u32 (r.2.2 0),.int .u32 (r.2.2 1),.int .u32 (r.2.2 2),.int .u32 (r.2.2 3),.int .u32 (r.2.2 4),.int .u32 (r.2.2 5),.int .u32 (r.2.2 6),.int .u32 (r.2.2 7),.int .u32 (r.2.2 8),.int .u32 (r.2.2 9),.int .u32 (r.2.2 10),.int .u32 (r.2.2 11),.int .u32 (r.2.2 12),.int .u32 (r.2.2 13),.int .u32 (r.2.2 14)]:Array Value).toList=yj ⟨#[]⟩ (upd n 24 fun j=>(r.2.2 j:Int)):=lay24 ⟨#[]⟩ n (fun j=>(r.2.2 j:Int))
    exact Jq (k:=281) (fo:=180) (cells:=#[.int .u32 (r.2.2 0),.int .u32 (r.2.2 1),.int .u32 (r.2.2 2),.int .u32 (r.2.2 3),.int .u32 (r.2.2 4),.int .u32 (r.2.2 5),.int .u32 (r.2.2 6),.int .u32 (r.2.2 7),.int .u32 (r.2.2 8),.int .u32 (r.2.2 9),.int .u32 (r.2.2 10),.int .u32 (r.2.2 11),.int .u32 (r.2.2 12),.int .u32 (r.2.2 13),.int .u32 (r.2.2 14)]) Tryz.func71 Zk rfl (yaj gu cu (fun j=>(r.2.2 j:Int)) w6 hgu hnu) ZW (show (Tryz.prog.info? 112).map (·.size)=some 15 by kernel_rfl) Zk (show 180+15≤276 by decide) hlay Zd Zd hS' hst6
  refine YC hS22 Zd Zd (fun hl a' hS'=>?_) (fun hl22 a22 hS23=>?_)
  · have hi:r.2.1=25:=Yn [114,109,97,112,98,116,95,109,101,109] 25 Zk _ _ Zo hgr (by rw [hl])
    have hm:toks.length=15:=by
     rw [htl]
     have h2:=hgr
     rw [hi] at h2
     obtain rfl:=Option.some.inj h2
     rfl
    rw [hm] at hS' hnu
    rw [hi]
    have hlay:yT (yj ⟨#[]⟩ n) 195 (#[.int .u32 (r.2.2 0),.int .u32 (r.2.2 1),.int .u32 (r.2.2 2),.int .u32 (r.2.2 3),.int .u32 (r.2.2 4),.int .u32 (r.2.2 5),.int .u32 (r.2.2 6),.int .u32 (r.2.2 7),.int .u32 (r.2.2 8),.int .u32 (r.2.2 9),.int .u32 (r.2.2 10),.int .u32 (r.2.2 11),.int .u32 (r.2.2 12),.int .u32 (r.2.2 13),.int .u32 (r.2.2 14)]:Array Value).toList=yj ⟨#[]⟩ (upd n 25 fun j=>(r.2.2 j:Int)):=lay25 ⟨#[]⟩ n (fun j=>(r.2.2 j:Int))
    exact Jq (k:=289) (fo:=195) (cells:=#[.int .u32 (r.2.2 0),.int .u32 (r.2.2 1),.int .u32 (r.2.2 2),.int .u32 (r.2.2 3),.int .u32 (r.2.2 4),.int .u32 (r.2.2 5),.int .u32 (r.2.2 6),.int .u32 (r.2.2 7),.int .u32 (r.2.2 8),.int .u32 (r.2.2 9),.int .u32 (r.2.2 10),.int .u32 (r.2.2 11),.int .u32 (r.2.2 12),.int .u32 (r.2.2 13),.int .u32 (r.2.2 14)]) Tryz.func72 Zk rfl (Qo gu cu (fun j=>(r.2.2 j:Int)) w6 hgu hnu) ZW (show (Tryz.prog.info? 113).map (·.size)=some 15 by kernel_rfl) Zk (show 195+15≤276 by decide) hlay Zd Zd hS' hst6
  refine YC hS23 Zd Zd (fun hl a' hS'=>?_) (fun hl23 a23 hS24=>?_)
  · have hi:r.2.1=26:=Yn [114,99,98,97,103,98,116] 26 Zk _ _ Zo hgr (by rw [hl])
    have hm:toks.length=15:=by
     rw [htl]
     have h2:=hgr
     rw [hi] at h2
     obtain rfl:=Option.some.inj h2
     rfl
    rw [hm] at hS' hnu
    rw [hi]
    have hlay:yT (yj ⟨#[]⟩ n) 210 (#[.int .u32 (r.2.2 0),.int .u32 (r.2.2 1),.int .u32 (r.2.2 2),.int .u32 (r.2.2 3),.int .u32 (r.2.2 4),.int .u32 (r.2.2 5),.int .u32 (r.2.2 6),.int .u32 (r.2.2 7),.int .u32 (r.2.2 8),.int .u32 (r.2.2 9),.int .u32 (r.2.2 10),.int .u32 (r.2.2 11),.int .u32 (r.2.2 12),.int .u32 (r.2.2 13),.int .u32 (r.2.2 14)]:Array Value).toList=yj ⟨#[]⟩ (upd n 26 fun j=>(r.2.2 j:Int)):=lay26 ⟨#[]⟩ n (fun j=>(r.2.2 j:Int))
    exact Jq (k:=297) (fo:=210) (cells:=#[.int .u32 (r.2.2 0),.int .u32 (r.2.2 1),.int .u32 (r.2.2 2),.int .u32 (r.2.2 3),.int .u32 (r.2.2 4),.int .u32 (r.2.2 5),.int .u32 (r.2.2 6),.int .u32 (r.2.2 7),.int .u32 (r.2.2 8),.int .u32 (r.2.2 9),.int .u32 (r.2.2 10),.int .u32 (r.2.2 11),.int .u32 (r.2.2 12),.int .u32 (r.2.2 13),.int .u32 (r.2.2 14)]) Tryz.func73 Zk rfl (yaO gu cu (fun j=>(r.2.2 j:Int)) w6 hgu hnu) ZW (show (Tryz.prog.info? 114).map (·.size)=some 15 by kernel_rfl) Zk (show 210+15≤276 by decide) hlay Zd Zd hS' hst6
  refine YC hS24 Zd Zd (fun hl a' hS'=>?_) (fun hl24 a24 hS25=>?_)
  · have hi:r.2.1=27:=Yn [114,116,114,109,97,112,98,116] 27 Zk _ _ Zo hgr (by rw [hl])
    have hm:toks.length=15:=by
     rw [htl]
     have h2:=hgr
     rw [hi] at h2
     obtain rfl:=Option.some.inj h2
     rfl
    rw [hm] at hS' hnu
    rw [hi]
    have hlay:yT (yj ⟨#[]⟩ n) 225 (#[.int .u32 (r.2.2 0),.int .u32 (r.2.2 1),.int .u32 (r.2.2 2),.int .u32 (r.2.2 3),.int .u32 (r.2.2 4),.int .u32 (r.2.2 5),.int .u32 (r.2.2 6),.int .u32 (r.2.2 7),.int .u32 (r.2.2 8),.int .u32 (r.2.2 9),.int .u32 (r.2.2 10),.int .u32 (r.2.2 11),.int .u32 (r.2.2 12),.int .u32 (r.2.2 13),.int .u32 (r.2.2 14)]:Array Value).toList=yj ⟨#[]⟩ (upd n 27 fun j=>(r.2.2 j:Int)):=lay27 ⟨#[]⟩ n (fun j=>(r.2.2 j:Int))
    exact Jq (k:=305) (fo:=225) (cells:=#[.int .u32 (r.2.2 0),.int .u32 (r.2.2 1),.int .u32 (r.2.2 2),.int .u32 (r.2.2 3),.int .u32 (r.2.2 4),.int .u32 (r.2.2 5),.int .u32 (r.2.2 6),.int .u32 (r.2.2 7),.int .u32 (r.2.2 8),.int .u32 (r.2.2 9),.int .u32 (r.2.2 10),.int .u32 (r.2.2 11),.int .u32 (r.2.2 12),.int .u32 (r.2.2 13),.int .u32 (r.2.2 14)]) Tryz.func74 Zk rfl (Qz gu cu (fun j=>(r.2.2 j:Int)) w6 hgu hnu) ZW (show (Tryz.prog.info? 115).map (·.size)=some 15 by kernel_rfl) Zk (show 225+15≤276 by decide) hlay Zd Zd hS' hst6
  refine YC hS25 Zd Zd (fun hl a' hS'=>?_) (fun hl25 a25 hS26=>?_)
  · have hi:r.2.1=28:=Yn [114,116,114,109,97,112,98,116,95,109,101,109] 28 Zk _ _ Zo hgr (by rw [hl])
    have hm:toks.length=15:=by
     rw [htl]
     have h2:=hgr
     rw [hi] at h2
     obtain rfl:=Option.some.inj h2
     rfl
    rw [hm] at hS' hnu
    rw [hi]
    have hlay:yT (yj ⟨#[]⟩ n) 240 (#[.int .u32 (r.2.2 0),.int .u32 (r.2.2 1),.int .u32 (r.2.2 2),.int .u32 (r.2.2 3),.int .u32 (r.2.2 4),.int .u32 (r.2.2 5),.int .u32 (r.2.2 6),.int .u32 (r.2.2 7),.int .u32 (r.2.2 8),.int .u32 (r.2.2 9),.int .u32 (r.2.2 10),.int .u32 (r.2.2 11),.int .u32 (r.2.2 12),.int .u32 (r.2.2 13),.int .u32 (r.2.2 14)]:Array Value).toList=yj ⟨#[]⟩ (upd n 28 fun j=>(r.2.2 j:Int)):=lay28 ⟨#[]⟩ n (fun j=>(r.2.2 j:Int))
    exact Jq (k:=313) (fo:=240) (cells:=#[.int .u32 (r.2.2 0),.int .u32 (r.2.2 1),.int .u32 (r.2.2 2),.int .u32 (r.2.2 3),.int .u32 (r.2.2 4),.int .u32 (r.2.2 5),.int .u32 (r.2.2 6),.int .u32 (r.2.2 7),.int .u32 (r.2.2 8),.int .u32 (r.2.2 9),.int .u32 (r.2.2 10),.int .u32 (r.2.2 11),.int .u32 (r.2.2 12),.int .u32 (r.2.2 13),.int .u32 (r.2.2 14)]) Tryz.func75 Zk rfl (Qe gu cu (fun j=>(r.2.2 j:Int)) w6 hgu hnu) ZW (show (Tryz.prog.info? 116).map (·.size)=some 15 by kernel_rfl) Zk (show 240+15≤276 by decide) hlay Zd Zd hS' hst6
  refine YC hS26 Zd Zd (fun hl a' hS'=>?_) (fun hl26 a26 hS27=>?_)
  · have hi:r.2.1=29:=Yn [114,116,114,101,102,99,110,116,98,116] 29 Zk _ _ Zo hgr (by rw [hl])
    have hm:toks.length=15:=by
     rw [htl]
     have h2:=hgr
     rw [hi] at h2
     obtain rfl:=Option.some.inj h2
     rfl
    rw [hm] at hS' hnu
    rw [hi]
    have hlay:yT (yj ⟨#[]⟩ n) 255 (#[.int .u32 (r.2.2 0),.int .u32 (r.2.2 1),.int .u32 (r.2.2 2),.int .u32 (r.2.2 3),.int .u32 (r.2.2 4),.int .u32 (r.2.2 5),.int .u32 (r.2.2 6),.int .u32 (r.2.2 7),.int .u32 (r.2.2 8),.int .u32 (r.2.2 9),.int .u32 (r.2.2 10),.int .u32 (r.2.2 11),.int .u32 (r.2.2 12),.int .u32 (r.2.2 13),.int .u32 (r.2.2 14)]:Array Value).toList=yj ⟨#[]⟩ (upd n 29 fun j=>(r.2.2 j:Int)):=lay29 ⟨#[]⟩ n (fun j=>(r.2.2 j:Int))
    exact Jq (k:=321) (fo:=255) (cells:=#[.int .u32 (r.2.2 0),.int .u32 (r.2.2 1),.int .u32 (r.2.2 2),.int .u32 (r.2.2 3),.int .u32 (r.2.2 4),.int .u32 (r.2.2 5),.int .u32 (r.2.2 6),.int .u32 (r.2.2 7),.int .u32 (r.2.2 8),.int .u32 (r.2.2 9),.int .u32 (r.2.2 10),.int .u32 (r.2.2 11),.int .u32 (r.2.2 12),.int .u32 (r.2.2 13),.int .u32 (r.2.2 14)]) Tryz.func76 Zk rfl (QV gu cu (fun j=>(r.2.2 j:Int)) w6 hgu hnu) ZW (show (Tryz.prog.info? 117).map (·.size)=some 15 by kernel_rfl) Zk (show 255+15≤276 by decide) hlay Zd Zd hS' hst6
  refine YC hS27 Zd Zd (fun hl a' hS'=>?_) (fun hl27 a27 hS28=>?_)
  · have hi:r.2.1=17:=Yn [113,109] 17 Zk _ _ Zo hgr (by rw [hl])
    have hm:toks.length=9:=by
     rw [htl]
     have h2:=hgr
     rw [hi] at h2
     obtain rfl:=Option.some.inj h2
     rfl
    rw [hm] at hS' hnu
    rw [hi]
    have hlay:yT (yj ⟨#[]⟩ n) 81 (#[.int .u32 (r.2.2 0),.int .u32 (r.2.2 1),.int .u32 (r.2.2 2),.int .u32 (r.2.2 3),.int .u32 (r.2.2 4),.int .u32 (r.2.2 5),.int .u32 (r.2.2 6),.int .u32 (r.2.2 7),.int .u32 (r.2.2 8)]:Array Value).toList=yj ⟨#[]⟩ (upd n 17 fun j=>(r.2.2 j:Int)):=lay17 ⟨#[]⟩ n (fun j=>(r.2.2 j:Int))
    exact Jq (k:=329) (fo:=81) (cells:=#[.int .u32 (r.2.2 0),.int .u32 (r.2.2 1),.int .u32 (r.2.2 2),.int .u32 (r.2.2 3),.int .u32 (r.2.2 4),.int .u32 (r.2.2 5),.int .u32 (r.2.2 6),.int .u32 (r.2.2 7),.int .u32 (r.2.2 8)]) Tryz.func77 Zk rfl (yaA gu cu (fun j=>(r.2.2 j:Int)) w6 hgu hnu) ZW (show (Tryz.prog.info? 104).map (·.size)=some 9 by kernel_rfl) Zk (show 81+9≤276 by decide) hlay Zd Zd hS' hst6
  refine YC hS28 Zd Zd (fun hl a' hS'=>?_) (fun hl28 a28 hS29=>?_)
  · have hi:r.2.1=16:=Yn [100,101,98,117,103] 16 Zk _ _ Zo hgr (by rw [hl])
    have hm:toks.length=1:=by
     rw [htl]
     have h2:=hgr
     rw [hi] at h2
     obtain rfl:=Option.some.inj h2
     rfl
    rw [hm] at hS' hnu
    rw [hi]
    have hlay:yT (yj ⟨#[]⟩ n) 80 (#[.int .u32 (r.2.2 0)]:Array Value).toList=yj ⟨#[]⟩ (upd n 16 fun j=>(r.2.2 j:Int)):=lay16 ⟨#[]⟩ n (fun j=>(r.2.2 j:Int))
    exact Jq (k:=337) (fo:=80) (cells:=#[.int .u32 (r.2.2 0)]) Tryz.func78 Zk rfl (ycD gu cu (fun j=>(r.2.2 j:Int)) w6 hgu hnu) ZW (show (Tryz.prog.info? 102).map (·.size)=some 1 by kernel_rfl) Zk (show 80+1≤276 by decide) hlay Zd Zd hS' hst6
  refine YC hS29 Zd Zd (fun hl a' hS'=>?_) (fun hl29 a29 hS30=>?_)
  · have hi:r.2.1=30:=Yn [122,111,110,101,100] 30 Zk _ _ Zo hgr (by rw [hl])
    have hm:toks.length=3:=by
     rw [htl]
     have h2:=hgr
     rw [hi] at h2
     obtain rfl:=Option.some.inj h2
     rfl
    rw [hm] at hS' hnu
    rw [hi]
    have hlay:yT (yj ⟨#[]⟩ n) 270 (#[.int .u32 (r.2.2 0),.int .u32 (r.2.2 1),.int .u32 (r.2.2 2)]:Array Value).toList=yj ⟨#[]⟩ (upd n 30 fun j=>(r.2.2 j:Int)):=lay30 ⟨#[]⟩ n (fun j=>(r.2.2 j:Int))
    exact Jq (k:=345) (fo:=270) (cells:=#[.int .u32 (r.2.2 0),.int .u32 (r.2.2 1),.int .u32 (r.2.2 2)]) Tryz.func79 Zk rfl (ycB gu cu (fun j=>(r.2.2 j:Int)) w6 hgu hnu) ZW (show (Tryz.prog.info? 119).map (·.size)=some 3 by kernel_rfl) Zk (show 270+3≤276 by decide) hlay Zd Zd hS' hst6
  refine YC hS30 Zd Zd (fun hl a' hS'=>?_) (fun hl30 a30 hS31=>?_)
  · have hi:r.2.1=31:=Yn [109,101,116,97,102,105,108,101] 31 Zk _ _ Zo hgr (by rw [hl])
    have hm:toks.length=1:=by
     rw [htl]
     have h2:=hgr
     rw [hi] at h2
     obtain rfl:=Option.some.inj h2
     rfl
    rw [hm] at hS' hnu
    rw [hi]
    have hlay:yT (yj ⟨#[]⟩ n) 273 (#[.int .u32 (r.2.2 0)]:Array Value).toList=yj ⟨#[]⟩ (upd n 31 fun j=>(r.2.2 j:Int)):=lay31 ⟨#[]⟩ n (fun j=>(r.2.2 j:Int))
    exact Jq (k:=353) (fo:=273) (cells:=#[.int .u32 (r.2.2 0)]) Tryz.func80 Zk rfl (ybw gu cu (fun j=>(r.2.2 j:Int)) w6 hgu hnu) ZW (show (Tryz.prog.info? 121).map (·.size)=some 1 by kernel_rfl) Zk (show 273+1≤276 by decide) hlay Zd Zd hS' hst6
  exfalso
  have hmem:gr.f0.data.toList ∈ ([[101,120,116,101,110,116,95,97,108,108,111,99],[97,98,116],[98,108,107,95,109,97,112],[98,109,98,116],[100,105,114],[116,114,97,110,115],[105,103],[108,111,103],[114,119],[97,116,116,114],[105,99,108,117,115,116,101,114],[118,110,111,100,101,115],[98,117,102],[120,112,99],[120,115,116,114,97,116],[112,117,115,104,95,97,105,108],[100,101,98,117,103],[113,109],[97,98,116,98,50],[97,98,116,99,50],[98,109,98,116,50],[105,98,116,50],[102,105,98,116,50],[114,109,97,112,98,116],[114,101,102,99,110,116,98,116],[114,109,97,112,98,116,95,109,101,109],[114,99,98,97,103,98,116],[114,116,114,109,97,112,98,116],[114,116,114,109,97,112,98,116,95,109,101,109],[114,116,114,101,102,99,110,116,98,116],[122,111,110,101,100],[109,101,116,97,102,105,108,101],[100,101,102,101,114,95,114,101,108,111,103]]:List (List UInt8)):=groups_mem _ Zk _ _ hr.idx hgr
  simp only [List.mem_cons,List.not_mem_nil,or_false] at hmem
  rcases hmem with h|h|h|h|h|h|h|h|h|h|h|h|h|h|h|h|h|h|h|h|h|h|h|h|h|h|h|h|h|h|h|h|h
  · exact hl0 (ByteArray.ext (Array.toList_inj.1 h))
  · exact hl1 (ByteArray.ext (Array.toList_inj.1 h))
  · exact hl2 (ByteArray.ext (Array.toList_inj.1 h))
  · exact hl3 (ByteArray.ext (Array.toList_inj.1 h))
  · exact hl4 (ByteArray.ext (Array.toList_inj.1 h))
  · exact hl5 (ByteArray.ext (Array.toList_inj.1 h))
  · exact hl6 (ByteArray.ext (Array.toList_inj.1 h))
  · exact hl7 (ByteArray.ext (Array.toList_inj.1 h))
  · exact hl8 (ByteArray.ext (Array.toList_inj.1 h))
  · exact hl9 (ByteArray.ext (Array.toList_inj.1 h))
  · exact hl10 (ByteArray.ext (Array.toList_inj.1 h))
  · exact hl11 (ByteArray.ext (Array.toList_inj.1 h))
  · exact hl12 (ByteArray.ext (Array.toList_inj.1 h))
  · exact hlab1 (ByteArray.ext (Array.toList_inj.1 h))
  · exact hl14 (ByteArray.ext (Array.toList_inj.1 h))
  · exact hl13 (ByteArray.ext (Array.toList_inj.1 h))
  · exact hl28 (ByteArray.ext (Array.toList_inj.1 h))
  · exact hl27 (ByteArray.ext (Array.toList_inj.1 h))
  · exact hl15 (ByteArray.ext (Array.toList_inj.1 h))
  · exact hl16 (ByteArray.ext (Array.toList_inj.1 h))
  · exact hl17 (ByteArray.ext (Array.toList_inj.1 h))
  · exact hl18 (ByteArray.ext (Array.toList_inj.1 h))
  · exact hl19 (ByteArray.ext (Array.toList_inj.1 h))
  · exact hl20 (ByteArray.ext (Array.toList_inj.1 h))
  · exact hl21 (ByteArray.ext (Array.toList_inj.1 h))
  · exact hl22 (ByteArray.ext (Array.toList_inj.1 h))
  · exact hl23 (ByteArray.ext (Array.toList_inj.1 h))
  · exact hl24 (ByteArray.ext (Array.toList_inj.1 h))
  · exact hl25 (ByteArray.ext (Array.toList_inj.1 h))
  · exact hl26 (ByteArray.ext (Array.toList_inj.1 h))
  · exact hl29 (ByteArray.ext (Array.toList_inj.1 h))
  · exact hl30 (ByteArray.ext (Array.toList_inj.1 h))
  · exact hlab2 (ByteArray.ext (Array.toList_inj.1 h))
end Go.Proofs.YtdcaggoicdfehaaGreatDoor
