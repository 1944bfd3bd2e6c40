/- Part 21 of 34 of the proof of the tied card of FnNetstatRead. -/
import Derived.Test.YtlmennkeggmdbaaGreatDoorVz
import Derived.Test.YtlmennkeggmdbaaGreatDoorV20
import Derived.Test.YtlmennkeggmdbaaGreatDoorV13
import Derived.Test.YtlmennkeggmdbaaGreatDoorV6
set_option linter.unusedVariables false
set_option linter.unusedSimpArgs false
namespace Go.Proofs.YtlmennkeggmdbaaGreatDoor
open Go.RowKit Go.Proofs.YtlmennkeggmdbaaGreatDoorW.PrintWords Go.Proofs.YtlmennkeggmdbaaGreatDoorW.PrintLast Go.Proofs.YtlmennkeggmdbaaGreatDoorW.PrintMore
def qL:List UInt8:=[48,46,53,32,48,46,50,53,32,48,46,55,53,32,49,47,52,57,55,32,49,49,57,52,55,10]
abbrev Y2:ByteArray:=⟨qL.toArray⟩
theorem path_walk (s:ByteArray) (v:Value) (w:World):Calls Tryz.prog 204 #[.string s,v] w fun e w'=>e=.returned (.string s)∧w'=w:=by
 go_enter Tryz.func204,Tryz.ntmps204
 generalize ha0:(Act.mk _ _)=a0
 have hsz:a0.tmps.size=6:=by rw [← ha0];rfl
 have hdf:a0.defers=[]:=by rw [← ha0]
 have e0:a0.eval (.tmp 0)=.string s:=by rw [← ha0];rfl
 clear ha0
 refine yY ?_
 refine yq rfl (YL (v:=.string ⟨#[]⟩) rfl) ?_
 refine Yd ?_
 refine yY ?_
 refine yq rfl (yV (v:=.string s) ((yb _ Zd).trans e0)) ?_
 refine yq rfl (YL (v:=.string s) (ya _ Zs)) ?_
 refine Yd ?_
 refine wp_ret ?_
 exact Jd rfl (by simp only [yJ];exact hdf) (ya _ Zs) ⟨rfl,rfl⟩
def laTok (i:Nat):ByteArray:=match i with
 | 0=>⟨#[48,46,53]⟩
 | 1=>⟨#[48,46,50,53]⟩
 | _=>⟨#[48,46,55,53]⟩
def Yy (i:Nat):Nat:=match i with
 | 0=>4602678819172646912
 | 1=>4598175219545276416
 | _=>4604930618986332160
def ycK (k:Nat):Array Value:=#[.float .f64 (if 0<k then Yy 0 else 0),.float .f64 (if 1<k then Yy 1 else 0),.float .f64 (if 2<k then Yy 2 else 0)]
theorem laCells_set (i:Nat) (hi:i<3):(ycK i).setIfInBounds i (.float .f64 (Yy i))=ycK (i+1):=by
 match i,hi with
 | 0,_=>rfl
 | 1,_=>rfl
 | 2,_=>rfl
theorem laParse (i:Nat) (hi:i<3) (w:World) (tb:Addr) (c:Nat) (h:qs w tb c):Calls Tryz.prog 59 #[.string (laTok i),.int .i64 64] w fun e w'=>e=.returned (.tuple #[.float .f64 (Yy i),.nilIface])∧w'=w:=by
 match i,hi with
 | 0,_=>exact parseFloat_5 w tb c h
 | 1,_=>exact ydH w tb c h
 | 2,_=>exact ydI w tb c h
theorem laFields:Lib.fields Y2.data.toList=[[48,46,53],[48,46,50,53],[48,46,55,53],[49,47,52,57,55],[49,49,57,52,55]]:=by kernel_rfl
def ybs:List (List UInt8):=[[48,46,53],[48,46,50,53],[48,46,55,53],[49,47,52,57,55],[49,49,57,52,55]]
theorem laFlds:Lib.fields Y2.data.toList=ybs:=laFields
theorem laTok_at (i:Nat) (hi:i<3):ybs[i]?=some (laTok i).data.toList:=by
 match i,hi with
 | 0,_=>rfl
 | 1,_=>rfl
 | 2,_=>rfl
theorem laAscii:∀ b ∈ qL,b.toNat<128:=by
 have h:qL.all (fun b=>decide (b.toNat<128))=true:=by decide
 exact fun b hb=>of_decide_eq_true (List.all_eq_true.1 h b hb)
structure LF (gp gf i:Nat) (a:Act):Prop where
 size:a.tmps.size=48
 defers:a.defers=[]
 e4:a.eval (.tmp 4)=.slice (some ⟨gf,0,none⟩) 3 3
 e18:a.eval (.tmp 18)=.slice (some ⟨gp,0,none⟩) 3 5
 e19:a.eval (.tmp 19)=.int .i64 3
 e20:a.eval (.tmp 20)=.int .i64 i
theorem LF.put {gp gf i:Nat} {a:Act} (h:LF gp gf i a) {d:Nat} (v:Value) (hd:d≠4) (h18:d≠18) (h19:d≠19) (h20:d≠20):LF gp gf i (a.put (some d) v):=
 ⟨by rw [size_put];exact h.size,by rw [yJ];exact h.defers,(yb _ (Ne.symm hd)).trans h.e4,(yb _ (Ne.symm h18)).trans h.e18,(yb _ (Ne.symm h19)).trans h.e19,(yb _ (Ne.symm h20)).trans h.e20⟩
set_option maxRecDepth 100000 in
theorem mk3 (w:World):(Instr.makeSlice 126 (.int .i64 3) (.int .i64 3)).run Tryz.prog w=.ok (.slice (some ⟨w.heap.size,0,none⟩) 3 3) (w.alloc (.cells #[.float .f64 0,.float .f64 0,.float .f64 0] 31)):=by kernel_rfl
theorem run_mk {a:Act} {d ty pos aft gd} {w w1:World} {T:TypeId} {x y:Operand} {u v r:Value} (hx:a.eval x=u) (hy:a.eval y=v) (hl:(Instr.makeSlice T u v).run Tryz.prog w=.ok r w1):(execOp a.eval ⟨d,.makeSlice T x y,ty,pos,aft,gd⟩).run Tryz.prog w=.ok (.value r) w1:=by
 subst hx hy;exact Y8 hl
set_option maxRecDepth 100000 in
theorem sl_0_3 (gp:Nat) (W:World):(Instr.sliceAt 46 (.slice (some ⟨gp,0,none⟩) 5 5) (some (.int .i64 0)) (some (.int .i64 3)) none).run Tryz.prog W=.ok (.slice (some ⟨gp,0,none⟩) 3 5) W:=by kernel_rfl
theorem run_sl2 {a:Act} {d ty pos aft gd} {w:World} {x:Operand} {T:TypeId} {u v c c':Value} (hx:a.eval x=u) (hl:(Instr.sliceAt T u (some c) (some c') none).run Tryz.prog w=.ok v w):(execOp a.eval ⟨d,.slice T x (some (.const c)) (some (.const c')) none,ty,pos,aft,gd⟩).run Tryz.prog w=.ok (.value v) w:=by
 subst hx;exact Y8 hl
theorem store_f64 {P:Program} {w:World} {a:Addr} {T:TypeId} {x y:Nat} (hT:(isAgg T).run P w=.ok false w) (hs:(sizeOf T).run P w=.ok 1 w) (hc:w.cell? a=some (.float .f64 x)) (hf:w.frozen? a=false) :
 (Instr.storeAt T (.pointer (some a)) (.float .f64 y)).run P w=.ok () (w.setCell a (.float .f64 y)):=by
 simp [Instr.storeAt,Instr.sureAddr,go_sem,hc,hf,hT,hs]
theorem args_tc {a:Act} {j:Nat} {v c:Value} (h:a.eval (.tmp j)=v):#[Operand.tmp j,.const c].map a.eval=#[v,c]:=by
 have:a.eval (.const c)=c:=rfl
 simp [h,this]
set_option maxRecDepth 100000 in
theorem idx126 {gf i:Nat} (hi:i<3) (W:World):(Instr.indexAt 126 (.slice (some ⟨gf,0,none⟩) 3 3) (.int .i64 i)).run Tryz.prog W=.ok (.pointer (some ⟨gf,i,none⟩)) W:=idx_of Tryz.underlying126 Zk hi W
set_option maxRecDepth 100000 in
set_option maxHeartbeats 2000000 in
theorem yde (w:World) (gb cap:Nat) (tb:Addr) (c:Nat) (hb:∀ j (hj:j<qL.length),w.cell? ((⟨gb,0,none⟩:Addr).add j)=some (.int .u8 (qL[j].toNat:Int))) (htab:∀ W,Below w.heap.size w W→Lib.TabIs Tryz.prog W "strings.asciiSpace" .u8 Lib.asciiSpaceTab) (hfv:∀ W,Below w.heap.size w W→qs W tb c) (hgb:gb<w.heap.size) :
 Calls Tryz.prog 205 #[.slice (some ⟨gb,0,none⟩) qL.length cap] w fun e w'=>∃ gs,e=.returned (.tuple #[.pointer (some ⟨gs,0,none⟩),.nilIface])∧w'.heap[gs]?=some (.cells #[.float .f64 (Yy 0),.float .f64 (Yy 1),.float .f64 (Yy 2)] 97 (0,0))∧Below w.heap.size w w':=by
 go_enter Tryz.func205,Tryz.ntmps205
 generalize ha0:(Act.mk _ _)=a0
 have hsz:a0.tmps.size=48:=by rw [← ha0];rfl
 have hdf:a0.defers=[]:=by rw [← ha0]
 have e0:a0.eval (.tmp 0)=.slice (some ⟨gb,0,none⟩) qL.length cap:=by rw [← ha0];rfl
 clear ha0
 refine yY ?_
 refine yq rfl (YL (v:=.pointer none) rfl) ?_
 refine yq rfl (YL (v:=.nilIface) rfl) ?_
 refine Yd ?_
 refine yY ?_
 refine yq rfl (run_mk (u:=.int .i64 3) (v:=.int .i64 3) rfl rfl (mk3 w)) ?_
 have hgf:=YP w (.cells #[.float .f64 0,.float .f64 0,.float .f64 0] 31 (0,0))
 have hB1:Below w.heap.size w (w.alloc (.cells #[.float .f64 0,.float .f64 0,.float .f64 0] 31 (0,0))):=yl (Below.refl _ _) _
 generalize (w.alloc (.cells #[.float .f64 0,.float .f64 0,.float .f64 0] 31 (0,0)))=w1 at hgf hB1 ⊢
 refine yq rfl (YL (ya _ Zs)) ?_
 refine Yd ?_
 generalize hq:(Act.put _ (some 4) _)=a1
 have s1:a1.tmps.size=48:=by rw [← hq];simp only [size_put];exact hsz
 have d1:a1.defers=[]:=by rw [← hq];simp only [yJ];exact hdf
 have e10:a1.eval (.tmp 0)=.slice (some ⟨gb,0,none⟩) qL.length cap:=by rw [← hq];simp (disch:=decide) only [yb,e0]
 have e14:a1.eval (.tmp 4)=.slice (some ⟨w.heap.size,0,none⟩) 3 3:=by rw [← hq,ya _ Zs]
 clear hq
 refine wp_seq ?_
 refine wp_region_list ?_
 refine Kd.yB rfl (yV e10) ?_
 refine Kd.yB rfl (ycm (p:=.slice (some ⟨gb,0,none⟩) qL.length cap) (v:=.string Y2) (ya _ Zo) (run_convert_bytes_back (P:=Tryz.prog) _ 86 9 5 ⟨gb,0,none⟩ cap qL Tryz.underlying86 Tryz.underlying5 Tryz.underlying9 ?_)) ?_
 · intro j hj
   have h:=hb j hj
   rw [hB1.cell (by rw [Addr.add_mid];exact hgb)]
   exact h
 refine YD (some 12) rfl rfl Tryz.func212 Zk rfl #[.string Y2] rfl (yas (ya _ Zs)) ?_
 refine (Tryz.strings_Fields Y2 w1 Zd (fun j b hb=>laAscii b (List.mem_of_getElem? (by simpa using hb))) (htab w1 hB1)).mono ?_
 rintro e w2 ⟨rfl,rfl⟩
 refine ⟨_,rfl,?_⟩
 rw [laFlds]
 refine Kd.yB rfl (YL (ya _ Zs)) ?_
 refine wpList_nil ?_
 simp only [Exit.then]
 have hgp:=YP w1 (.cells ((ybs.map fun l=>Value.string ⟨l.toArray⟩).toArray) 9 (0,0))
 have hgf2:=Yw hgf (.cells ((ybs.map fun l=>Value.string ⟨l.toArray⟩).toArray) 9 (0,0))
 have hB2:Below w.heap.size w (w1.alloc (.cells ((ybs.map fun l=>Value.string ⟨l.toArray⟩).toArray) 9 (0,0))):=yl hB1 _
 generalize (w1.alloc (.cells ((ybs.map fun l=>Value.string ⟨l.toArray⟩).toArray) 9 (0,0)))=w2 at hgp hgf2 hB2 ⊢
 have hne:w.heap.size≠w1.heap.size:=by have:=YQ hgf;omega
 have hge1:=yt hB1
 generalize hq:(Act.put _ (some 5) _)=a2
 have s2:a2.tmps.size=48:=by rw [← hq];simp only [size_put];exact s1
 have d2:a2.defers=[]:=by rw [← hq];simp only [yJ];exact d1
 have e24:a2.eval (.tmp 4)=.slice (some ⟨w.heap.size,0,none⟩) 3 3:=by rw [← hq];simp (disch:=decide) only [yb,e14]
 have e25:a2.eval (.tmp 5)=.slice (some ⟨w1.heap.size,0,none⟩) 5 5:=by rw [← hq,ya _ Zs];rfl
 clear hq
 refine wp_seq ?_
 refine yY ?_
 refine yq rfl (yV e25) ?_
 refine yq rfl (Qm Tryz.underlying46 (n:=5) (A:=some ⟨w1.heap.size,0,none⟩) (cap:=5) (ya _ Zo) _) ?_
 refine yq rfl (ya9 (i:=((5:Nat):Int)) (n:=3) (ya _ Zs) rfl) ?_
 rw [decide_eq_false Zd]
 refine Yd ?_
 refine wp_cond_false (ya _ Zs) ?_
 refine wp_skip ?_
 simp only [Exit.then]
 refine yY ?_
 refine yq rfl (YL (v:=.nilIface) rfl) ?_
 refine Yd ?_
 refine wp_seq ?_
 refine yY ?_
 refine yq rfl (yV (v:=.slice (some ⟨w1.heap.size,0,none⟩) 5 5) (by simp (disch:=exact Zq s2) only [ya,yb,e25])) ?_
 refine yq rfl (run_sl2 (ya _ Zs) (sl_0_3 _ _)) ?_
 refine yq rfl (Qm Tryz.underlying46 (n:=3) (A:=some ⟨w1.heap.size,0,none⟩) (cap:=5) (ya _ Zs) _) ?_
 refine yq rfl (yV (v:=.int .i64 ((0:Nat):Int)) rfl) ?_
 refine Yd ?_
 generalize hq:(Act.put _ (some 20) _)=a3
 have hS:LF w1.heap.size w.heap.size 0 a3:=⟨by rw [← hq];simp only [size_put];exact s2,by rw [← hq];simp only [yJ];exact d2,by rw [← hq];simp (disch:=decide) only [yb,e24],
  by rw [← hq];simp (disch:=exact Zq s2) only [ya,yb],by rw [← hq];simp (disch:=exact Zq s2) only [ya,yb];rfl,by rw [← hq];simp (disch:=exact Zq s2) only [ya,yb]⟩
 clear hq
 refine wp_block ?_
 refine wp_loop_ghost (fun r a w'=>∃ i,r+i=3∧LF w1.heap.size w.heap.size i a∧w'.heap[w.heap.size]?=some (.cells (ycK i) 31 (0,0))∧w'.heap[w1.heap.size]?=some (.cells ((ybs.map fun l=>Value.string ⟨l.toArray⟩).toArray) 9 (0,0))∧Below w.heap.size w w') 3 ⟨0,rfl,hS,hgf2,hgp,hB2⟩ ?_
 clear hS hgf2 hgp hB2 e10 e14 e24 e25 s1 s2 d1 d2
 rintro r a wr ⟨i,hri,hS,hgf,hgp,hBr⟩
 have hsa:=hS.size
 refine yY ?_
 refine yq rfl (ya9 (i:=(i:Int)) (n:=3) hS.e20 hS.e19) ?_
 refine Yd ?_
 by_cases hin:i<3
 · refine wp_seq ?_
   refine wp_cond_true (?_:_=Value.bool true) ?_
   · rw [ya _ Zo,decide_eq_true Zo]
   refine wp_skip ?_
   simp only [Exit.then]
   have hS2:=hS.put (.bool (decide ((i:Int)<3))) (show 21≠4 by decide) Zd Zd Zd
   generalize (a.put (some 21) (.bool (decide ((i:Int)<3))))=a2 at hS2 ⊢
   clear hS hsa
   have hsa:=hS2.size
   refine wp_seq ?_
   refine wp_block ?_
   refine yY ?_
   refine yq rfl (yV hS2.e20) ?_
   refine yq rfl (qv ((yb _ Zd).trans hS2.e18) ((yb _ Zd).trans hS2.e20) (idx_of Tryz.underlying46 Zk hin _)) ?_
   refine yq rfl (run_load (p:=.pointer (some ⟨w1.heap.size,i,none⟩)) (v:=.string (laTok i)) (ya _ Zs) (Qz Zk ?_)) ?_
   · rw [yg hgp]
     simp [laTok_at i hin]
   refine yq rfl (YL (v:=.int .i64 i) (by simp (disch:=exact Zq hsa) only [ya,yb])) ?_
   refine yq rfl (YL (v:=.string (laTok i)) (by simp (disch:=exact Zq hsa) only [ya,yb])) ?_
   refine Yd ?_
   generalize hq:(Act.put _ (some 8) _)=a3
   have hS3:LF w1.heap.size w.heap.size i a3:=by
    rw [← hq]
    exact ((((hS2.put _ Zd Zd Zd Zd).put _ Zd Zd Zd Zd).put _ Zd Zd Zd Zd).put _ Zd Zd Zd Zd).put _ Zd Zd Zd Zd
   have e37:a3.eval (.tmp 7)=.int .i64 i:=by rw [← hq];simp (disch:=exact Zq hsa) only [ya,yb]
   have e38:a3.eval (.tmp 8)=.string (laTok i):=by rw [← hq,ya _ Zs]
   clear hq hS2 hsa
   have hsa:=hS3.size
   refine wp_seq ?_
   refine wp_region_list ?_
   refine Kd.yB rfl (yV hS3.e4) ?_
   refine Kd.yB rfl (yV ((yb _ Zd).trans e37)) ?_
   refine Kd.yB rfl (yV ((yb _ Zd).trans ((yb _ Zd).trans e38))) ?_
   refine YD (some 29) rfl rfl Tryz.func59 Zk rfl #[.string (laTok i),.int .i64 64] rfl (args_tc (ya _ Zs)) ?_
   refine (laParse i hin wr tb c (hfv wr hBr)).mono ?_
   rintro e w3 ⟨rfl,rfl⟩
   refine ⟨_,rfl,?_⟩
   refine Kd.yB rfl (yV (v:=.tuple #[.float .f64 (Yy i),.nilIface]) (ya _ Zs)) ?_
   refine Kd.yB rfl (JF (u:=.tuple #[.float .f64 (Yy i),.nilIface]) (v:=.float .f64 (Yy i)) (ya _ Zs) (J8 _ _ _)) ?_
   refine Kd.yB rfl (JF (u:=.tuple #[.float .f64 (Yy i),.nilIface]) (v:=.nilIface) ((yb _ Zd).trans (ya _ Zs)) (J9 _ _ _)) ?_
   refine Kd.yB rfl (qv (u:=.slice (some ⟨w.heap.size,0,none⟩) 3 3) (i:=.int .i64 i) (by simp (disch:=exact Zq hsa) only [ya,yb]) (by simp (disch:=exact Zq hsa) only [ya,yb]) (idx126 hin _)) ?_
   refine JH rfl rfl (run_store (p:=.pointer (some ⟨w.heap.size,i,none⟩)) (v:=.float .f64 (Yy i)) (ya _ Zs) (by simp (disch:=exact Zq hsa) only [ya,yb]) (store_f64 (x:=0) Zk Zk ?_ (yf hgf i))) ?_
   · rw [yg hgf]
     match i,hin with
     | 0,_=>rfl
     | 1,_=>rfl
     | 2,_=>rfl
   refine Kd.yB rfl (YL (v:=.nilIface) (by simp (disch:=exact Zq hsa) only [ya,yb])) ?_
   refine wpList_nil ?_
   simp only [Exit.then]
   have hgf':=yy hgf i (.float .f64 (Yy i)) rfl
   rw [laCells_set i hin] at hgf'
   have hgp':=yH hgp (p:=⟨w.heap.size,i,none⟩) (Ne.symm hne) (.float .f64 (Yy i))
   have hBr':Below w.heap.size w (w3.setCell ⟨w.heap.size,i,none⟩ (.float .f64 (Yy i))):=yu hBr (Nat.le_refl _)
   generalize (w3.setCell ⟨w.heap.size,i,none⟩ (.float .f64 (Yy i)))=w4 at hgf' hgp' hBr' ⊢
   generalize hq:(Act.put _ (some 6) _)=a4
   have hS4:LF w1.heap.size w.heap.size i a4:=by
    rw [← hq]
    exact ((((((((hS3.put _ Zd Zd Zd Zd).put _ Zd Zd Zd Zd).put _ Zd Zd Zd Zd).put _ Zd Zd Zd Zd).put _ Zd Zd Zd Zd).put _ Zd Zd Zd Zd).put _ Zd Zd Zd Zd).put _ Zd Zd Zd Zd).put _ Zd Zd Zd Zd
   have e46:a4.eval (.tmp 6)=.nilIface:=by rw [← hq,ya _ Zs]
   clear hq hS3 hsa
   have hsa:=hS4.size
   refine yY ?_
   refine yq rfl (yV e46) ?_
   refine yq rfl (yba (ya _ Zo) ZW) ?_
   refine Yd ?_
   refine wp_cond_false (ya _ Zs) ?_
   refine wp_skip ?_
   simp only [Exit.then,Exit.inBlock]
   have hS5:=(hS4.put (.nilIface) (show 33≠4 by decide) Zd Zd Zd).put (.bool false) (show 34≠4 by decide) Zd Zd Zd
   generalize (Act.put (Act.put a4 (some 33) (.nilIface)) (some 34) (.bool false))=a5 at hS5 ⊢
   have hs5:=hS5.size
   refine wp_region_list (qO ?_)
   refine yq rfl (ybZ (i:=(i:Int)) (n:=1) hS5.e20 rfl) ?_
   refine yq rfl (yV (v:=.int .i64 ((i+1:Nat):Int)) ?_) ?_
   · rw [ya _ Zo,wrap_i64 Zo Zo];rfl
   refine Yd ?_
   simp only [Exit.then]
   exact ⟨r - 1,by omega,i+1,by omega,⟨by simp only [size_put];exact hs5,by simp only [yJ];exact hS5.defers,by simp (disch:=decide) only [yb,hS5.e4],by simp (disch:=decide) only [yb,hS5.e18],by simp (disch:=decide) only [yb,hS5.e19],ya _ Zs⟩,hgf',hgp',hBr'⟩
 · have hi3:i=3:=by omega
   subst hi3
   refine wp_seq ?_
   refine wp_cond_false (?_:_=Value.bool false) ?_
   · rw [ya _ Zo,decide_eq_false Zo]
   refine wp_exit ?_
   simp only [Exit.then,Exit.inBlock,if_true]
   have hS2:=hS.put (.bool (decide (((3:Nat):Int)<3))) (show 21≠4 by decide) Zd Zd Zd
   generalize (a.put (some 21) (.bool (decide (((3:Nat):Int)<3))))=a2 at hS2 ⊢
   have hB3:=hBr
   let WB:World→Prop:=fun w'=>w'.heap[w.heap.size]?=some (.cells (ycK 3) 31 (0,0))∧Below w.heap.size w w'
   let J:Nat→Act→World→Prop:=fun p a' w'=>LF w1.heap.size w.heap.size 3 a'∧WB w'∧(1≤p→a'.eval (.tmp 46)=.agg #[.float .f64 (Yy 0),.float .f64 (Yy 1),.float .f64 (Yy 2)]) ∧
    (2≤p→∃ gs,a'.eval (.tmp 47)=.pointer (some ⟨gs,0,none⟩)∧w'.heap[gs]?=some (.cells #[.float .f64 (Yy 0),.float .f64 (Yy 1),.float .f64 (Yy 2)] 97 (0,0))∧(3≤p→a'.eval (.tmp 2)=.pointer (some ⟨gs,0,none⟩)))∧(4≤p→a'.eval (.tmp 3)=.nilIface)
   have hJput:∀ (p d:Nat) (v:Value) (a':Act) (w':World),J p a' w'→d≠2→d≠3→d≠4→d≠18→d≠19→d≠20→d≠46→d≠47→J p (a'.put (some d) v) w':=fun p d v a' w' h n2 n3 n4 n18 n19 n20 n46 n47=>by
    obtain ⟨h1,h2,h3,h4,h5⟩:=h
    refine ⟨h1.put v n4 n18 n19 n20,h2,fun hp=>(yb _ (Ne.symm n46)).trans (h3 hp),fun hp=>?_,fun hp=>(yb _ (Ne.symm n3)).trans (h5 hp)⟩
    obtain ⟨gs,k1,k2,k3⟩:=h4 hp
    exact ⟨gs,(yb _ (Ne.symm n47)).trans k1,k2,fun hp=>(yb _ (Ne.symm n2)).trans (k3 hp)⟩
   refine wp_seq ?_
   refine yai (k:=37) (n:=13) (B:=[0,1,2,0,8,16,0,64,128,292,512,1536,4095]) (E:=[0,1,2,3,4,5,6,7,8]) (L:=[9,10,11,12])
    (Y:=fun j=>([.slice (some ⟨w.heap.size,0,none⟩) 3 3,.pointer (some ⟨w.heap.size,0,none⟩),.float .f64 (Yy 0),.slice (some ⟨w.heap.size,0,none⟩) 3 3,.pointer (some ⟨w.heap.size,1,none⟩),.float .f64 (Yy 1),.slice (some ⟨w.heap.size,0,none⟩) 3 3,.pointer (some ⟨w.heap.size,2,none⟩),.float .f64 (Yy 2)]:List Value).getD j undef)
    J (fun a' w'=>LF w1.heap.size w.heap.size 3 a'∧WB w') Zk rfl Zk Zk Zd Zd Zd Zd Zd Zd Zk ?_ ?_ ?_ ?_ ?_ ?_ ?_
   · intro j o hj ho
     left
     simp only [List.mem_cons,List.not_mem_nil,or_false] at hj
     rcases hj with rfl|rfl|rfl|rfl|rfl|rfl|rfl|rfl|rfl <;> (obtain rfl:=Option.some.inj ho; rfl)
   · rintro p a' w' hp ⟨h1,h2,_⟩
     exact ⟨⟨h1,h2⟩,fun j hj=>by
      simp only [List.mem_cons,List.not_mem_nil,or_false] at hj
      rw [h1.size];omega⟩
   · rintro j o hj ho a' W hgot ⟨hF,hg,hBW⟩
     simp only [List.mem_cons,List.not_mem_nil,or_false] at hj
     rcases hj with rfl|rfl|rfl|rfl|rfl|rfl|rfl|rfl|rfl
     · obtain rfl:=Option.some.inj ho;exact yV hF.e4
     · obtain rfl:=Option.some.inj ho;exact qv (hgot 0 Zd) rfl (idx126 (i:=0) Zd W)
     · obtain rfl:=Option.some.inj ho;exact run_load (hgot 1 Zd) (Qz Zk ((yg hg 0).trans rfl))
     · obtain rfl:=Option.some.inj ho;exact yV hF.e4
     · obtain rfl:=Option.some.inj ho;exact qv (hgot 3 Zd) rfl (idx126 (i:=1) Zd W)
     · obtain rfl:=Option.some.inj ho;exact run_load (hgot 4 Zd) (Qz Zk ((yg hg 1).trans rfl))
     · obtain rfl:=Option.some.inj ho;exact yV hF.e4
     · obtain rfl:=Option.some.inj ho;exact qv (hgot 6 Zd) rfl (idx126 (i:=2) Zd W)
     · obtain rfl:=Option.some.inj ho;exact run_load (hgot 7 Zd) (Qz Zk ((yg hg 2).trans rfl))
   · rintro p j a' w' hp hj h
     have hj9:j<9:=by
      simp only [List.mem_cons,List.not_mem_nil,or_false] at hj
      omega
     exact hJput p (37+j) _ a' w' h Zo Zo Zo Zo Zo Zo Zo Zo
   · intro p hp
     have hp4:p<4:=hp
     match p,hp4 with
     | 0,_=>
      refine ⟨_,rfl,?_⟩
      rintro a' w' ⟨h1,h2,h3,h4,h5⟩ hgot
      refine ⟨YZ rfl,fun K hKf=>?_⟩
      refine J4 (ya7 (vs:=#[(0,.float .f64 (Yy 0)),(1,.float .f64 (Yy 1)),(2,.float .f64 (Yy 2))]) (v:=.agg #[.float .f64 (Yy 0),.float .f64 (Yy 1),.float .f64 (Yy 2)]) ?_ Zk) (hKf _ _ ⟨h1.put _ Zd Zd Zd Zd,h2,fun _=>ya _ (by rw [h1.size];decide),fun h=>by omega,fun h=>by omega⟩ (fun j hj=>yb _ ?_))
      · have q0:=hgot 2 Zd Zd
        have q1:=hgot 5 Zd Zd
        have q2:=hgot 8 Zd Zd
        simp only [List.map_toArray,List.map_cons,List.map_nil]
        rw [show a'.eval (.tmp 39)=_ from q0,show a'.eval (.tmp 42)=_ from q1,show a'.eval (.tmp 45)=_ from q2]
        rfl
      · simp only [List.mem_cons,List.not_mem_nil,or_false] at hj
        omega
     | 1,_=>
      refine ⟨_,rfl,?_⟩
      rintro a' w' ⟨h1,h2,h3,h4,h5⟩ hgot
      refine ⟨YZ rfl,fun K hKf=>?_⟩
      refine J4 (yaC (v:=.pointer (some ⟨w'.heap.size,0,none⟩)) (w1:=w'.alloc (.cells #[.float .f64 (Yy 0),.float .f64 (Yy 1),.float .f64 (Yy 2)] 97)) (h3 Zd) Zk) (hKf _ _ ⟨h1.put _ Zd Zd Zd Zd,⟨Yw h2.1 _,yl h2.2 _⟩,fun _=>(yb _ Zd).trans (h3 Zd),fun _=>⟨w'.heap.size,ya _ (by rw [h1.size];decide),YP _ _,fun h=>by omega⟩,fun h=>by omega⟩ (fun j hj=>yb _ ?_))
      simp only [List.mem_cons,List.not_mem_nil,or_false] at hj
      omega
     | 2,_=>
      refine ⟨_,rfl,?_⟩
      rintro a' w' ⟨h1,h2,h3,h4,h5⟩ hgot
      obtain ⟨gs,k1,k2,k3⟩:=h4 Zd
      refine ⟨YZ rfl,fun K hKf=>?_⟩
      refine J4 (YL k1) (hKf _ _ ⟨h1.put _ Zd Zd Zd Zd,h2,fun _=>(yb _ Zd).trans (h3 Zd),fun _=>⟨gs,(yb _ Zd).trans k1,k2,fun _=>ya _ (by rw [h1.size];decide)⟩,fun h=>by omega⟩ (fun j hj=>yb _ ?_))
      omega
     | 3,_=>
      refine ⟨_,rfl,?_⟩
      rintro a' w' ⟨h1,h2,h3,h4,h5⟩ hgot
      obtain ⟨gs,k1,k2,k3⟩:=h4 Zd
      refine ⟨YZ rfl,fun K hKf=>?_⟩
      refine J4 (YL (v:=.nilIface) rfl) (hKf _ _ ⟨h1.put _ Zd Zd Zd Zd,h2,fun _=>(yb _ Zd).trans (h3 Zd),fun _=>⟨gs,(yb _ Zd).trans k1,k2,fun _=>(yb _ Zd).trans (k3 Zd)⟩,fun _=>ya _ (by rw [h1.size];decide)⟩ (fun j hj=>yb _ ?_))
      omega
   · exact ⟨hS2,⟨hgf,hBr.drew⟩,fun h=>by omega,fun h=>by omega,fun h=>by omega⟩
   rintro a' w' ⟨h1,h2,h3,h4,h5⟩ _
   obtain ⟨gs,k1,k2,k3⟩:=h4 Zd
   simp only [Exit.then]
   refine wp_ret ?_
   have p2:∀ b:Act,b.tmps.getD 2 undef=b.eval (.tmp 2):=fun _=>rfl
   have p3:∀ b:Act,b.tmps.getD 3 undef=b.eval (.tmp 3):=fun _=>rfl
   exact bodyPost_ret (results_tmp2 rfl _ _ _) h1.defers ⟨gs,by rw [p2,p3,k3 Zd,h5 Zd],k2,h2.2⟩
set_option maxRecDepth 100000 in
theorem textFS_walk (s:ByteArray) (w:World):Calls Tryz.prog 38 #[.string s] w fun e w'=>e=.returned (.agg #[.string s])∧Below w.heap.size w w':=by
 go_enter Tryz.func38,Tryz.ntmps38
 generalize ha0:(Act.mk _ _)=a0
 have hsz:a0.tmps.size=5:=by rw [← ha0];rfl
 have hdf:a0.defers=[]:=by rw [← ha0]
 have e0:a0.eval (.tmp 0)=.string s:=by rw [← ha0];rfl
 clear ha0
 refine yY ?_
 refine yq rfl (YT (show _=Result.ok (.pointer (some ⟨w.heap.size,0,none⟩)) (w.alloc (.cells #[.string ⟨#[]⟩] 60)) by kernel_rfl)) ?_
 refine Yd ?_
 have hb1:=YP w (.cells #[.string ⟨#[]⟩] 60 (0,0))
 have hB1:Below w.heap.size w (w.alloc (.cells #[.string ⟨#[]⟩] 60 (0,0))):=yl (Below.refl _ _) _
 generalize (w.alloc (.cells #[.string ⟨#[]⟩] 60 (0,0)))=w1 at hb1 hB1 ⊢
 refine wp_seq ?_
 refine wp_region_list (qO ?_)
 refine yq rfl (yV (v:=.string s) ((yb _ Zd).trans e0)) ?_
 refine yq rfl (ya7 (vs:=#[(0,.string s)]) (v:=.agg #[.string s]) ?_ Zk) ?_
 · simp only [List.map_toArray,List.map_cons,List.map_nil]
   rw [ya _ Zs]
 refine yal rfl rfl (run_store (p:=.pointer (some ⟨w.heap.size,0,none⟩)) (v:=.agg #[.string s]) (by simp (disch:=exact Zq hsz) only [ya,yb]) (ya _ Zs) (run_storeAt_mid w1 w.heap.size 0 60 #[.string s] (there_blk hb1 (by simp)) Zk Zk)) ?_
 refine Yd ?_
 simp only [Exit.then]
 refine wp_ret ?_
 have hb2:=yau (#[Value.string s].toList) 0 _ _ hb1
 refine bodyPost_ret (v:=.agg #[.string s]) (results_cell_row rfl _ _ w.heap.size 60 #[.string s] (0,0) _ ?_ hb2 Tryz.underlying60 rfl Zk) (by simp only [yJ];exact hdf) ⟨rfl,Qy (Nat.le_refl _) _ _ _ hB1⟩
 have hp2:∀ b:Act,b.tmps.getD 2 undef=b.eval (.tmp 2):=fun _=>rfl
 rw [hp2]
 simp (disch:=exact Zq hsz) only [ya,yb]
end Go.Proofs.YtlmennkeggmdbaaGreatDoor
