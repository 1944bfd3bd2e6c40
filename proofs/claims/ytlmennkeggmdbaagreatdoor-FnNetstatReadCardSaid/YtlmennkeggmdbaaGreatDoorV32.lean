/- Part 32 of 34 of the proof of the tied card of FnNetstatRead. -/
import Derived.Test.YtlmennkeggmdbaaGreatDoorVz
import Derived.Test.YtlmennkeggmdbaaGreatDoorV23
import Derived.Test.YtlmennkeggmdbaaGreatDoorV28
import Derived.Test.YtlmennkeggmdbaaGreatDoorV30
import Derived.Test.YtlmennkeggmdbaaGreatDoorV31
import Derived.Test.YtlmennkeggmdbaaGreatDoorV20
import Derived.Test.YtlmennkeggmdbaaGreatDoorV16
import Derived.Test.YtlmennkeggmdbaaGreatDoorV25
set_option linter.unusedVariables false
set_option linter.unusedSimpArgs false
namespace Go.Proofs.YtlmennkeggmdbaaGreatDoor
open Go.RowKit Go.Proofs.YtlmennkeggmdbaaGreatDoorW.PrintWords Go.Proofs.YtlmennkeggmdbaaGreatDoorW.PrintLast Go.Proofs.YtlmennkeggmdbaaGreatDoorW.PrintMore
structure Plainly (text:ByteArray):Prop where
 facts:∃ rows ok told,(∃ k,Y5.f k text=some (rows,ok,told))∧(told=1→ok=true∧∃ gs:List Grp,(∀ g ∈ gs,ybB g)∧text=mkB (Jw gs) ∧
  ∃ r1 r2 r3 r4 r5 r6 r7 r8,(∃ k,Y6.f k rows=some (r1,r2,r3,r4,r5,r6,r7,r8,1))∧∃ k,yS.f k ⟨#[]⟩ 8 false 0 0 0 ⟨#[]⟩ (JW (JR J5 gs))=some (r1,r2,r3,r4,r5,r6,r7,r8))
theorem yaH.vars {w:World} {tb:Addr} {c:Nat} (h:yaH w tb c):Vars w:=fun W hW=>⟨tb,c,h.fv W hW⟩
theorem V_other {e base gg:Nat} {w w1:World} {v:Value} {xs:List S71} (h:Kd.V k71 e w base (fun k=>k≠gg) v xs) (ho:∀ j,j≠gg→w1.heap[j]?=w.heap[j]?):Kd.V k71 e w1 base (fun k=>k≠gg) v xs:=Kd.ybe h (fun _ hf=>Kd.F_step hf (fun k hk _=>ho k hk))
structure RF (gg gn:Nat) (a:Act):Prop where
 size:a.tmps.size=62
 defers:a.defers=[]
 e11:a.eval (.tmp 11)=.int .i64 1
 e12:a.eval (.tmp 12)=.pointer (some ⟨gg,0,none⟩)
 e13:a.eval (.tmp 13)=.int .i64 0
 e14:a.eval (.tmp 14)=.pointer (some ⟨gn,0,none⟩)
theorem RF.put {gg gn:Nat} {a:Act} (h:RF gg gn a) {d:Nat} (v:Value) (h1:d≠11) (h2:d≠12) (h3:d≠13) (h4:d≠14):RF gg gn (a.put (some d) v):=
 ⟨by rw [size_put];exact h.size,by rw [yJ];exact h.defers,(yb _ (Ne.symm h1)).trans h.e11,(yb _ (Ne.symm h2)).trans h.e12,(yb _ (Ne.symm h3)).trans h.e13,(yb _ (Ne.symm h4)).trans h.e14⟩
set_option maxRecDepth 100000 in
set_option maxHeartbeats 4000000 in
theorem read_walk (text:ByteArray) (hlen:text.size≤40000) (hP:Plainly text) (w:World) (tb:Addr) (c:Nat) (hl:yaH w tb c) :
 Calls Tryz.prog 4 #[.string text,(.func (.func 5) #[] #[]),(.func (.func 6) #[] #[]),(.func (.func 7) #[] #[])] w fun e w'=>e=.returned (.bool true)∧Below w.heap.size w w':=by
 obtain ⟨rows,g,told,⟨kr,hrd⟩,hgood⟩:=hP.facts
 go_enter Tryz.func4,Tryz.ntmps4
 generalize ha0:(Act.mk _ _)=a0
 have hsz:a0.tmps.size=62:=by rw [← ha0];rfl
 have hdf:a0.defers=[]:=by rw [← ha0]
 have e0:a0.eval (.tmp 0)=.string text:=by rw [← ha0];rfl
 have e1:a0.eval (.tmp 1)=(.func (.func 5) #[] #[]):=by rw [← ha0];rfl
 have e2:a0.eval (.tmp 2)=(.func (.func 6) #[] #[]):=by rw [← ha0];rfl
 have e3:a0.eval (.tmp 3)=(.func (.func 7) #[] #[]):=by rw [← ha0];rfl
 clear ha0
 refine yY ?_
 refine yq rfl (YL (v:=.bool false) rfl) ?_
 refine Yd ?_
 refine wp_seq ?_
 refine yY ?_
 refine yq rfl (yV (v:=.string text) ((yb _ Zd).trans e0)) ?_
 refine yq rfl (Qu (s:=text) (ya _ Zs)) ?_
 refine yq rfl (ycP (i:=text.size) (n:=40000) (ya _ Zs) rfl) ?_
 rw [decide_eq_false Zo]
 refine Yd ?_
 refine wp_cond_false (ya _ Zs) ?_
 refine wp_skip ?_
 simp only [Exit.then]
 generalize hq:(Act.put _ (some 17) _)=a1
 have s1:a1.tmps.size=62:=by rw [← hq];simp only [size_put];exact hsz
 have d1:a1.defers=[]:=by rw [← hq];simp only [yJ];exact hdf
 have f0:a1.eval (.tmp 0)=.string text:=by rw [← hq];simp (disch:=decide) only [yb,e0]
 have f1:a1.eval (.tmp 1)=(.func (.func 5) #[] #[]):=by rw [← hq];simp (disch:=decide) only [yb,e1]
 have f2:a1.eval (.tmp 2)=(.func (.func 6) #[] #[]):=by rw [← hq];simp (disch:=decide) only [yb,e2]
 have f3:a1.eval (.tmp 3)=(.func (.func 7) #[] #[]):=by rw [← hq];simp (disch:=decide) only [yb,e3]
 clear hq
 refine wp_seq ?_
 refine wp_region_list ?_
 refine Kd.yB rfl (yV f1) ?_
 refine Kd.yB rfl (yV ((yb _ Zd).trans f0)) ?_
 refine goesV_ (some 21) rfl rfl (x:=.tmp 19) (f:=5) (cap:=#[]) (by simp (disch:=exact Zq s1) only [ya,yb]) Tryz.func5 Zk rfl #[.string text] #[.string text] rfl (yas (ya _ Zs)) rfl ?_
 refine (Y5.calls kr text rows g told w hrd).mono ?_
 rintro e w1 ⟨l1,rfl,hN1,hB1⟩
 have hV1:Kd.V k71 71 w1 w1.heap.size (fun _=>True) l1 rows:=Kd.Jf (Kd.N_V hN1) (fun _ _=>trivial)
 refine ⟨_,rfl,?_⟩
 refine Kd.yB rfl (yV (v:=.tuple #[l1,.bool g,.int .i64 told]) (ya _ Zs)) ?_
 refine Kd.yB rfl (JF (u:=.tuple #[l1,.bool g,.int .i64 told]) (v:=l1) (ya _ Zs) (ext3_0 _ _ _ _)) ?_
 refine Kd.yB rfl (JF (u:=.tuple #[l1,.bool g,.int .i64 told]) (v:=.bool g) ((yb _ Zd).trans (ya _ Zs)) (ext3_1 _ _ _ _)) ?_
 refine Kd.yB rfl (JF (u:=.tuple #[l1,.bool g,.int .i64 told]) (v:=.int .i64 told) ((yb _ Zd).trans ((yb _ Zd).trans (ya _ Zs))) (ext3_2 _ _ _ _)) ?_
 refine Kd.yB rfl (YL (v:=l1) (by simp (disch:=exact Zq s1) only [ya,yb])) ?_
 refine Kd.yB rfl (YL (v:=.bool g) (by simp (disch:=exact Zq s1) only [ya,yb])) ?_
 refine Kd.yB rfl (YL (v:=.int .i64 told) (by simp (disch:=exact Zq s1) only [ya,yb])) ?_
 refine wpList_nil ?_
 simp only [Exit.then]
 generalize hq:(Act.put _ (some 11) _)=a2
 have s2:a2.tmps.size=62:=by rw [← hq];simp only [size_put];exact s1
 have d2:a2.defers=[]:=by rw [← hq];simp only [yJ];exact d1
 have g0:a2.eval (.tmp 0)=.string text:=by rw [← hq];simp (disch:=decide) only [yb,f0]
 have g1:a2.eval (.tmp 1)=(.func (.func 5) #[] #[]):=by rw [← hq];simp (disch:=decide) only [yb,f1]
 have g2:a2.eval (.tmp 2)=(.func (.func 6) #[] #[]):=by rw [← hq];simp (disch:=decide) only [yb,f2]
 have g3:a2.eval (.tmp 3)=(.func (.func 7) #[] #[]):=by rw [← hq];simp (disch:=decide) only [yb,f3]
 have g9:a2.eval (.tmp 9)=l1:=by rw [← hq];simp (disch:=exact Zq s1) only [ya,yb]
 have g10:a2.eval (.tmp 10)=.bool g:=by rw [← hq];simp (disch:=exact Zq s1) only [ya,yb]
 have g11:a2.eval (.tmp 11)=.int .i64 told:=by rw [← hq];simp (disch:=exact Zq s1) only [ya,yb]
 clear hq
 by_cases ht:told=1
 case neg=>
  refine wp_seq ?_
  refine yY ?_
  refine yq rfl (yV (v:=.int .i64 told) g11) ?_
  refine yq rfl ((ydn (i:=told) (n:=1) (ya _ Zo) rfl).trans (show _=Result.ok (Next.value (.bool true)) _ by rw [show (told == 1)=false by simpa using ht];rfl)) ?_
  refine Yd ?_
  refine wp_cond_true (ya _ Zs) ?_
  refine wp_seq ?_
  refine wp_region_list ?_
  refine YD (some 27) rfl rfl Tryz.func8 Zk rfl #[] rfl (by simp) ?_
  refine (yc9 w1 tb c (hl.step hB1)).mono ?_
  rintro e w2 ⟨rfl,hB2⟩
  refine ⟨_,rfl,?_⟩
  refine Kd.yB rfl (YL (v:=.bool true) (ya _ Zs)) ?_
  refine wpList_nil ?_
  simp only [Exit.then]
  refine wp_ret ?_
  simp only [Exit.then]
  exact Jd rfl (by simp only [yJ];exact d2) (ya _ Zs) ⟨rfl,yw hB1 hB2⟩
 case pos=>
  subst ht
  obtain ⟨rfl,gs,hgs,rfl,r1,r2,r3,r4,r5,r6,r7,r8,⟨kt,htree⟩,⟨kn,hnode⟩⟩:=hgood rfl
  rw [size_mk] at hlen
  refine wp_seq ?_
  refine yY ?_
  refine yq rfl (yV (v:=.int .i64 1) g11) ?_
  refine yq rfl ((ydn (i:=1) (n:=1) (ya _ Zo) rfl).trans (show _=Result.ok (Next.value (.bool false)) _ from rfl)) ?_
  refine Yd ?_
  refine wp_cond_false (ya _ Zs) ?_
  refine wp_skip ?_
  simp only [Exit.then]
  generalize hq:(Act.put _ (some 26) _)=a3
  have s3:a3.tmps.size=62:=by rw [← hq];simp only [size_put];exact s2
  have d3:a3.defers=[]:=by rw [← hq];simp only [yJ];exact d2
  have h0:a3.eval (.tmp 0)=.string (mkB (Jw gs)):=by rw [← hq];simp (disch:=decide) only [yb,g0]
  have h2:a3.eval (.tmp 2)=.func (.func 6) #[] #[]:=by rw [← hq];simp (disch:=decide) only [yb,g2]
  have h3:a3.eval (.tmp 3)=.func (.func 7) #[] #[]:=by rw [← hq];simp (disch:=decide) only [yb,g3]
  have h9:a3.eval (.tmp 9)=l1:=by rw [← hq];simp (disch:=decide) only [yb,g9]
  have h10:a3.eval (.tmp 10)=.bool true:=by rw [← hq];simp (disch:=decide) only [yb,g10]
  clear hq
  refine wp_seq ?_
  refine wp_region_list ?_
  refine Kd.yB rfl (yV h3) ?_
  refine Kd.yB rfl (yV ((yb _ Zd).trans h0)) ?_
  refine goesV_ (some 31) rfl rfl (x:=.tmp 29) (f:=7) (cap:=#[]) (by simp (disch:=exact Zq s3) only [ya,yb]) Tryz.func7 Zk rfl #[.string (mkB (Jw gs))] #[.string (mkB (Jw gs))] rfl (yas (ya _ Zs)) rfl ?_
  refine (implN_walk gs hgs Zo w1 (hl.step hB1).vars).mono ?_
  rintro e w2 ⟨vg,rfl,hRg,hB2⟩
  obtain ⟨kids,hkids⟩:∃ kids,kids=(JW (JR J5 gs)):=⟨_,rfl⟩
  rw [← hkids] at hnode hRg
  clear hkids
  have hB2w:=yw hB1 hB2
  have hV2:=Kd.yaq hV1 hB2
  refine ⟨_,rfl,?_⟩
  refine Kd.yB rfl (yV (v:=.tuple #[.agg (Yl ⟨#[]⟩ vg),.int .i64 0]) (ya _ Zs)) ?_
  refine Kd.yB rfl (JF (u:=.tuple #[.agg (Yl ⟨#[]⟩ vg),.int .i64 0]) (v:=.agg (Yl ⟨#[]⟩ vg)) (ya _ Zs) (J8 _ _ _)) ?_
  refine Kd.yB rfl (JF (u:=.tuple #[.agg (Yl ⟨#[]⟩ vg),.int .i64 0]) (v:=.int .i64 0) ((yb _ Zd).trans (ya _ Zs)) (J9 _ _ _)) ?_
  refine Kd.yB rfl (YT (Jh w2)) ?_
  have hgg:=YP w2 (.cells #[.string ⟨#[]⟩,.int .i64 0,.bool false,.int .i64 0,.int .u64 0,.float .f64 0,.string ⟨#[]⟩,.slice none 0 0] 34 (0,0))
  have hBg:Below w.heap.size w (w2.alloc (.cells #[.string ⟨#[]⟩,.int .i64 0,.bool false,.int .i64 0,.int .u64 0,.float .f64 0,.string ⟨#[]⟩,.slice none 0 0] 34 (0,0))):=yl hB2w _
  have hVg:=Kd.V_alloc hV2 (.cells #[.string ⟨#[]⟩,.int .i64 0,.bool false,.int .i64 0,.int .u64 0,.float .f64 0,.string ⟨#[]⟩,.slice none 0 0] 34 (0,0))
  have hRg':Kd.R k34 34 (w2.alloc (.cells #[.string ⟨#[]⟩,.int .i64 0,.bool false,.int .i64 0,.int .u64 0,.float .f64 0,.string ⟨#[]⟩,.slice none 0 0] 34 (0,0))) w1.heap.size (fun k=>k≠w2.heap.size) vg kids:=Kd.Yr (Kd.qn (Kd.JP hRg) (w1:=w2.alloc (.cells #[.string ⟨#[]⟩,.int .i64 0,.bool false,.int .i64 0,.int .u64 0,.float .f64 0,.string ⟨#[]⟩,.slice none 0 0] 34 (0,0))) (fun k _ hk=>Below.heap_alloc w2 _ k hk)) (fun k hk=>by have:=hk.2.2.1;omega)
  obtain ⟨Ag,cg,rfl⟩:=Kd.YF hRg'
  have hge2:=yt hB2w
  generalize hggv:w2.heap.size=gg at hgg hRg' ⊢
  have hVg1:Kd.V k71 71 (w2.alloc (.cells #[.string ⟨#[]⟩,.int .i64 0,.bool false,.int .i64 0,.int .u64 0,.float .f64 0,.string ⟨#[]⟩,.slice none 0 0] 34 (0,0))) 0 (fun k=>k≠gg) l1 rows:=Kd.Jf (Kd.V_alloc (Kd.V_bound hV2) (.cells #[.string ⟨#[]⟩,.int .i64 0,.bool false,.int .i64 0,.int .u64 0,.float .f64 0,.string ⟨#[]⟩,.slice none 0 0] 34 (0,0))) (fun k hk=>by have:=hk.2;omega)
  generalize (w2.alloc (.cells #[.string ⟨#[]⟩,.int .i64 0,.bool false,.int .i64 0,.int .u64 0,.float .f64 0,.string ⟨#[]⟩,.slice none 0 0] 34 (0,0)))=w3 at hgg hBg hVg hRg' hVg1 ⊢
  obtain ⟨w4,hrun4,hb4,hoth4,hbel4⟩:=J3 (s1:=⟨#[]⟩) (k:=8) (b:=false) (i:=0) (u:=0) (f:=0) (s2:=⟨#[]⟩) (A:=Ag) (n:=kids.length) (c:=cg) hgg rfl
  refine JH rfl rfl (run_store (p:=.pointer (some ⟨gg,0,none⟩)) (v:=.agg (Yl ⟨#[]⟩ (.slice Ag kids.length cg))) (ya _ Zs) (by simp (disch:=exact Zq s3) only [ya,yb]) hrun4) ?_
  refine Kd.yB rfl (YL (v:=.int .i64 0) (by simp (disch:=exact Zq s3) only [ya,yb])) ?_
  refine wpList_nil ?_
  simp only [Exit.then]
  have hR4:=Kd.qn (w1:=w4) hRg' (fun j hj _=>hoth4 j hj)
  have hB4:=hbel4 _ _ Zo hBg
  have hV4:=V_other hVg1 (w1:=w4) hoth4
  have hC4:=(Kd.YK hR4).2
  generalize hq:(Act.put _ (some 13) _)=a4
  have s4:a4.tmps.size=62:=by rw [← hq];simp only [size_put];exact s3
  have d4:a4.defers=[]:=by rw [← hq];simp only [yJ];exact d3
  have j2:a4.eval (.tmp 2)=.func (.func 6) #[] #[]:=by rw [← hq];simp (disch:=decide) only [yb,h2]
  have j9:a4.eval (.tmp 9)=l1:=by rw [← hq];simp (disch:=decide) only [yb,h9]
  have j10:a4.eval (.tmp 10)=.bool true:=by rw [← hq];simp (disch:=decide) only [yb,h10]
  have j12:a4.eval (.tmp 12)=.pointer (some ⟨gg,0,none⟩):=by rw [← hq,yb _ Zd,ya _ Zs]
  have j13:a4.eval (.tmp 13)=.int .i64 0:=by rw [← hq,ya _ Zs]
  clear hq hRg' hVg hVg1 hgg hV2 hRg
  refine wp_seq ?_
  refine yY ?_
  refine yq rfl (yV j10) ?_
  refine yq rfl (run_not_t (ya _ Zo)) ?_
  refine Yd ?_
  refine wp_cond_false (ya _ Zs) ?_
  refine wp_skip ?_
  simp only [Exit.then]
  generalize hq:(Act.put _ (some 35) _)=a5
  have s5:a5.tmps.size=62:=by rw [← hq];simp only [size_put];exact s4
  have d5:a5.defers=[]:=by rw [← hq];simp only [yJ];exact d4
  have k2:a5.eval (.tmp 2)=.func (.func 6) #[] #[]:=by rw [← hq];simp (disch:=decide) only [yb,j2]
  have k9:a5.eval (.tmp 9)=l1:=by rw [← hq];simp (disch:=decide) only [yb,j9]
  have k12:a5.eval (.tmp 12)=.pointer (some ⟨gg,0,none⟩):=by rw [← hq];simp (disch:=decide) only [yb,j12]
  have k13:a5.eval (.tmp 13)=.int .i64 0:=by rw [← hq];simp (disch:=decide) only [yb,j13]
  clear hq
  obtain ⟨Al,cl,rfl,hll,hFl⟩:=hV4
  have hV4:Kd.V k71 71 w4 w4.heap.size (fun k=>k≠gg) (.slice Al rows.length cl) rows:=⟨Al,cl,rfl,hll,hFl⟩
  refine wp_seq ?_
  refine wp_region_list ?_
  refine Kd.yB rfl (yV k2) ?_
  refine Kd.yB rfl (yV ((yb _ Zd).trans k9)) ?_
  refine goesV_ (some 44) rfl rfl (x:=.tmp 42) (f:=6) (cap:=#[]) (by simp (disch:=exact Zq s5) only [ya,yb]) Tryz.func6 Zk rfl #[.slice Al rows.length cl] #[.slice Al rows.length cl] rfl (yas (ya _ Zs)) rfl ?_
  refine (Y6.calls kt Al cl rows r1 r2 r3 r4 r5 r6 r7 r8 1 w4 (Kd.F_now hFl) hll htree).mono ?_
  rintro e w5 ⟨vn,rfl,hVn,hB5⟩
  have hB5w:=yw hB4 hB5
  have hb5:=yI hb4 hB5
  have hC5:=Kd.qj hC4.2 hB5
  obtain ⟨An,cn,rfl,hln,hFn⟩:=hVn
  have hCn:Kd.C k38 w5 An r8.length r8:=Kd.F_now hFn
  refine ⟨_,rfl,?_⟩
  refine Kd.yB rfl (yV (v:=.tuple #[.agg #[.string r1,.int .i64 r2,.bool r3,.int .i64 r4,.int .u64 r5,.float .f64 r6,.string r7,.slice An r8.length cn],.int .i64 1]) (ya _ Zs)) ?_
  refine Kd.yB rfl (JF (u:=.tuple #[.agg #[.string r1,.int .i64 r2,.bool r3,.int .i64 r4,.int .u64 r5,.float .f64 r6,.string r7,.slice An r8.length cn],.int .i64 1]) (v:=.agg #[.string r1,.int .i64 r2,.bool r3,.int .i64 r4,.int .u64 r5,.float .f64 r6,.string r7,.slice An r8.length cn]) (ya _ Zs) (J8 _ _ _)) ?_
  refine Kd.yB rfl (JF (u:=.tuple #[.agg #[.string r1,.int .i64 r2,.bool r3,.int .i64 r4,.int .u64 r5,.float .f64 r6,.string r7,.slice An r8.length cn],.int .i64 1]) (v:=.int .i64 1) ((yb _ Zd).trans (ya _ Zs)) (J9 _ _ _)) ?_
  refine Kd.yB rfl (YT (run_alloc38 w5)) ?_
  have hgn:=YP w5 (.cells #[.string ⟨#[]⟩,.int .i64 0,.bool false,.int .i64 0,.int .u64 0,.float .f64 0,.string ⟨#[]⟩,.slice none 0 0] 38 (0,0))
  have hBn:Below w.heap.size w (w5.alloc (.cells #[.string ⟨#[]⟩,.int .i64 0,.bool false,.int .i64 0,.int .u64 0,.float .f64 0,.string ⟨#[]⟩,.slice none 0 0] 38 (0,0))):=yl hB5w _
  have hbn:=Yw hb5 (.cells #[.string ⟨#[]⟩,.int .i64 0,.bool false,.int .i64 0,.int .u64 0,.float .f64 0,.string ⟨#[]⟩,.slice none 0 0] 38 (0,0))
  have hB55:Below w5.heap.size w5 (w5.alloc (.cells #[.string ⟨#[]⟩,.int .i64 0,.bool false,.int .i64 0,.int .u64 0,.float .f64 0,.string ⟨#[]⟩,.slice none 0 0] 38 (0,0))):=yl (Below.refl _ _) _
  have hge5:=yt hB5w
  have hgg5:=YQ hb5
  generalize (w5.alloc (.cells #[.string ⟨#[]⟩,.int .i64 0,.bool false,.int .i64 0,.int .u64 0,.float .f64 0,.string ⟨#[]⟩,.slice none 0 0] 38 (0,0)))=w6 at hgn hBn hbn hB55 ⊢
  obtain ⟨w7,hrun7,hb7,hoth7,hbel7⟩:=run_st38 (s1:=r1) (k:=r2) (b:=r3) (i:=r4) (u:=r5) (f:=r6) (s2:=r7) (A:=An) (n:=r8.length) (c:=cn) hgn
  refine JH rfl rfl (run_store (p:=.pointer (some ⟨w5.heap.size,0,none⟩)) (v:=.agg #[.string r1,.int .i64 r2,.bool r3,.int .i64 r4,.int .u64 r5,.float .f64 r6,.string r7,.slice An r8.length cn]) (ya _ Zs) (by simp (disch:=exact Zq s5) only [ya,yb]) hrun7) ?_
  refine Kd.yB rfl (YL (v:=.int .i64 1) (by simp (disch:=exact Zq s5) only [ya,yb])) ?_
  refine wpList_nil ?_
  simp only [Exit.then]
  have hbg7:=(hoth7 gg Zo).trans hbn
  have hB7:=hbel7 _ _ hge5 hBn
  have hB57:=hbel7 _ _ (Nat.le_refl _) hB55
  have hC7:=Kd.qj hC5 hB57
  have hN7:=Kd.qj hCn hB57
  generalize w5.heap.size=gn at hgn hb7 hoth7 hbel7 ⊢
  generalize hq:(Act.put _ (some 11) _)=a6
  have hRF:RF gg gn a6:=⟨by rw [← hq];simp only [size_put];exact s5,by rw [← hq];simp only [yJ];exact d5,by rw [← hq,ya _ Zs],by rw [← hq];simp (disch:=decide) only [yb,k12],by rw [← hq];simp (disch:=decide) only [yb,k13],by rw [← hq,yb _ Zd,ya _ Zs]⟩
  clear hq
  refine wp_seq ?_
  let WB:World→Prop:=fun w'=>Below w7.heap.size w7 w'
  let J:Nat→Act→World→Prop:=fun p a' w'=>RF gg gn a'∧WB w'∧(1≤p→∃ cs:List Value,a'.eval (.tmp 54)=.agg cs.toArray∧k38.K w' ⟨r1,r2,r3,r4,r5,r6,r7,r8⟩ cs)∧(2≤p→a'.eval (.tmp 56)=.bool true)∧(3≤p→a'.eval (.tmp 57)=.bool true)∧(4≤p→a'.eval (.tmp 58)=.bool true)∧(5≤p→a'.eval (.tmp 59)=.bool true)∧(6≤p→a'.eval (.tmp 60)=.bool true)∧(7≤p→a'.eval (.tmp 61)=.bool true)∧(8≤p→a'.eval (.tmp 8)=.bool true)
  have hJput:∀ (p d:Nat) (v:Value) (a':Act) (w':World),J p a' w'→d≠8→d≠11→d≠12→d≠13→d≠14→d≠54→d<56→J p (a'.put (some d) v) w':=fun p d v a' w' h n8 n11 n12 n13 n14 n54 n56=>by
   obtain ⟨q1,q2,q3,q4,q5,q6,q7,q8,q9,q10⟩:=h
   refine ⟨q1.put v n11 n12 n13 n14,q2,fun hp=>?_,fun hp=>(yb _ Zo).trans (q4 hp),fun hp=>(yb _ Zo).trans (q5 hp),fun hp=>(yb _ Zo).trans (q6 hp),fun hp=>(yb _ Zo).trans (q7 hp),fun hp=>(yb _ Zo).trans (q8 hp),fun hp=>(yb _ Zo).trans (q9 hp),fun hp=>(yb _ (Ne.symm n8)).trans (q10 hp)⟩
   obtain ⟨cs,u1,u2⟩:=q3 hp
   exact ⟨cs,(yb _ (Ne.symm n54)).trans u1,u2⟩
  have hnK:∀ W,Below w7.heap.size w7 W→k38.K W ⟨r1,r2,r3,r4,r5,r6,r7,r8⟩ [.string r1,.int .i64 r2,.bool r3,.int .i64 r4,.int .u64 r5,.float .f64 r6,.string r7,.slice An r8.length cn]:=fun W hW=>
   k38_mk W ⟨r1,r2,r3,r4,r5,r6,r7,r8⟩ hln (Kd.qj hN7 hW)
  refine yai (k:=47) (n:=16) (B:=[0,1,3,7,15,31,63,127,63,511,1023,2047,4095,8191,16383,32767]) (E:=[0,1,2,3,4,5,6,8]) (L:=[7,9,10,11,12,13,14,15])
   (Y:=fun j=>([.int .i64 1,.bool false,.bool false,.int .i64 0,.bool true,.bool true,.agg (Yl ⟨#[]⟩ (.slice Ag kids.length cg)),undef,.agg #[.string r1,.int .i64 r2,.bool r3,.int .i64 r4,.int .u64 r5,.float .f64 r6,.string r7,.slice An r8.length cn]]:List Value).getD j undef)
   J (fun a' w'=>RF gg gn a'∧WB w') Zk rfl Zk Zk Zd Zd Zd Zd Zd Zd Zk ?_ ?_ ?_ ?_ ?_ ?_ ?_
  · intro j o hj ho
    simp only [List.mem_cons,List.not_mem_nil,or_false] at hj
    rcases hj with rfl|rfl|rfl|rfl|rfl|rfl|rfl|rfl
    · obtain rfl:=Option.some.inj ho;exact .inl rfl
    · obtain rfl:=Option.some.inj ho;exact .inl rfl
    · obtain rfl:=Option.some.inj ho;exact .inl rfl
    · obtain rfl:=Option.some.inj ho;exact .inr ⟨2,false,rfl,by decide,rfl⟩
    · obtain rfl:=Option.some.inj ho;exact .inr ⟨2,false,rfl,by decide,rfl⟩
    · obtain rfl:=Option.some.inj ho;exact .inr ⟨2,false,rfl,by decide,rfl⟩
    · obtain rfl:=Option.some.inj ho;exact .inr ⟨5,true,rfl,by decide,rfl⟩
    · obtain rfl:=Option.some.inj ho;exact .inr ⟨5,true,rfl,by decide,rfl⟩
  · rintro p a' w' hp ⟨q1,q2,_⟩
    exact ⟨⟨q1,q2⟩,fun j hj=>by
     simp only [List.mem_cons,List.not_mem_nil,or_false] at hj
     rw [q1.size];omega⟩
  · rintro j o hj ho a' W hgot ⟨hF,hW⟩
    simp only [List.mem_cons,List.not_mem_nil,or_false] at hj
    rcases hj with rfl|rfl|rfl|rfl|rfl|rfl|rfl|rfl
    · obtain rfl:=Option.some.inj ho;exact yV hF.e11
    · obtain rfl:=Option.some.inj ho;exact (ydn (i:=1) (n:=1) (hgot 0 Zd) rfl).trans rfl
    · obtain rfl:=Option.some.inj ho;exact yV (hgot 1 Zd)
    · obtain rfl:=Option.some.inj ho;exact yV hF.e13
    · obtain rfl:=Option.some.inj ho;exact (run_eqli (i:=0) (n:=0) (hgot 3 Zd) rfl).trans rfl
    · obtain rfl:=Option.some.inj ho;exact yV (hgot 4 Zd)
    · obtain rfl:=Option.some.inj ho;exact run_load hF.e12 (run_loadVar_row W gg 34 34 _ (0,0) _ (yI hbg7 hW) Tryz.underlying34 rfl Zk)
    · obtain rfl:=Option.some.inj ho;exact run_load hF.e14 (run_loadVar_row W gn 38 38 _ (0,0) _ (yI hb7 hW) Tryz.underlying38 rfl Zk)
  · rintro p j a' w' hp hj h
    have hj9:j<9∧j≠7:=by
     simp only [List.mem_cons,List.not_mem_nil,or_false] at hj
     omega
    exact hJput p (47+j) _ a' w' h Zo Zo Zo Zo Zo Zo Zo
  · intro p hp
    have hp8:p<8:=hp
    match p,hp8 with
    | 0,_=>
     refine ⟨_,rfl,?_⟩
     rintro a' w' ⟨q1,q2,q3,q4,q5,q6,q7,q8,q9,q10⟩ hgot
     refine ⟨YA (d:=52) rfl rfl rfl (by rw [q1.size];decide) (hgot 5 Zd Zd),fun K hKf=>?_⟩
     refine ya0 Tryz.func10 Zk rfl #[.agg (Yl ⟨#[]⟩ (.slice Ag kids.length cg))] rfl (yas (hgot 6 Zd Zd)) ?_
     refine (yS.calls kn ⟨#[]⟩ 8 false 0 0 0 ⟨#[]⟩ Ag cg kids r1 r2 r3 r4 r5 r6 r7 r8 w' (Kd.qj hC7 q2) hC4.1 hnode).mono ?_
     rintro e w8 ⟨v8,rfl,hR8,hB8⟩
     obtain ⟨A8,c8,rfl⟩:=Kd.YF hR8
     have hr8:=Kd.YK hR8
     refine ⟨_,rfl,hKf _ _ ⟨q1.put _ Zd Zd Zd Zd,yw q2 hB8,fun _=>⟨_,ya _ (by rw [q1.size];decide),k38_mk w8 ⟨r1,r2,r3,r4,r5,r6,r7,r8⟩ hr8.2.1 hr8.2.2⟩,fun h=>by omega,fun h=>by omega,fun h=>by omega,fun h=>by omega,fun h=>by omega,fun h=>by omega,fun h=>by omega⟩ (fun j hj=>yb _ ?_)⟩
     simp only [List.mem_cons,List.not_mem_nil,or_false] at hj
     omega
    | 1,_=>
     refine ⟨_,rfl,?_⟩
     rintro a' w' ⟨q1,q2,q3,q4,q5,q6,q7,q8,q9,q10⟩ hgot
     refine ⟨YA (d:=52) rfl rfl rfl (by rw [q1.size];decide) (hgot 5 Zd Zd),fun K hKf=>?_⟩
     obtain ⟨cs,u1,u2⟩:=q3 Zd
     refine ya0 Tryz.func9 Zk rfl #[.agg cs.toArray,.agg #[.string r1,.int .i64 r2,.bool r3,.int .i64 r4,.int .u64 r5,.float .f64 r6,.string r7,.slice An r8.length cn]] rfl (ycH u1 (hgot 8 Zd Zd)) ?_
     refine (same_walk _ ⟨r1,r2,r3,r4,r5,r6,r7,r8⟩ cs _ w' (Nat.le_refl _) u2 (hnK w' q2)).mono ?_
     rintro e w8 ⟨rfl,hB8⟩
     refine ⟨_,rfl,hKf _ _ ⟨q1.put _ Zd Zd Zd Zd,yw q2 hB8,fun _=>⟨cs,(yb _ Zd).trans u1,Kd.JD _ hB8 u2⟩,fun _=>ya _ (by rw [q1.size];decide),fun h=>by omega,fun h=>by omega,fun h=>by omega,fun h=>by omega,fun h=>by omega,fun h=>by omega⟩ (fun j hj=>yb _ ?_)⟩
     simp only [List.mem_cons,List.not_mem_nil,or_false] at hj
     omega
    | 2,_=>
     refine ⟨_,rfl,?_⟩
     rintro a' w' ⟨q1,q2,q3,q4,q5,q6,q7,q8,q9,q10⟩ hgot
     obtain ⟨cs,u1,u2⟩:=q3 Zd
     refine ⟨YA (d:=49) rfl rfl rfl (by rw [q1.size];decide) (hgot 2 Zd Zd),fun K hKf=>?_⟩
     refine J4 (ydo (r:=.bool true) (hgot 5 Zd Zd) (q4 Zd)) (hKf _ _ ⟨q1.put _ Zd Zd Zd Zd,q2,fun _=>⟨cs,(yb _ Zd).trans u1,u2⟩,fun _=>(yb _ Zd).trans (q4 Zd),fun _=>ya _ (by rw [q1.size];decide),fun h=>by omega,fun h=>by omega,fun h=>by omega,fun h=>by omega,fun h=>by omega⟩ (fun j hj=>yb _ ?_))
     simp only [List.mem_cons,List.not_mem_nil,or_false] at hj
     omega
    | 3,_=>
     refine ⟨_,rfl,?_⟩
     rintro a' w' ⟨q1,q2,q3,q4,q5,q6,q7,q8,q9,q10⟩ hgot
     obtain ⟨cs,u1,u2⟩:=q3 Zd
     refine ⟨YZ rfl,fun K hKf=>?_⟩
     refine J4 (run_pick_f (r:=.bool true) (hgot 2 Zd Zd) (q5 Zd)) (hKf _ _ ⟨q1.put _ Zd Zd Zd Zd,q2,fun _=>⟨cs,(yb _ Zd).trans u1,u2⟩,fun _=>(yb _ Zd).trans (q4 Zd),fun _=>(yb _ Zd).trans (q5 Zd),fun _=>ya _ (by rw [q1.size];decide),fun h=>by omega,fun h=>by omega,fun h=>by omega,fun h=>by omega⟩ (fun j hj=>yb _ ?_))
     simp only [List.mem_cons,List.not_mem_nil,or_false] at hj
     omega
    | 4,_=>
     refine ⟨_,rfl,?_⟩
     rintro a' w' ⟨q1,q2,q3,q4,q5,q6,q7,q8,q9,q10⟩ hgot
     obtain ⟨cs,u1,u2⟩:=q3 Zd
     refine ⟨YZ rfl,fun K hKf=>?_⟩
     refine J4 (yV (q6 Zd)) (hKf _ _ ⟨q1.put _ Zd Zd Zd Zd,q2,fun _=>⟨cs,(yb _ Zd).trans u1,u2⟩,fun _=>(yb _ Zd).trans (q4 Zd),fun _=>(yb _ Zd).trans (q5 Zd),fun _=>(yb _ Zd).trans (q6 Zd),fun _=>ya _ (by rw [q1.size];decide),fun h=>by omega,fun h=>by omega,fun h=>by omega⟩ (fun j hj=>yb _ ?_))
     simp only [List.mem_cons,List.not_mem_nil,or_false] at hj
     omega
    | 5,_=>
     refine ⟨_,rfl,?_⟩
     rintro a' w' ⟨q1,q2,q3,q4,q5,q6,q7,q8,q9,q10⟩ hgot
     obtain ⟨cs,u1,u2⟩:=q3 Zd
     refine ⟨YA (d:=59) rfl rfl rfl (by rw [q1.size];decide) (q7 Zd),fun K hKf=>?_⟩
     refine ya0 Tryz.func8 Zk rfl #[] rfl (by simp) ?_
     refine (yc9 w' tb c (hl.step (yw hB7 q2))).mono ?_
     rintro e w8 ⟨rfl,hB8⟩
     refine ⟨_,rfl,hKf _ _ ⟨q1.put _ Zd Zd Zd Zd,yw q2 hB8,fun _=>⟨cs,(yb _ Zd).trans u1,Kd.JD _ hB8 u2⟩,fun _=>(yb _ Zd).trans (q4 Zd),fun _=>(yb _ Zd).trans (q5 Zd),fun _=>(yb _ Zd).trans (q6 Zd),fun _=>(yb _ Zd).trans (q7 Zd),fun _=>ya _ (by rw [q1.size];decide),fun h=>by omega,fun h=>by omega⟩ (fun j hj=>yb _ ?_)⟩
     simp only [List.mem_cons,List.not_mem_nil,or_false] at hj
     omega
    | 6,_=>
     refine ⟨_,rfl,?_⟩
     rintro a' w' ⟨q1,q2,q3,q4,q5,q6,q7,q8,q9,q10⟩ hgot
     obtain ⟨cs,u1,u2⟩:=q3 Zd
     refine ⟨YZ rfl,fun K hKf=>?_⟩
     refine J4 (ydo (r:=.bool true) (q7 Zd) (q8 Zd)) (hKf _ _ ⟨q1.put _ Zd Zd Zd Zd,q2,fun _=>⟨cs,(yb _ Zd).trans u1,u2⟩,fun _=>(yb _ Zd).trans (q4 Zd),fun _=>(yb _ Zd).trans (q5 Zd),fun _=>(yb _ Zd).trans (q6 Zd),fun _=>(yb _ Zd).trans (q7 Zd),fun _=>(yb _ Zd).trans (q8 Zd),fun _=>ya _ (by rw [q1.size];decide),fun h=>by omega⟩ (fun j hj=>yb _ ?_))
     simp only [List.mem_cons,List.not_mem_nil,or_false] at hj
     omega
    | 7,_=>
     refine ⟨_,rfl,?_⟩
     rintro a' w' ⟨q1,q2,q3,q4,q5,q6,q7,q8,q9,q10⟩ hgot
     obtain ⟨cs,u1,u2⟩:=q3 Zd
     refine ⟨YZ rfl,fun K hKf=>?_⟩
     refine J4 (YL (q9 Zd)) (hKf _ _ ⟨q1.put _ Zd Zd Zd Zd,q2,fun _=>⟨cs,(yb _ Zd).trans u1,u2⟩,fun _=>(yb _ Zd).trans (q4 Zd),fun _=>(yb _ Zd).trans (q5 Zd),fun _=>(yb _ Zd).trans (q6 Zd),fun _=>(yb _ Zd).trans (q7 Zd),fun _=>(yb _ Zd).trans (q8 Zd),fun _=>(yb _ Zd).trans (q9 Zd),fun _=>ya _ (by rw [q1.size];decide)⟩ (fun j hj=>yb _ ?_))
     simp only [List.mem_cons,List.not_mem_nil,or_false] at hj
     omega
  · exact ⟨hRF,(Below.refl _ _).drew,fun h=>by omega,fun h=>by omega,fun h=>by omega,fun h=>by omega,fun h=>by omega,fun h=>by omega,fun h=>by omega,fun h=>by omega⟩
  rintro a' w' ⟨q1,q2,q3,q4,q5,q6,q7,q8,q9,q10⟩ _
  simp only [Exit.then]
  refine wp_ret ?_
  exact Jd rfl q1.defers (q10 Zd) ⟨rfl,yw hB7 q2⟩
end Go.Proofs.YtlmennkeggmdbaaGreatDoor
namespace Go.Proofs.YtlmennkeggmdbaaGreatDoor
open Go.RowKit Go.Proofs.YtlmennkeggmdbaaGreatDoorW.PrintWords Go.Proofs.YtlmennkeggmdbaaGreatDoorW.PrintLast Go.Proofs.YtlmennkeggmdbaaGreatDoorW.PrintMore
theorem read_big (text:ByteArray) (f1 f2 f3:Value) (hlen:40000<text.size) (w:World):Calls Tryz.prog 4 #[.string text,f1,f2,f3] w fun e w'=>e=.returned (.bool true)∧Below w.heap.size w w':=by
 go_enter Tryz.func4,Tryz.ntmps4
 generalize ha0:(Act.mk _ _)=a0
 have hsz:a0.tmps.size=62:=by rw [← ha0];rfl
 have hdf:a0.defers=[]:=by rw [← ha0]
 have e0:a0.eval (.tmp 0)=.string text:=by rw [← ha0];rfl
 clear ha0
 refine yY ?_
 refine yq rfl (YL (v:=.bool false) rfl) ?_
 refine Yd ?_
 refine wp_seq ?_
 refine yY ?_
 refine yq rfl (yV (v:=.string text) ((yb _ Zd).trans e0)) ?_
 refine yq rfl (Qu (s:=text) (ya _ Zs)) ?_
 refine yq rfl (ycP (i:=text.size) (n:=40000) (ya _ Zs) rfl) ?_
 rw [decide_eq_true Zo]
 refine Yd ?_
 refine wp_cond_true (ya _ Zs) ?_
 refine yY ?_
 refine yq rfl (YL (v:=.bool true) rfl) ?_
 refine Yd ?_
 refine wp_ret ?_
 simp only [Exit.then]
 exact Jd rfl (by simp only [yJ];exact hdf) (ya _ Zs) ⟨rfl,Below.refl _ _⟩
theorem fn_walk (text:ByteArray) (hP:text.size≤40000→Plainly text) (w:World) (tb:Addr) (c:Nat) (hl:yaH w tb c):Calls Tryz.prog 3 #[.string text] w fun e w'=>e=.returned (.bool true)∧Below w.heap.size w w':=by
 go_enter Tryz.func3,Tryz.ntmps3
 generalize ha0:(Act.mk _ _)=a0
 have hsz:a0.tmps.size=8:=by rw [← ha0];rfl
 have hdf:a0.defers=[]:=by rw [← ha0]
 have e0:a0.eval (.tmp 0)=.string text:=by rw [← ha0];rfl
 clear ha0
 refine yY ?_
 refine yq rfl (YL (v:=.bool false) rfl) ?_
 refine Yd ?_
 refine wp_seq ?_
 refine yY ?_
 refine yq rfl (yV (v:=.string text) ((yb _ Zd).trans e0)) ?_
 refine yq rfl (Qu (s:=text) (ya _ Zs)) ?_
 refine yq rfl (ycP (i:=text.size) (n:=2147483647) (ya _ Zs) rfl) ?_
 refine Yd ?_
 by_cases hb:2147483647<text.size
 · refine wp_cond_true (?_:_=Value.bool true) ?_
   · rw [ya _ Zs,decide_eq_true Zo]
   refine yY ?_
   refine yq rfl (YL (v:=.bool true) rfl) ?_
   refine Yd ?_
   refine wp_ret ?_
   simp only [Exit.then]
   exact Jd rfl (by simp only [yJ];exact hdf) (ya _ Zs) ⟨rfl,Below.refl _ _⟩
 · refine wp_cond_false (?_:_=Value.bool false) ?_
   · rw [ya _ Zs,decide_eq_false Zo]
   refine wp_skip ?_
   simp only [Exit.then]
   refine wp_seq ?_
   refine wp_region_list ?_
   refine Kd.yB rfl (yV (v:=.string text) (by simp (disch:=decide) only [yb,e0])) ?_
   refine YD (some 7) rfl rfl Tryz.func4 Zk rfl #[.string text,.func (.func 5) #[] #[],.func (.func 6) #[] #[],.func (.func 7) #[] #[]] rfl (args4f (ya _ Zs)) ?_
   have hr:Calls Tryz.prog 4 #[.string text,.func (.func 5) #[] #[],.func (.func 6) #[] #[],.func (.func 7) #[] #[]] w fun e w'=>e=.returned (.bool true)∧Below w.heap.size w w':=by
    by_cases h4:text.size≤40000
    · exact read_walk text h4 (hP h4) w tb c hl
    · exact read_big text _ _ _ Zo w
   refine hr.mono ?_
   rintro e w1 ⟨rfl,hB⟩
   refine ⟨_,rfl,?_⟩
   refine Kd.yB rfl (YL (ya _ Zs)) ?_
   refine wpList_nil ?_
   simp only [Exit.then]
   refine wp_ret ?_
   exact Jd rfl (by simp only [yJ];exact hdf) (ya _ Zs) ⟨rfl,hB⟩
end Go.Proofs.YtlmennkeggmdbaaGreatDoor
namespace Go.Proofs.YtlmennkeggmdbaaGreatDoor
open Go.RowKit Go.Proofs.YtlmennkeggmdbaaGreatDoorW.PrintWords Go.Proofs.YtlmennkeggmdbaaGreatDoorW.PrintLast Go.Proofs.YtlmennkeggmdbaaGreatDoorW.PrintMore
theorem ydv (v:Int) (h1 : -9223372036854775808≤v) (h2:v≤9223372036854775807):Ev (fun k=>yO.f k v) (mkB (qE v)):=by
 have hw:∀ i:Int,-9223372036854775808≤i→i≤9223372036854775807→wrap64 i=i:=fun i a b=>by unfold wrap64;omega
 by_cases h:v<0
 · have e:IntKind.u64.wrap (IntKind.u64.wrap (wrap64 (-(wrap64 (v+1))))+1)=(v.natAbs:Int):=by
    rw [hw (v+1) Zo Zo,hw _ Zo Zo,u64_id (i := -(v+1)) Zo Zo,u64_id Zo Zo];omega
   have hs:(decT v.natAbs).size≤20:=yca Zo
   refine Ev.same (text_ev v.natAbs Zo) (F:=fun k t155=>(if 1+t155.size≤9223372036854775807 then (some ((⟨#[45]⟩:ByteArray)++t155)) else (none))) (fun k=>by simp only [yO.f];rw [if_pos h,e]) (.congr (fun k=>if_pos Zo) ?_)
   have:mkB (qE v)=(⟨#[45]⟩:ByteArray)++decT v.natAbs:=by
    apply ByteArray.ext
    apply Array.toList_inj.1
    simp [qE,numT,h,decT]
   rw [this];exact .of _
 · have e:IntKind.u64.wrap v=(v.natAbs:Int):=by rw [u64_id Zo Zo];omega
   have:mkB (qE v)=decT v.natAbs:=by simp [qE,numT,h,decT]
   rw [this]
   exact Ev.same (text_ev v.natAbs Zo) (F:=fun k t=>some t) (fun k=>by simp only [yO.f];rw [if_neg h,e]) (.of _)
theorem sText_len {v:Int} (h1 : -9223372036854775808≤v) (h2:v≤9223372036854775807):(qE v).length≤21:=by
 have:=yca (a:=v.natAbs) Zo
 unfold qE numT
 rw [List.length_append]
 split <;> simp <;> omega
theorem qf (i:Int) : -9223372036854775808≤wrap64 i∧wrap64 i≤9223372036854775807:=by unfold wrap64;omega
theorem tl_app (a b:ByteArray):(a++b).toList=a.toList++b.toList:=by
 rw [ByteArray.toList_eq,ByteArray.toList_eq,ByteArray.toList_eq];simp
theorem Q2 (l:List UInt8):(mkB l).toList=l:=yaD l
def kts (ks:List ByteArray):List UInt8:=ks.flatMap fun k=>32::k.toList
def vts (vs:List Int):List UInt8:=vs.flatMap fun v=>32::qE (wrap64 v)
def ybY (r:S71):List UInt8:=(r.f0.toList++58::kts r.f2)++10::((r.f0.toList++58::vts r.f1)++[10])
structure RowB (r:S71):Prop where
 nm:r.f0.size≤40000
 len:r.f1.length=r.f2.length
 cnt:r.f2.length≤40001
 key:∀ x ∈ r.f2,x.size≤40000
theorem rd_row {xs:List S71} {i:Nat} {r:S71} (h:xs[i]?=some r):yj xs (i:Int)=r:=by simp [yj,List.getD_eq_getElem?_getD,h]
theorem J1 {xs:List ByteArray} {i:Nat} {r:ByteArray} (h:xs[i]?=some r):yU ByteArray.empty xs (i:Int)=r:=by simp [yU,List.getD_eq_getElem?_getD,h]
theorem rd_at {xs:List Int} {i:Nat} {r:Int} (h:xs[i]?=some r):rd xs (i:Int)=r:=by simp [rd,List.getD_eq_getElem?_getD,h]
theorem print1_ev {rows:List S71} {r:S71} {i:Nat} (hb:RowB r) (x3:ByteArray) (hx3:x3.size≤1000000000000000000) (hi:i<1000000)
 (IH:∀ y:ByteArray,y.size≤x3.size+4000000000→∃ t,Ev (fun k=>yA.l0 k y rows (rows.length:Int) ((i+1:Nat):Int)) t∧t.toList=y.toList++(rows.drop (i+1)).flatMap ybY) :
 ∀ (m j:Nat),j+m=r.f2.length→∀ x6 x7:ByteArray,x6.size≤40001+j * 40001→x7.size≤40001+j * 22 →
  ∃ t,Ev (fun k=>yA.l1 k x3 x6 x7 rows (rows.length:Int) (i:Int) r.f2 (r.f2.length:Int) (j:Int) r.f0 r.f1 r.f2) t∧t.toList=x3.toList++((x6.toList++kts (r.f2.drop j))++10::((x7.toList++vts (r.f1.drop j))++[10]))++(rows.drop (i+1)).flatMap ybY:=by
 intro m
 have hcnt:=hb.cnt
 have hlen:=hb.len
 induction m with
 | zero=>
  intro j hj x6 x7 h6 h7
  obtain ⟨t,ht,htl⟩:=IH (x3++(((x6++(⟨#[10]⟩:ByteArray))++x7)++(⟨#[10]⟩:ByteArray))) (by simp only [ByteArray.size_append,show (⟨#[10]⟩:ByteArray).size=1 from rfl];omega)
  refine ⟨t,.succ (fun k=>?_) ht,?_⟩
  · simp only [yA.l1]
    rw [if_neg Zo,if_pos Zo,if_pos Zo,if_pos Zo,if_pos Zo,Yi Zo]
  · have h10:(⟨#[10]⟩:ByteArray).toList=[10]:=Q2 [10]
    have hd2:r.f2.drop j=[]:=List.drop_eq_nil_of_le Zo
    have hd1:r.f1.drop j=[]:=List.drop_eq_nil_of_le Zo
    rw [htl,hd1,hd2]
    simp [tl_app,h10,kts,vts]
 | succ m ih=>
  intro j hj x6 x7 h6 h7
  obtain ⟨ky,hky⟩:∃ ky,r.f2[j]?=some ky:=⟨_,List.getElem?_eq_getElem Zo⟩
  obtain ⟨v,hv⟩:∃ v,r.f1[j]?=some v:=⟨_,List.getElem?_eq_getElem Zo⟩
  have hks:=hb.key ky (List.mem_of_getElem? hky)
  have hvl:=sText_len (qf v).1 (qf v).2
  have h32:(⟨#[32]⟩:ByteArray).size=1:=rfl
  obtain ⟨t,ht,htl⟩:=ih (j+1) Zo (x6++((⟨#[32]⟩:ByteArray)++ky)) (x7++((⟨#[32]⟩:ByteArray)++mkB (qE (wrap64 v)))) (by simp only [ByteArray.size_append,h32];omega) (by simp only [ByteArray.size_append,h32,size_mk];omega)
  refine ⟨t,Ev.step (ydv (wrap64 v) (qf v).1 (qf v).2) (F:=fun k t161=>(if 1+t161.size≤9223372036854775807 then (if x7.size+1+t161.size≤9223372036854775807 then (yA.l1 k x3 (x6++((⟨#[32]⟩:ByteArray)++ky)) (x7++((⟨#[32]⟩:ByteArray)++t161)) rows (rows.length:Int) (i:Int) r.f2 (r.f2.length:Int) ((j+1:Nat):Int) r.f0 r.f1 r.f2) else (none)) else (none))) (fun k=>?_) (.congr (fun k=>?_) ht),?_⟩
  · simp only [yA.l1]
    rw [if_pos Zo,if_pos Zo,if_pos Zo,J1 hky,rd_at hv,if_pos Zo,if_pos Zo,if_pos Zo,Yi Zo]
  · simp only [size_mk]
    rw [if_pos Zo,if_pos Zo]
  · have h32l:(⟨#[32]⟩:ByteArray).toList=[32]:=Q2 [32]
    have hd2:r.f2.drop j=ky::r.f2.drop (j+1):=by rw [List.drop_eq_getElem_cons Zo];congr 1;exact (List.getElem?_eq_some_iff.1 hky).2
    have hd1:r.f1.drop j=v::r.f1.drop (j+1):=by rw [List.drop_eq_getElem_cons Zo];congr 1;exact (List.getElem?_eq_some_iff.1 hv).2
    rw [htl,hd1,hd2]
    simp [tl_app,h32l,Q2,kts,vts]
theorem print_ev (rows:List S71) (hrb:∀ r ∈ rows,RowB r) (hrl:rows.length≤40001):∀ (m i:Nat),i+m=rows.length→∀ x3:ByteArray,x3.size≤i * 4000000000 →
 ∃ t,Ev (fun k=>yA.l0 k x3 rows (rows.length:Int) (i:Int)) t∧t.toList=x3.toList++(rows.drop i).flatMap ybY:=by
 intro m
 induction m with
 | zero=>
  intro i hi x3 hx
  refine ⟨x3,.succ (h:=fun _=>some x3) (fun k=>?_) (.of _),?_⟩
  · simp only [yA.l0]
    rw [if_neg Zo]
  · rw [List.drop_eq_nil_of_le Zo];simp
 | succ m ih=>
  intro i hi x3 hx
  obtain ⟨r,hr⟩:∃ r,rows[i]?=some r:=⟨_,List.getElem?_eq_getElem Zo⟩
  have hb:=hrb r (List.mem_of_getElem? hr)
  have h58:(⟨#[58]⟩:ByteArray).size=1:=rfl
  have hnm:=hb.nm
  obtain ⟨t,ht,htl⟩:=print1_ev (rows:=rows) (i:=i) hb x3 Zo Zo (fun y hy=>ih (i+1) Zo y Zo) r.f2.length 0 Zo (r.f0++(⟨#[58]⟩:ByteArray)) (r.f0++(⟨#[58]⟩:ByteArray)) (by simp only [ByteArray.size_append,h58];omega) (by simp only [ByteArray.size_append,h58];omega)
  refine ⟨t,.succ (fun k=>?_) ht,?_⟩
  · simp only [yA.l0]
    rw [if_pos Zo,if_pos Zo,if_pos Zo,rd_row hr,if_pos Zo]
    rfl
  · have h58l:(⟨#[58]⟩:ByteArray).toList=[58]:=Q2 [58]
    have hd:rows.drop i=r::rows.drop (i+1):=by rw [List.drop_eq_getElem_cons Zo];congr 1;exact (List.getElem?_eq_some_iff.1 hr).2
    rw [htl,hd]
    simp [tl_app,h58l,ybY]
theorem print_f (rows:List S71) (hrb:∀ r ∈ rows,RowB r) (hrl:rows.length≤40001):∃ t,Ev (fun k=>yA.f k rows) t∧t.toList=rows.flatMap ybY:=by
 obtain ⟨t,ht,htl⟩:=print_ev rows hrb hrl rows.length 0 Zo ⟨#[]⟩ Zd
 exact ⟨t,.congr (fun k=>rfl) ht,by rw [htl,List.drop_zero];simp [show (⟨#[]⟩:ByteArray).toList=[] from Q2 []]⟩
end Go.Proofs.YtlmennkeggmdbaaGreatDoor
