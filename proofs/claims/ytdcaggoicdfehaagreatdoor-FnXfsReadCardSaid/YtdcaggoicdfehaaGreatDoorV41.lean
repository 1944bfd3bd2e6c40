/- Part 41 of 44 of the proof of the tied card of FnXfsRead. -/
import Derived.Test.YtdcaggoicdfehaaGreatDoorVz
import Derived.Test.YtdcaggoicdfehaaGreatDoorV31
import Derived.Test.YtdcaggoicdfehaaGreatDoorV32
import Derived.Test.YtdcaggoicdfehaaGreatDoorV33
import Derived.Test.YtdcaggoicdfehaaGreatDoorV36
import Derived.Test.YtdcaggoicdfehaaGreatDoorV37
import Derived.Test.YtdcaggoicdfehaaGreatDoorV40
import Derived.Test.YtdcaggoicdfehaaGreatDoorV19
set_option linter.unusedVariables false
set_option linter.unusedSimpArgs false
namespace Go.Proofs.YtdcaggoicdfehaaGreatDoor
open Go.RowKit Go.Proofs.YtdcaggoicdfehaaGreatDoorW.PrintWords Go.Proofs.YtdcaggoicdfehaaGreatDoorW.PrintLast Go.Proofs.YtdcaggoicdfehaaGreatDoorW.PrintMore
theorem ext3_0 (u v x:Value) (w:World):(Instr.extract (.tuple #[u,v,x]) 0).run Tryz.prog w=.ok u w:=by kernel_rfl
theorem ext3_1 (u v x:Value) (w:World):(Instr.extract (.tuple #[u,v,x]) 1).run Tryz.prog w=.ok v w:=by kernel_rfl
theorem ext3_2 (u v x:Value) (w:World):(Instr.extract (.tuple #[u,v,x]) 2).run Tryz.prog w=.ok x w:=by kernel_rfl
theorem args5 {a:Act} {i j k f:Nat} {u v x c:Value} (h1:a.eval (.tmp i)=u) (h2:a.eval (.tmp j)=v) (h3:a.eval (.tmp k)=x):#[Operand.tmp i,.tmp j,.tmp k,.func f,.const c].map a.eval=#[u,v,x,.func (.func f) #[] #[],c]:=by
 have h4:a.eval (.func f)=.func (.func f) #[] #[]:=rfl
 have h5:a.eval (.const c)=c:=rfl
 simp [h1,h2,h3,h4,h5]
theorem args4f {a:Act} {i f g h:Nat} {u:Value} (h1:a.eval (.tmp i)=u):#[Operand.tmp i,.func f,.func g,.func h].map a.eval=#[u,.func (.func f) #[] #[],.func (.func g) #[] #[],.func (.func h) #[] #[]]:=by
 have h2:∀ f:Nat,a.eval (.func f)=.func (.func f) #[] #[]:=fun _=>rfl
 simp [h1,h2]
theorem ybT (g:Bool) (lv:Value):∃ l1,ycf g lv=.tuple #[l1,.bool g,.int .i64 (if g then 1 else 2)]∧(g=true→l1=lv):=by
 cases g with
 | false=>exact ⟨_,rfl,fun h=>by cases h⟩
 | true=>exact ⟨_,rfl,fun _=>rfl⟩
set_option maxRecDepth 100000 in
theorem xfsRead_walk (text s:ByteArray) (ls:List ByteArray) (rows:List S56) (ok b:Bool) (told:Int) (w:World) (hL:∃ k,Yt.f k text=some ls) (hT:∃ k,yM.f k ls ⟨#[]⟩=some (rows,ok)) (hp:∃ k,yW.f k text=some b) (hx:∃ k,yN.f k rows=some (s,told)) :
 Calls Tryz.prog 5 #[.string text] w fun e w'=>Below w.heap.size w w'∧∃ lv,e=.returned (ycf (ok && b && (told == 1) && (s.toList == text.toList)) lv)∧Kd.V k56 56 w' w'.heap.size (fun _=>True) lv rows:=by
 obtain ⟨kl,hL⟩:=hL
 obtain ⟨kt,hT⟩:=hT
 go_enter Tryz.func5,Tryz.ntmps5
 generalize ha0:(Act.mk _ _)=a0
 have hsz:a0.tmps.size=20:=by rw [← ha0];rfl
 have hdf:a0.defers=[]:=by rw [← ha0]
 have e0:a0.eval (.tmp 0)=.string text:=by rw [← ha0];rfl
 clear ha0
 refine yB ?_
 refine yf rfl (yX (v:=.slice none 0 0) rfl) ?_
 refine yf rfl (yX (v:=.bool false) rfl) ?_
 refine yf rfl (yX (v:=.int .i64 0) rfl) ?_
 refine yG ?_
 refine wp_seq ?_
 refine wp_region_list ?_
 refine Kd.yh rfl (yJ (v:=.string text) (by simp (disch:=decide) only [yb,e0])) ?_
 refine Yp (some 9) rfl rfl Tryz.func12 Zk rfl #[.string text] rfl (JX (ya _ Zs)) ?_
 refine (Yt.calls kl text ls w hL).mono ?_
 rintro e w1 ⟨v1,rfl,hR1,hB1⟩
 obtain ⟨A1,c1,rfl⟩:=Kd.Y7 hR1
 have hr1:=Kd.Jt hR1
 refine ⟨_,rfl,?_⟩
 refine Yp (some 10) rfl rfl Tryz.func11 Zk rfl #[.slice A1 ls.length c1,.string ⟨#[]⟩] rfl (args_tc (ya _ Zs)) ?_
 refine (yM.calls kt A1 c1 ls ⟨#[]⟩ rows ok w1 hr1.2.2 hr1.2.1 hT).mono ?_
 rintro e w2 ⟨v2,rfl,hS2,hB2⟩
 have hV2:Kd.V k56 56 w2 w2.heap.size (fun _=>True) v2 rows:=Kd.S_V hS2
 obtain ⟨A2,c2,rfl⟩:=Kd.Y7 (Kd.S_R hS2)
 have hr2:=Kd.Jw hV2
 have hB2w:=yy hB1 hB2
 refine ⟨_,rfl,?_⟩
 refine Kd.yh rfl (yJ (v:=.tuple #[.slice A2 rows.length c2,.bool ok]) (ya _ Zs)) ?_
 refine Kd.yh rfl (YI (u:=.tuple #[.slice A2 rows.length c2,.bool ok]) (v:=.slice A2 rows.length c2) (ya _ Zs) (qh _ _ _)) ?_
 refine Kd.yh rfl (YI (u:=.tuple #[.slice A2 rows.length c2,.bool ok]) (v:=.bool ok) ((yb _ Zd).trans (ya _ Zs)) (qi _ _ _)) ?_
 refine Kd.yh rfl (yX (v:=.slice A2 rows.length c2) (by simp (disch:=exact Zq hsz) only [ya,yb])) ?_
 refine Kd.yh rfl (yX (v:=.bool ok) (by simp (disch:=exact Zq hsz) only [ya,yb])) ?_
 refine wpList_nil ?_
 simp only [Exit.then]
 generalize hq:(Act.put _ (some 6) _)=a1
 have s1:a1.tmps.size=20:=by rw [← hq];simp only [size_put];exact hsz
 have d1:a1.defers=[]:=by rw [← hq];simp only [yq];exact hdf
 have f0:a1.eval (.tmp 0)=.string text:=by rw [← hq];simp (disch:=decide) only [yb,e0]
 have f5:a1.eval (.tmp 5)=.slice A2 rows.length c2:=by rw [← hq,yb _ Zd,ya _ Zs]
 have f6:a1.eval (.tmp 6)=.bool ok:=by rw [← hq,ya _ Zs]
 clear hq
 refine wp_seq ?_
 refine wp_region_list ?_
 refine Kd.yh rfl (yJ f0) ?_
 refine Kd.yh rfl (yJ ((yb _ Zd).trans f5)) ?_
 refine Kd.yh rfl (yJ ((yb _ Zd).trans ((yb _ Zd).trans f6))) ?_
 refine Yp (some 16) rfl rfl Tryz.func13 Zk rfl #[.string text,.slice A2 rows.length c2,.bool ok,.func (.func 14) #[] #[],.bool false] rfl (args5 (by simp (disch:=exact Zq s1) only [ya,yb]) (by simp (disch:=exact Zq s1) only [ya,yb]) (ya _ Zs)) ?_
 refine (meant_walk text s rows A2 c2 ok b told w2 hr2.2.2 hr2.2.1 hp hx).mono ?_
 rintro e w3 ⟨hB3,rfl⟩
 obtain ⟨l1,ht,hl1⟩:=ybT (ok && b && (told == 1) && (s.toList == text.toList)) (.slice A2 rows.length c2)
 refine ⟨_,rfl,?_⟩
 rw [ht]
 generalize hg:(ok && b && (told == 1) && (s.toList == text.toList))=g at ht hl1 ⊢
 refine Kd.yh rfl (YI (u:=.tuple #[l1,.bool g,.int .i64 (if g then 1 else 2)]) (v:=l1) (ya _ Zs) (ext3_0 _ _ _ _)) ?_
 refine Kd.yh rfl (YI (u:=.tuple #[l1,.bool g,.int .i64 (if g then 1 else 2)]) (v:=.bool g) ((yb _ Zd).trans (ya _ Zs)) (ext3_1 _ _ _ _)) ?_
 refine Kd.yh rfl (YI (u:=.tuple #[l1,.bool g,.int .i64 (if g then 1 else 2)]) (v:=.int .i64 (if g then 1 else 2)) ((yb _ Zd).trans ((yb _ Zd).trans (ya _ Zs))) (ext3_2 _ _ _ _)) ?_
 refine Kd.yh rfl (yX (v:=l1) (by simp (disch:=exact Zq s1) only [ya,yb])) ?_
 refine Kd.yh rfl (yX (v:=.bool g) (by simp (disch:=exact Zq s1) only [ya,yb])) ?_
 refine Kd.yh rfl (yX (v:=.int .i64 (if g then 1 else 2)) (by simp (disch:=exact Zq s1) only [ya,yb])) ?_
 refine wpList_nil ?_
 simp only [Exit.then]
 refine wp_ret ?_
 refine bodyPost_ret (J0 (fn:=Tryz.f5) (rs:=[.tmp 2,.tmp 3,.tmp 4]) (vs:=[_,_,_]) rfl (by simp) (.tmp (.tmp (.tmp .nil)))) (by simp only [yq];exact d1) ⟨yy hB2w hB3,.slice A2 rows.length c2,?_,Kd.YO hV2 hB3⟩
 have p1:∀ b:Act,b.tmps.getD 2 undef=b.eval (.tmp 2):=fun _=>rfl
 have p2:∀ b:Act,b.tmps.getD 3 undef=b.eval (.tmp 3):=fun _=>rfl
 have p3:∀ b:Act,b.tmps.getD 4 undef=b.eval (.tmp 4):=fun _=>rfl
 rw [p1,p2,p3,ht]
 simp (disch:=exact Zq s1) only [ya,yb]
end Go.Proofs.YtdcaggoicdfehaaGreatDoor
namespace Go.Proofs.YtdcaggoicdfehaaGreatDoor
open Go.RowKit Go.Proofs.YtdcaggoicdfehaaGreatDoorW.PrintWords Go.Proofs.YtdcaggoicdfehaaGreatDoorW.PrintLast Go.Proofs.YtdcaggoicdfehaaGreatDoorW.PrintMore
theorem run_alloc38 (w:World):(Instr.alloc 38 true (.tuple #[])).run Tryz.prog w=.ok (.pointer (some ⟨w.heap.size,0,none⟩)) (w.alloc (.cells #[.string ⟨#[]⟩,.int .i64 0,.bool false,.int .i64 0,.int .u64 0,.float .f64 0,.string ⟨#[]⟩,.slice none 0 0] 38)):=by kernel_rfl
theorem set8 (v0 v1 v2 v3 v4 v5 v6 v7 x0 x1 x2 x3 x4 x5 x6 x7:Value):yT #[v0,v1,v2,v3,v4,v5,v6,v7] 0 [x0,x1,x2,x3,x4,x5,x6,x7]=#[x0,x1,x2,x3,x4,x5,x6,x7]:=by kernel_rfl
theorem run_st38 {w:World} {g:Nat} {v0 v1 v2 v3 v4 v5 v6 v7:Value} {s1 s2:ByteArray} {k i u:Int} {b:Bool} {f:Nat} {A:Option Addr} {n c:Nat} (h:w.heap[g]?=some (.cells #[v0,v1,v2,v3,v4,v5,v6,v7] 38 (0,0))) :
 ∃ w1,(Instr.storeAt 38 (.pointer (some ⟨g,0,none⟩)) (.agg #[.string s1,.int .i64 k,.bool b,.int .i64 i,.int .u64 u,.float .f64 f,.string s2,.slice A n c])).run Tryz.prog w=.ok () w1 ∧
  w1.heap[g]?=some (.cells #[.string s1,.int .i64 k,.bool b,.int .i64 i,.int .u64 u,.float .f64 f,.string s2,.slice A n c] 38 (0,0))∧(∀ j,j≠g→w1.heap[j]?=w.heap[j]?)∧(∀ B w0,B≤g→Below B w0 w→Below B w0 w1):=by
 have hi:(Tryz.prog.info? 38).map (·.size)=some (#[Value.string s1,.int .i64 k,.bool b,.int .i64 i,.int .u64 u,.float .f64 f,.string s2,.slice A n c]).size:=by kernel_rfl
 have hone:(#[Value.string s1,.int .i64 k,.bool b,.int .i64 i,.int .u64 u,.float .f64 f,.string s2,.slice A n c]).all (·.oneCell')=true:=by kernel_rfl
 have hrun:=run_storeAt_mid w g 0 38 #[Value.string s1,.int .i64 k,.bool b,.int .i64 i,.int .u64 u,.float .f64 f,.string s2,.slice A n c] (ycl h (show 0+8≤8 by decide)) hi hone
 refine ⟨_,hrun,?_,fun j hj=>yaa hj _ _ _,fun B w0 hB hb=>qD hB _ _ _ hb⟩
 have hb:=QD [Value.string s1,.int .i64 k,.bool b,.int .i64 i,.int .u64 u,.float .f64 f,.string s2,.slice A n c] 0 _ _ h
 rw [set8] at hb
 exact hb
end Go.Proofs.YtdcaggoicdfehaaGreatDoor
namespace Go.Proofs.YtdcaggoicdfehaaGreatDoor
open Go.RowKit Go.Proofs.YtdcaggoicdfehaaGreatDoorW.PrintWords Go.Proofs.YtdcaggoicdfehaaGreatDoorW.PrintLast Go.Proofs.YtdcaggoicdfehaaGreatDoorW.PrintMore
structure Plainly (text:ByteArray):Prop where
 facts:∃ ls rows ok b told s,(∃ k,Yt.f k text=some ls)∧(∃ k,yM.f k ls ⟨#[]⟩=some (rows,ok))∧(∃ k,yW.f k text=some b)∧(∃ k,yN.f k rows=some (s,told)) ∧
  ((ok && b && (told == 1) && (s.toList == text.toList))=true→∃ R:List (List UInt8 × Nat × (Nat→Nat)),(∀ r ∈ R,RowOk r.1 r.2.1 r.2.2)∧text=⟨(Y5 R).toArray⟩∧(∀ i j,IntKind.u64.wrap (YZ (fun _ _=>0) R i j)=YZ (fun _ _=>0) R i j) ∧
   ∃ r1 r2 r3 r4 r5 r6 r7 r8,(∃ k,yY.f k rows=some (r1,r2,r3,r4,r5,r6,r7,r8,1))∧∃ k,yR.f k ⟨#[]⟩ 8 false 0 0 0 ⟨#[]⟩ (JB ⟨#[]⟩ (YZ (fun _ _=>0) R))=some (r1,r2,r3,r4,r5,r6,r7,r8))
theorem V_other {e base gg:Nat} {w w1:World} {v:Value} {xs:List S56} (h:Kd.V k56 e w base (fun k=>k≠gg) v xs) (ho:∀ j,j≠gg→w1.heap[j]?=w.heap[j]?):Kd.V k56 e w1 base (fun k=>k≠gg) v xs:=Kd.ya6 h (fun _ hf=>Kd.F_step hf (fun k hk _=>ho k hk))
structure RF (gg gn:Nat) (a:Act):Prop where
 size:a.tmps.size=62
 defers:a.defers=[]
 e11:a.eval (.tmp 11)=.int .i64 1
 e12:a.eval (.tmp 12)=.pointer (some ⟨gg,0,none⟩)
 e13:a.eval (.tmp 13)=.int .i64 0
 e14:a.eval (.tmp 14)=.pointer (some ⟨gn,0,none⟩)
theorem RF.put {gg gn:Nat} {a:Act} (h:RF gg gn a) {d:Nat} (v:Value) (h1:d≠11) (h2:d≠12) (h3:d≠13) (h4:d≠14):RF gg gn (a.put (some d) v):=
 ⟨by rw [size_put];exact h.size,by rw [yq];exact h.defers,(yb _ (Ne.symm h1)).trans h.e11,(yb _ (Ne.symm h2)).trans h.e12,(yb _ (Ne.symm h3)).trans h.e13,(yb _ (Ne.symm h4)).trans h.e14⟩
set_option maxRecDepth 100000 in
set_option maxHeartbeats 4000000 in
theorem read_walk (text:ByteArray) (hlen:text.size≤40000) (hP:Plainly text) (w:World) (tb:Addr) (c:Nat) (hl:ybL w tb c) :
 Calls Tryz.prog 4 #[.string text,(.func (.func 5) #[] #[]),(.func (.func 6) #[] #[]),(.func (.func 7) #[] #[])] w fun e w'=>e=.returned (.bool true)∧Below w.heap.size w w':=by
 obtain ⟨ls,rows,ok,b,told,s,hL,hT,hp,hx,hgood⟩:=hP.facts
 go_enter Tryz.func4,Tryz.ntmps4
 generalize ha0:(Act.mk _ _)=a0
 have hsz:a0.tmps.size=62:=by rw [← ha0];rfl
 have hdf:a0.defers=[]:=by rw [← ha0]
 have e0:a0.eval (.tmp 0)=.string text:=by rw [← ha0];rfl
 have e1:a0.eval (.tmp 1)=(.func (.func 5) #[] #[]):=by rw [← ha0];rfl
 have e2:a0.eval (.tmp 2)=(.func (.func 6) #[] #[]):=by rw [← ha0];rfl
 have e3:a0.eval (.tmp 3)=(.func (.func 7) #[] #[]):=by rw [← ha0];rfl
 clear ha0
 refine yB ?_
 refine yf rfl (yX (v:=.bool false) rfl) ?_
 refine yG ?_
 refine wp_seq ?_
 refine yB ?_
 refine yf rfl (yJ (v:=.string text) ((yb _ Zd).trans e0)) ?_
 refine yf rfl (Qh (s:=text) (ya _ Zs)) ?_
 refine yf rfl (yb5 (i:=text.size) (n:=40000) (ya _ Zs) rfl) ?_
 rw [decide_eq_false Zo]
 refine yG ?_
 refine wp_cond_false (ya _ Zs) ?_
 refine wp_skip ?_
 simp only [Exit.then]
 generalize hq:(Act.put _ (some 17) _)=a1
 have s1:a1.tmps.size=62:=by rw [← hq];simp only [size_put];exact hsz
 have d1:a1.defers=[]:=by rw [← hq];simp only [yq];exact hdf
 have f0:a1.eval (.tmp 0)=.string text:=by rw [← hq];simp (disch:=decide) only [yb,e0]
 have f1:a1.eval (.tmp 1)=(.func (.func 5) #[] #[]):=by rw [← hq];simp (disch:=decide) only [yb,e1]
 have f2:a1.eval (.tmp 2)=(.func (.func 6) #[] #[]):=by rw [← hq];simp (disch:=decide) only [yb,e2]
 have f3:a1.eval (.tmp 3)=(.func (.func 7) #[] #[]):=by rw [← hq];simp (disch:=decide) only [yb,e3]
 clear hq
 refine wp_seq ?_
 refine wp_region_list ?_
 refine Kd.yh rfl (yJ f1) ?_
 refine Kd.yh rfl (yJ ((yb _ Zd).trans f0)) ?_
 refine yaz (some 21) rfl rfl (x:=.tmp 19) (f:=5) (cap:=#[]) (by simp (disch:=exact Zq s1) only [ya,yb]) Tryz.func5 Zk rfl #[.string text] #[.string text] rfl (JX (ya _ Zs)) rfl ?_
 refine (xfsRead_walk text s ls rows ok b told w hL hT hp hx).mono ?_
 rintro e w1 ⟨hB1,lv,rfl,hV1⟩
 obtain ⟨l1,ht,hl1⟩:=ybT (ok && b && (told == 1) && (s.toList == text.toList)) lv
 refine ⟨_,rfl,?_⟩
 rw [ht]
 generalize hg:(ok && b && (told == 1) && (s.toList == text.toList))=g at ht hl1 hgood ⊢
 refine Kd.yh rfl (yJ (v:=.tuple #[l1,.bool g,.int .i64 (if g then 1 else 2)]) (ya _ Zs)) ?_
 refine Kd.yh rfl (YI (u:=.tuple #[l1,.bool g,.int .i64 (if g then 1 else 2)]) (v:=l1) (ya _ Zs) (ext3_0 _ _ _ _)) ?_
 refine Kd.yh rfl (YI (u:=.tuple #[l1,.bool g,.int .i64 (if g then 1 else 2)]) (v:=.bool g) ((yb _ Zd).trans (ya _ Zs)) (ext3_1 _ _ _ _)) ?_
 refine Kd.yh rfl (YI (u:=.tuple #[l1,.bool g,.int .i64 (if g then 1 else 2)]) (v:=.int .i64 (if g then 1 else 2)) ((yb _ Zd).trans ((yb _ Zd).trans (ya _ Zs))) (ext3_2 _ _ _ _)) ?_
 refine Kd.yh rfl (yX (v:=l1) (by simp (disch:=exact Zq s1) only [ya,yb])) ?_
 refine Kd.yh rfl (yX (v:=.bool g) (by simp (disch:=exact Zq s1) only [ya,yb])) ?_
 refine Kd.yh rfl (yX (v:=.int .i64 (if g then 1 else 2)) (by simp (disch:=exact Zq s1) only [ya,yb])) ?_
 refine wpList_nil ?_
 simp only [Exit.then]
 generalize hq:(Act.put _ (some 11) _)=a2
 have s2:a2.tmps.size=62:=by rw [← hq];simp only [size_put];exact s1
 have d2:a2.defers=[]:=by rw [← hq];simp only [yq];exact d1
 have g0:a2.eval (.tmp 0)=.string text:=by rw [← hq];simp (disch:=decide) only [yb,f0]
 have g1:a2.eval (.tmp 1)=(.func (.func 5) #[] #[]):=by rw [← hq];simp (disch:=decide) only [yb,f1]
 have g2:a2.eval (.tmp 2)=(.func (.func 6) #[] #[]):=by rw [← hq];simp (disch:=decide) only [yb,f2]
 have g3:a2.eval (.tmp 3)=(.func (.func 7) #[] #[]):=by rw [← hq];simp (disch:=decide) only [yb,f3]
 have g9:a2.eval (.tmp 9)=l1:=by rw [← hq];simp (disch:=exact Zq s1) only [ya,yb]
 have g10:a2.eval (.tmp 10)=.bool g:=by rw [← hq];simp (disch:=exact Zq s1) only [ya,yb]
 have g11:a2.eval (.tmp 11)=.int .i64 (if g then 1 else 2):=by rw [← hq];simp (disch:=exact Zq s1) only [ya,yb]
 clear hq
 cases g with
 | false=>
  refine wp_seq ?_
  refine yB ?_
  refine yf rfl (yJ (v:=.int .i64 2) g11) ?_
  refine yf rfl ((ya1 (i:=2) (n:=1) (ya _ Zo) rfl).trans (show _=Result.ok (Next.value (.bool true)) _ from rfl)) ?_
  refine yG ?_
  refine wp_cond_true (ya _ Zs) ?_
  refine wp_seq ?_
  refine wp_region_list ?_
  refine Yp (some 27) rfl rfl Tryz.func8 Zk rfl #[] rfl (by simp) ?_
  refine (yde w1 tb c (hl.step hB1)).mono ?_
  rintro e w2 ⟨rfl,hB2⟩
  refine ⟨_,rfl,?_⟩
  refine Kd.yh rfl (yX (v:=.bool true) (ya _ Zs)) ?_
  refine wpList_nil ?_
  simp only [Exit.then]
  refine wp_ret ?_
  simp only [Exit.then]
  exact Y8 rfl (by simp only [yq];exact d2) (ya _ Zs) ⟨rfl,yy hB1 hB2⟩
 | true=>
  obtain ⟨R,hR,rfl,h64,r1,r2,r3,r4,r5,r6,r7,r8,⟨kt,htree⟩,⟨kn,hnode⟩⟩:=hgood rfl
  obtain rfl:=hl1 rfl
  clear hl1
  refine wp_seq ?_
  refine yB ?_
  refine yf rfl (yJ (v:=.int .i64 1) g11) ?_
  refine yf rfl ((ya1 (i:=1) (n:=1) (ya _ Zo) rfl).trans (show _=Result.ok (Next.value (.bool false)) _ from rfl)) ?_
  refine yG ?_
  refine wp_cond_false (ya _ Zs) ?_
  refine wp_skip ?_
  simp only [Exit.then]
  generalize hq:(Act.put _ (some 26) _)=a3
  have s3:a3.tmps.size=62:=by rw [← hq];simp only [size_put];exact s2
  have d3:a3.defers=[]:=by rw [← hq];simp only [yq];exact d2
  have h0:a3.eval (.tmp 0)=.string ⟨(Y5 R).toArray⟩:=by rw [← hq];simp (disch:=decide) only [yb,g0]
  have h2:a3.eval (.tmp 2)=.func (.func 6) #[] #[]:=by rw [← hq];simp (disch:=decide) only [yb,g2]
  have h3:a3.eval (.tmp 3)=.func (.func 7) #[] #[]:=by rw [← hq];simp (disch:=decide) only [yb,g3]
  have h9:a3.eval (.tmp 9)=l1:=by rw [← hq];simp (disch:=decide) only [yb,g9]
  have h10:a3.eval (.tmp 10)=.bool true:=by rw [← hq];simp (disch:=decide) only [yb,g10]
  clear hq
  refine wp_seq ?_
  refine wp_region_list ?_
  refine Kd.yh rfl (yJ h3) ?_
  refine Kd.yh rfl (yJ ((yb _ Zd).trans h0)) ?_
  refine yaz (some 31) rfl rfl (x:=.tmp 29) (f:=7) (cap:=#[]) (by simp (disch:=exact Zq s3) only [ya,yb]) Tryz.func7 Zk rfl #[.string ⟨(Y5 R).toArray⟩] #[.string ⟨(Y5 R).toArray⟩] rfl (JX (ya _ Zs)) rfl ?_
  refine (xfs_walk R hR w1 (hl.step hB1).tab h64).mono ?_
  rintro e w2 ⟨vg,rfl,hRg,hB2⟩
  obtain ⟨kids,hkids⟩:∃ kids,kids=(JB ⟨#[]⟩ (YZ (fun _ _=>0) R)):=⟨_,rfl⟩
  rw [← hkids] at hnode hRg
  clear hkids
  have hB2w:=yy hB1 hB2
  have hV2:=Kd.YO hV1 hB2
  refine ⟨_,rfl,?_⟩
  refine Kd.yh rfl (yJ (v:=.tuple #[.agg (yK ⟨#[]⟩ vg),.int .i64 0]) (ya _ Zs)) ?_
  refine Kd.yh rfl (YI (u:=.tuple #[.agg (yK ⟨#[]⟩ vg),.int .i64 0]) (v:=.agg (yK ⟨#[]⟩ vg)) (ya _ Zs) (qh _ _ _)) ?_
  refine Kd.yh rfl (YI (u:=.tuple #[.agg (yK ⟨#[]⟩ vg),.int .i64 0]) (v:=.int .i64 0) ((yb _ Zd).trans (ya _ Zs)) (qi _ _ _)) ?_
  refine Kd.yh rfl (Y9 (JC w2)) ?_
  have hgg:=Y2 w2 (.cells #[.string ⟨#[]⟩,.int .i64 0,.bool false,.int .i64 0,.int .u64 0,.float .f64 0,.string ⟨#[]⟩,.slice none 0 0] 34 (0,0))
  have hBg:Below w.heap.size w (w2.alloc (.cells #[.string ⟨#[]⟩,.int .i64 0,.bool false,.int .i64 0,.int .u64 0,.float .f64 0,.string ⟨#[]⟩,.slice none 0 0] 34 (0,0))):=ym hB2w _
  have hVg:=Kd.V_alloc hV2 (.cells #[.string ⟨#[]⟩,.int .i64 0,.bool false,.int .i64 0,.int .u64 0,.float .f64 0,.string ⟨#[]⟩,.slice none 0 0] 34 (0,0))
  have hRg':Kd.R k34 34 (w2.alloc (.cells #[.string ⟨#[]⟩,.int .i64 0,.bool false,.int .i64 0,.int .u64 0,.float .f64 0,.string ⟨#[]⟩,.slice none 0 0] 34 (0,0))) w1.heap.size (fun k=>k≠w2.heap.size) vg kids:=Kd.YM (Kd.qH (Kd.JZ hRg) (w1:=w2.alloc (.cells #[.string ⟨#[]⟩,.int .i64 0,.bool false,.int .i64 0,.int .u64 0,.float .f64 0,.string ⟨#[]⟩,.slice none 0 0] 34 (0,0))) (fun k _ hk=>Below.heap_alloc w2 _ k hk)) (fun k hk=>by have:=hk.2.2.1;omega)
  obtain ⟨Ag,cg,rfl⟩:=Kd.Y7 hRg'
  have hge2:=yt hB2w
  generalize hggv:w2.heap.size=gg at hgg hRg' ⊢
  have hVg1:Kd.V k56 56 (w2.alloc (.cells #[.string ⟨#[]⟩,.int .i64 0,.bool false,.int .i64 0,.int .u64 0,.float .f64 0,.string ⟨#[]⟩,.slice none 0 0] 34 (0,0))) 0 (fun k=>k≠gg) l1 rows:=Kd.Yj (Kd.V_alloc (Kd.V_bound hV2) (.cells #[.string ⟨#[]⟩,.int .i64 0,.bool false,.int .i64 0,.int .u64 0,.float .f64 0,.string ⟨#[]⟩,.slice none 0 0] 34 (0,0))) (fun k hk=>by have:=hk.2;omega)
  generalize (w2.alloc (.cells #[.string ⟨#[]⟩,.int .i64 0,.bool false,.int .i64 0,.int .u64 0,.float .f64 0,.string ⟨#[]⟩,.slice none 0 0] 34 (0,0)))=w3 at hgg hBg hVg hRg' hVg1 ⊢
  obtain ⟨w4,hrun4,hb4,hoth4,hbel4⟩:=qL (s1:=⟨#[]⟩) (k:=8) (b:=false) (i:=0) (u:=0) (f:=0) (s2:=⟨#[]⟩) (A:=Ag) (n:=kids.length) (c:=cg) hgg rfl
  refine Jk rfl rfl (run_store (p:=.pointer (some ⟨gg,0,none⟩)) (v:=.agg (yK ⟨#[]⟩ (.slice Ag kids.length cg))) (ya _ Zs) (by simp (disch:=exact Zq s3) only [ya,yb]) hrun4) ?_
  refine Kd.yh rfl (yX (v:=.int .i64 0) (by simp (disch:=exact Zq s3) only [ya,yb])) ?_
  refine wpList_nil ?_
  simp only [Exit.then]
  have hR4:=Kd.qH (w1:=w4) hRg' (fun j hj _=>hoth4 j hj)
  have hB4:=hbel4 _ _ Zo hBg
  have hV4:=V_other hVg1 (w1:=w4) hoth4
  have hC4:=(Kd.Jt hR4).2
  generalize hq:(Act.put _ (some 13) _)=a4
  have s4:a4.tmps.size=62:=by rw [← hq];simp only [size_put];exact s3
  have d4:a4.defers=[]:=by rw [← hq];simp only [yq];exact d3
  have j2:a4.eval (.tmp 2)=.func (.func 6) #[] #[]:=by rw [← hq];simp (disch:=decide) only [yb,h2]
  have j9:a4.eval (.tmp 9)=l1:=by rw [← hq];simp (disch:=decide) only [yb,h9]
  have j10:a4.eval (.tmp 10)=.bool true:=by rw [← hq];simp (disch:=decide) only [yb,h10]
  have j12:a4.eval (.tmp 12)=.pointer (some ⟨gg,0,none⟩):=by rw [← hq,yb _ Zd,ya _ Zs]
  have j13:a4.eval (.tmp 13)=.int .i64 0:=by rw [← hq,ya _ Zs]
  clear hq hRg' hVg hVg1 hgg hV2 hRg
  refine wp_seq ?_
  refine yB ?_
  refine yf rfl (yJ j10) ?_
  refine yf rfl (run_not_t (ya _ Zo)) ?_
  refine yG ?_
  refine wp_cond_false (ya _ Zs) ?_
  refine wp_skip ?_
  simp only [Exit.then]
  generalize hq:(Act.put _ (some 35) _)=a5
  have s5:a5.tmps.size=62:=by rw [← hq];simp only [size_put];exact s4
  have d5:a5.defers=[]:=by rw [← hq];simp only [yq];exact d4
  have k2:a5.eval (.tmp 2)=.func (.func 6) #[] #[]:=by rw [← hq];simp (disch:=decide) only [yb,j2]
  have k9:a5.eval (.tmp 9)=l1:=by rw [← hq];simp (disch:=decide) only [yb,j9]
  have k12:a5.eval (.tmp 12)=.pointer (some ⟨gg,0,none⟩):=by rw [← hq];simp (disch:=decide) only [yb,j12]
  have k13:a5.eval (.tmp 13)=.int .i64 0:=by rw [← hq];simp (disch:=decide) only [yb,j13]
  clear hq
  obtain ⟨Al,cl,rfl,hll,hFl⟩:=hV4
  have hV4:Kd.V k56 56 w4 w4.heap.size (fun k=>k≠gg) (.slice Al rows.length cl) rows:=⟨Al,cl,rfl,hll,hFl⟩
  refine wp_seq ?_
  refine wp_region_list ?_
  refine Kd.yh rfl (yJ k2) ?_
  refine Kd.yh rfl (yJ ((yb _ Zd).trans k9)) ?_
  refine yaz (some 44) rfl rfl (x:=.tmp 42) (f:=6) (cap:=#[]) (by simp (disch:=exact Zq s5) only [ya,yb]) Tryz.func6 Zk rfl #[.slice Al rows.length cl] #[.slice Al rows.length cl] rfl (JX (ya _ Zs)) rfl ?_
  refine (yY.calls kt _ Al cl rows r1 r2 r3 r4 r5 r6 r7 r8 1 w4 hV4 htree).mono ?_
  rintro e w5 ⟨vn,rfl,hVn,hB5⟩
  have hB5w:=yy hB4 hB5
  have hb5:=yE hb4 hB5
  have hC5:=Kd.YS hC4.2 hB5
  obtain ⟨An,cn,rfl,hln,hFn⟩:=hVn
  have hCn:Kd.C k38 w5 An r8.length r8:=Kd.F_now hFn
  refine ⟨_,rfl,?_⟩
  refine Kd.yh rfl (yJ (v:=.tuple #[.agg #[.string r1,.int .i64 r2,.bool r3,.int .i64 r4,.int .u64 r5,.float .f64 r6,.string r7,.slice An r8.length cn],.int .i64 1]) (ya _ Zs)) ?_
  refine Kd.yh rfl (YI (u:=.tuple #[.agg #[.string r1,.int .i64 r2,.bool r3,.int .i64 r4,.int .u64 r5,.float .f64 r6,.string r7,.slice An r8.length cn],.int .i64 1]) (v:=.agg #[.string r1,.int .i64 r2,.bool r3,.int .i64 r4,.int .u64 r5,.float .f64 r6,.string r7,.slice An r8.length cn]) (ya _ Zs) (qh _ _ _)) ?_
  refine Kd.yh rfl (YI (u:=.tuple #[.agg #[.string r1,.int .i64 r2,.bool r3,.int .i64 r4,.int .u64 r5,.float .f64 r6,.string r7,.slice An r8.length cn],.int .i64 1]) (v:=.int .i64 1) ((yb _ Zd).trans (ya _ Zs)) (qi _ _ _)) ?_
  refine Kd.yh rfl (Y9 (run_alloc38 w5)) ?_
  have hgn:=Y2 w5 (.cells #[.string ⟨#[]⟩,.int .i64 0,.bool false,.int .i64 0,.int .u64 0,.float .f64 0,.string ⟨#[]⟩,.slice none 0 0] 38 (0,0))
  have hBn:Below w.heap.size w (w5.alloc (.cells #[.string ⟨#[]⟩,.int .i64 0,.bool false,.int .i64 0,.int .u64 0,.float .f64 0,.string ⟨#[]⟩,.slice none 0 0] 38 (0,0))):=ym hB5w _
  have hbn:=YA hb5 (.cells #[.string ⟨#[]⟩,.int .i64 0,.bool false,.int .i64 0,.int .u64 0,.float .f64 0,.string ⟨#[]⟩,.slice none 0 0] 38 (0,0))
  have hB55:Below w5.heap.size w5 (w5.alloc (.cells #[.string ⟨#[]⟩,.int .i64 0,.bool false,.int .i64 0,.int .u64 0,.float .f64 0,.string ⟨#[]⟩,.slice none 0 0] 38 (0,0))):=ym (Below.refl _ _) _
  have hge5:=yt hB5w
  have hgg5:=Yy hb5
  generalize (w5.alloc (.cells #[.string ⟨#[]⟩,.int .i64 0,.bool false,.int .i64 0,.int .u64 0,.float .f64 0,.string ⟨#[]⟩,.slice none 0 0] 38 (0,0)))=w6 at hgn hBn hbn hB55 ⊢
  obtain ⟨w7,hrun7,hb7,hoth7,hbel7⟩:=run_st38 (s1:=r1) (k:=r2) (b:=r3) (i:=r4) (u:=r5) (f:=r6) (s2:=r7) (A:=An) (n:=r8.length) (c:=cn) hgn
  refine Jk rfl rfl (run_store (p:=.pointer (some ⟨w5.heap.size,0,none⟩)) (v:=.agg #[.string r1,.int .i64 r2,.bool r3,.int .i64 r4,.int .u64 r5,.float .f64 r6,.string r7,.slice An r8.length cn]) (ya _ Zs) (by simp (disch:=exact Zq s5) only [ya,yb]) hrun7) ?_
  refine Kd.yh rfl (yX (v:=.int .i64 1) (by simp (disch:=exact Zq s5) only [ya,yb])) ?_
  refine wpList_nil ?_
  simp only [Exit.then]
  have hbg7:=(hoth7 gg Zo).trans hbn
  have hB7:=hbel7 _ _ hge5 hBn
  have hB57:=hbel7 _ _ (Nat.le_refl _) hB55
  have hC7:=Kd.YS hC5 hB57
  have hN7:=Kd.YS hCn hB57
  generalize w5.heap.size=gn at hgn hb7 hoth7 hbel7 ⊢
  generalize hq:(Act.put _ (some 11) _)=a6
  have hRF:RF gg gn a6:=⟨by rw [← hq];simp only [size_put];exact s5,by rw [← hq];simp only [yq];exact d5,by rw [← hq,ya _ Zs],by rw [← hq];simp (disch:=decide) only [yb,k12],by rw [← hq];simp (disch:=decide) only [yb,k13],by rw [← hq,yb _ Zd,ya _ Zs]⟩
  clear hq
  refine wp_seq ?_
  let WB:World→Prop:=fun w'=>Below w7.heap.size w7 w'
  let J:Nat→Act→World→Prop:=fun p a' w'=>RF gg gn a'∧WB w'∧(1≤p→∃ cs:List Value,a'.eval (.tmp 54)=.agg cs.toArray∧k38.K w' ⟨r1,r2,r3,r4,r5,r6,r7,r8⟩ cs)∧(2≤p→a'.eval (.tmp 56)=.bool true)∧(3≤p→a'.eval (.tmp 57)=.bool true)∧(4≤p→a'.eval (.tmp 58)=.bool true)∧(5≤p→a'.eval (.tmp 59)=.bool true)∧(6≤p→a'.eval (.tmp 60)=.bool true)∧(7≤p→a'.eval (.tmp 61)=.bool true)∧(8≤p→a'.eval (.tmp 8)=.bool true)
  have hJput:∀ (p d:Nat) (v:Value) (a':Act) (w':World),J p a' w'→d≠8→d≠11→d≠12→d≠13→d≠14→d≠54→d<56→J p (a'.put (some d) v) w':=fun p d v a' w' h n8 n11 n12 n13 n14 n54 n56=>by
   obtain ⟨q1,q2,q3,q4,q5,q6,q7,q8,q9,q10⟩:=h
   refine ⟨q1.put v n11 n12 n13 n14,q2,fun hp=>?_,fun hp=>(yb _ Zo).trans (q4 hp),fun hp=>(yb _ Zo).trans (q5 hp),fun hp=>(yb _ Zo).trans (q6 hp),fun hp=>(yb _ Zo).trans (q7 hp),fun hp=>(yb _ Zo).trans (q8 hp),fun hp=>(yb _ Zo).trans (q9 hp),fun hp=>(yb _ (Ne.symm n8)).trans (q10 hp)⟩
   obtain ⟨cs,u1,u2⟩:=q3 hp
   exact ⟨cs,(yb _ (Ne.symm n54)).trans u1,u2⟩
  have hnK:∀ W,Below w7.heap.size w7 W→k38.K W ⟨r1,r2,r3,r4,r5,r6,r7,r8⟩ [.string r1,.int .i64 r2,.bool r3,.int .i64 r4,.int .u64 r5,.float .f64 r6,.string r7,.slice An r8.length cn]:=fun W hW=>
   k38_mk W ⟨r1,r2,r3,r4,r5,r6,r7,r8⟩ hln (Kd.YS hN7 hW)
  refine yco (k:=47) (n:=16) (B:=[0,1,3,7,15,31,63,127,63,511,1023,2047,4095,8191,16383,32767]) (E:=[0,1,2,3,4,5,6,8]) (L:=[7,9,10,11,12,13,14,15])
   (Y:=fun j=>([.int .i64 1,.bool false,.bool false,.int .i64 0,.bool true,.bool true,.agg (yK ⟨#[]⟩ (.slice Ag kids.length cg)),undef,.agg #[.string r1,.int .i64 r2,.bool r3,.int .i64 r4,.int .u64 r5,.float .f64 r6,.string r7,.slice An r8.length cn]]:List Value).getD j undef)
   J (fun a' w'=>RF gg gn a'∧WB w') Zk rfl Zk Zk Zd Zd Zd Zd Zd Zd Zk ?_ ?_ ?_ ?_ ?_ ?_ ?_
  · intro j o hj ho
    simp only [List.mem_cons,List.not_mem_nil,or_false] at hj
    rcases hj with rfl|rfl|rfl|rfl|rfl|rfl|rfl|rfl
    · obtain rfl:=Option.some.inj ho;exact .inl rfl
    · obtain rfl:=Option.some.inj ho;exact .inl rfl
    · obtain rfl:=Option.some.inj ho;exact .inl rfl
    · obtain rfl:=Option.some.inj ho;exact .inr ⟨2,false,rfl,by decide,rfl⟩
    · obtain rfl:=Option.some.inj ho;exact .inr ⟨2,false,rfl,by decide,rfl⟩
    · obtain rfl:=Option.some.inj ho;exact .inr ⟨2,false,rfl,by decide,rfl⟩
    · obtain rfl:=Option.some.inj ho;exact .inr ⟨5,true,rfl,by decide,rfl⟩
    · obtain rfl:=Option.some.inj ho;exact .inr ⟨5,true,rfl,by decide,rfl⟩
  · rintro p a' w' hp ⟨q1,q2,_⟩
    exact ⟨⟨q1,q2⟩,fun j hj=>by
     simp only [List.mem_cons,List.not_mem_nil,or_false] at hj
     rw [q1.size];omega⟩
  · rintro j o hj ho a' W hgot ⟨hF,hW⟩
    simp only [List.mem_cons,List.not_mem_nil,or_false] at hj
    rcases hj with rfl|rfl|rfl|rfl|rfl|rfl|rfl|rfl
    · obtain rfl:=Option.some.inj ho;exact yJ hF.e11
    · obtain rfl:=Option.some.inj ho;exact (ya1 (i:=1) (n:=1) (hgot 0 Zd) rfl).trans rfl
    · obtain rfl:=Option.some.inj ho;exact yJ (hgot 1 Zd)
    · obtain rfl:=Option.some.inj ho;exact yJ hF.e13
    · obtain rfl:=Option.some.inj ho;exact (run_eqli (i:=0) (n:=0) (hgot 3 Zd) rfl).trans rfl
    · obtain rfl:=Option.some.inj ho;exact yJ (hgot 4 Zd)
    · obtain rfl:=Option.some.inj ho;exact run_load hF.e12 (run_loadVar_row W gg 34 34 _ (0,0) _ (yE hbg7 hW) Tryz.underlying34 rfl Zk)
    · obtain rfl:=Option.some.inj ho;exact run_load hF.e14 (run_loadVar_row W gn 38 38 _ (0,0) _ (yE hb7 hW) Tryz.underlying38 rfl Zk)
  · rintro p j a' w' hp hj h
    have hj9:j<9∧j≠7:=by
     simp only [List.mem_cons,List.not_mem_nil,or_false] at hj
     omega
    exact hJput p (47+j) _ a' w' h Zo Zo Zo Zo Zo Zo Zo
  · intro p hp
    have hp8:p<8:=hp
    match p,hp8 with
    | 0,_=>
     refine ⟨_,rfl,?_⟩
     rintro a' w' ⟨q1,q2,q3,q4,q5,q6,q7,q8,q9,q10⟩ hgot
     refine ⟨Yc (d:=52) rfl rfl rfl (by rw [q1.size];decide) (hgot 5 Zd Zd),fun K hKf=>?_⟩
     refine ycG Tryz.func10 Zk rfl #[.agg (yK ⟨#[]⟩ (.slice Ag kids.length cg))] rfl (JX (hgot 6 Zd Zd)) ?_
     refine (yR.calls kn ⟨#[]⟩ 8 false 0 0 0 ⟨#[]⟩ Ag cg kids r1 r2 r3 r4 r5 r6 r7 r8 w' (Kd.YS hC7 q2) hC4.1 hnode).mono ?_
     rintro e w8 ⟨v8,rfl,hR8,hB8⟩
     obtain ⟨A8,c8,rfl⟩:=Kd.Y7 hR8
     have hr8:=Kd.Jt hR8
     refine ⟨_,rfl,hKf _ _ ⟨q1.put _ Zd Zd Zd Zd,yy q2 hB8,fun _=>⟨_,ya _ (by rw [q1.size];decide),k38_mk w8 ⟨r1,r2,r3,r4,r5,r6,r7,r8⟩ hr8.2.1 hr8.2.2⟩,fun h=>by omega,fun h=>by omega,fun h=>by omega,fun h=>by omega,fun h=>by omega,fun h=>by omega,fun h=>by omega⟩ (fun j hj=>yb _ ?_)⟩
     simp only [List.mem_cons,List.not_mem_nil,or_false] at hj
     omega
    | 1,_=>
     refine ⟨_,rfl,?_⟩
     rintro a' w' ⟨q1,q2,q3,q4,q5,q6,q7,q8,q9,q10⟩ hgot
     refine ⟨Yc (d:=52) rfl rfl rfl (by rw [q1.size];decide) (hgot 5 Zd Zd),fun K hKf=>?_⟩
     obtain ⟨cs,u1,u2⟩:=q3 Zd
     refine ycG Tryz.func9 Zk rfl #[.agg cs.toArray,.agg #[.string r1,.int .i64 r2,.bool r3,.int .i64 r4,.int .u64 r5,.float .f64 r6,.string r7,.slice An r8.length cn]] rfl (ybO u1 (hgot 8 Zd Zd)) ?_
     refine (same_walk _ ⟨r1,r2,r3,r4,r5,r6,r7,r8⟩ cs _ w' (Nat.le_refl _) u2 (hnK w' q2)).mono ?_
     rintro e w8 ⟨rfl,hB8⟩
     refine ⟨_,rfl,hKf _ _ ⟨q1.put _ Zd Zd Zd Zd,yy q2 hB8,fun _=>⟨cs,(yb _ Zd).trans u1,Kd.JH _ hB8 u2⟩,fun _=>ya _ (by rw [q1.size];decide),fun h=>by omega,fun h=>by omega,fun h=>by omega,fun h=>by omega,fun h=>by omega,fun h=>by omega⟩ (fun j hj=>yb _ ?_)⟩
     simp only [List.mem_cons,List.not_mem_nil,or_false] at hj
     omega
    | 2,_=>
     refine ⟨_,rfl,?_⟩
     rintro a' w' ⟨q1,q2,q3,q4,q5,q6,q7,q8,q9,q10⟩ hgot
     obtain ⟨cs,u1,u2⟩:=q3 Zd
     refine ⟨Yc (d:=49) rfl rfl rfl (by rw [q1.size];decide) (hgot 2 Zd Zd),fun K hKf=>?_⟩
     refine qB (QR (r:=.bool true) (hgot 5 Zd Zd) (q4 Zd)) (hKf _ _ ⟨q1.put _ Zd Zd Zd Zd,q2,fun _=>⟨cs,(yb _ Zd).trans u1,u2⟩,fun _=>(yb _ Zd).trans (q4 Zd),fun _=>ya _ (by rw [q1.size];decide),fun h=>by omega,fun h=>by omega,fun h=>by omega,fun h=>by omega,fun h=>by omega⟩ (fun j hj=>yb _ ?_))
     simp only [List.mem_cons,List.not_mem_nil,or_false] at hj
     omega
    | 3,_=>
     refine ⟨_,rfl,?_⟩
     rintro a' w' ⟨q1,q2,q3,q4,q5,q6,q7,q8,q9,q10⟩ hgot
     obtain ⟨cs,u1,u2⟩:=q3 Zd
     refine ⟨JQ rfl,fun K hKf=>?_⟩
     refine qB (qF (r:=.bool true) (hgot 2 Zd Zd) (q5 Zd)) (hKf _ _ ⟨q1.put _ Zd Zd Zd Zd,q2,fun _=>⟨cs,(yb _ Zd).trans u1,u2⟩,fun _=>(yb _ Zd).trans (q4 Zd),fun _=>(yb _ Zd).trans (q5 Zd),fun _=>ya _ (by rw [q1.size];decide),fun h=>by omega,fun h=>by omega,fun h=>by omega,fun h=>by omega⟩ (fun j hj=>yb _ ?_))
     simp only [List.mem_cons,List.not_mem_nil,or_false] at hj
     omega
    | 4,_=>
     refine ⟨_,rfl,?_⟩
     rintro a' w' ⟨q1,q2,q3,q4,q5,q6,q7,q8,q9,q10⟩ hgot
     obtain ⟨cs,u1,u2⟩:=q3 Zd
     refine ⟨JQ rfl,fun K hKf=>?_⟩
     refine qB (yJ (q6 Zd)) (hKf _ _ ⟨q1.put _ Zd Zd Zd Zd,q2,fun _=>⟨cs,(yb _ Zd).trans u1,u2⟩,fun _=>(yb _ Zd).trans (q4 Zd),fun _=>(yb _ Zd).trans (q5 Zd),fun _=>(yb _ Zd).trans (q6 Zd),fun _=>ya _ (by rw [q1.size];decide),fun h=>by omega,fun h=>by omega,fun h=>by omega⟩ (fun j hj=>yb _ ?_))
     simp only [List.mem_cons,List.not_mem_nil,or_false] at hj
     omega
    | 5,_=>
     refine ⟨_,rfl,?_⟩
     rintro a' w' ⟨q1,q2,q3,q4,q5,q6,q7,q8,q9,q10⟩ hgot
     obtain ⟨cs,u1,u2⟩:=q3 Zd
     refine ⟨Yc (d:=59) rfl rfl rfl (by rw [q1.size];decide) (q7 Zd),fun K hKf=>?_⟩
     refine ycG Tryz.func8 Zk rfl #[] rfl (by simp) ?_
     refine (yde w' tb c (hl.step (yy hB7 q2))).mono ?_
     rintro e w8 ⟨rfl,hB8⟩
     refine ⟨_,rfl,hKf _ _ ⟨q1.put _ Zd Zd Zd Zd,yy q2 hB8,fun _=>⟨cs,(yb _ Zd).trans u1,Kd.JH _ hB8 u2⟩,fun _=>(yb _ Zd).trans (q4 Zd),fun _=>(yb _ Zd).trans (q5 Zd),fun _=>(yb _ Zd).trans (q6 Zd),fun _=>(yb _ Zd).trans (q7 Zd),fun _=>ya _ (by rw [q1.size];decide),fun h=>by omega,fun h=>by omega⟩ (fun j hj=>yb _ ?_)⟩
     simp only [List.mem_cons,List.not_mem_nil,or_false] at hj
     omega
    | 6,_=>
     refine ⟨_,rfl,?_⟩
     rintro a' w' ⟨q1,q2,q3,q4,q5,q6,q7,q8,q9,q10⟩ hgot
     obtain ⟨cs,u1,u2⟩:=q3 Zd
     refine ⟨JQ rfl,fun K hKf=>?_⟩
     refine qB (QR (r:=.bool true) (q7 Zd) (q8 Zd)) (hKf _ _ ⟨q1.put _ Zd Zd Zd Zd,q2,fun _=>⟨cs,(yb _ Zd).trans u1,u2⟩,fun _=>(yb _ Zd).trans (q4 Zd),fun _=>(yb _ Zd).trans (q5 Zd),fun _=>(yb _ Zd).trans (q6 Zd),fun _=>(yb _ Zd).trans (q7 Zd),fun _=>(yb _ Zd).trans (q8 Zd),fun _=>ya _ (by rw [q1.size];decide),fun h=>by omega⟩ (fun j hj=>yb _ ?_))
     simp only [List.mem_cons,List.not_mem_nil,or_false] at hj
     omega
    | 7,_=>
     refine ⟨_,rfl,?_⟩
     rintro a' w' ⟨q1,q2,q3,q4,q5,q6,q7,q8,q9,q10⟩ hgot
     obtain ⟨cs,u1,u2⟩:=q3 Zd
     refine ⟨JQ rfl,fun K hKf=>?_⟩
     refine qB (yX (q9 Zd)) (hKf _ _ ⟨q1.put _ Zd Zd Zd Zd,q2,fun _=>⟨cs,(yb _ Zd).trans u1,u2⟩,fun _=>(yb _ Zd).trans (q4 Zd),fun _=>(yb _ Zd).trans (q5 Zd),fun _=>(yb _ Zd).trans (q6 Zd),fun _=>(yb _ Zd).trans (q7 Zd),fun _=>(yb _ Zd).trans (q8 Zd),fun _=>(yb _ Zd).trans (q9 Zd),fun _=>ya _ (by rw [q1.size];decide)⟩ (fun j hj=>yb _ ?_))
     simp only [List.mem_cons,List.not_mem_nil,or_false] at hj
     omega
  · exact ⟨hRF,(Below.refl _ _).drew,fun h=>by omega,fun h=>by omega,fun h=>by omega,fun h=>by omega,fun h=>by omega,fun h=>by omega,fun h=>by omega,fun h=>by omega⟩
  rintro a' w' ⟨q1,q2,q3,q4,q5,q6,q7,q8,q9,q10⟩ _
  simp only [Exit.then]
  refine wp_ret ?_
  exact Y8 rfl q1.defers (q10 Zd) ⟨rfl,yy hB7 q2⟩
end Go.Proofs.YtdcaggoicdfehaaGreatDoor
