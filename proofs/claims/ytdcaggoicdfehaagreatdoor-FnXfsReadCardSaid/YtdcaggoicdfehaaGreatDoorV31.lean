/- Part 31 of 44 of the proof of the tied card of FnXfsRead. -/
import Derived.Test.YtdcaggoicdfehaaGreatDoorVz
import Derived.Test.YtdcaggoicdfehaaGreatDoorV19
import Derived.Test.YtdcaggoicdfehaaGreatDoorV25
import Derived.Test.YtdcaggoicdfehaaGreatDoorV30
set_option linter.unusedVariables false
set_option linter.unusedSimpArgs false
namespace Go.Proofs.YtdcaggoicdfehaaGreatDoor
open Go.RowKit Go.Proofs.YtdcaggoicdfehaaGreatDoorW.PrintWords Go.Proofs.YtdcaggoicdfehaaGreatDoorW.PrintLast Go.Proofs.YtdcaggoicdfehaaGreatDoorW.PrintMore
def yaJ (P:Program) (ops:Array Oper) (K:Act→World→Prop) (Q:Exit→Act→World→Prop):List Oper→Act→World→Prop
 | [],a,w=>K a w
 | o::r,a,w=>(Region.wanted o (yielded ops a.tmps)=true∧∀ K':Act→World→Prop,(∀ a' w',yaJ P ops K Q r a' w'→K' a' w')→o.wp P a w K' Q)∨(Region.wanted o (yielded ops a.tmps)=false∧yaJ P ops K Q r (a.put o.dst undef) w)
theorem rc_list {P:Program} {ops:Array Oper} {Q:Exit→Act→World→Prop}:∀ {l:List Oper} {a:Act} {w:World},yaJ P ops (fun a w=>Q .normal a w) Q l a w→wpList P ops Q l a w
 | [],_,_,h=>wpList_nil h
 | o::r,a,w,.inl ⟨hw,h⟩=>wpList_step fun K hK=>by rw [if_pos hw];exact h K (fun a' w' h'=>hK _ _ (rc_list h'))
 | o::r,a,w,.inr ⟨hw,h⟩=>ybA hw (rc_list h)
section
variable {P:Program} {ops:Array Oper} {K:Act→World→Prop} {Q:Exit→Act→World→Prop} {a:Act} {w w1:World} {o:Oper} {r:List Oper} {v:Value}
theorem rc_nil (h:K a w):yaJ P ops K Q [] a w:=h
theorem rc_gate (hw:Region.wanted o (yielded ops a.tmps)=true) (hrun:(execOp a.eval o).run P w=.ok (.value v) w1) (h:yaJ P ops K Q r (a.put o.dst v) w1):yaJ P ops K Q (o::r) a w:=
 .inl ⟨hw,fun K' hK=>by unfold Oper.wp;rw [hrun];exact hK _ _ h⟩
theorem Qj (hg:o.guard=none) (hrun:(execOp a.eval o).run P w=.ok (.value v) w1) (h:yaJ P ops K Q r (a.put o.dst v) w1):yaJ P ops K Q (o::r) a w:=rc_gate (by simp [Region.wanted,hg]) hrun h
theorem rc_off (hw:Region.wanted o (yielded ops a.tmps)=false) (h:yaJ P ops K Q r (a.put o.dst undef) w):yaJ P ops K Q (o::r) a w:=.inr ⟨hw,h⟩
theorem rc_call {f:FuncId} {fn:Func} {ao:Array Operand} {ts:Array TypeId} (hw:Region.wanted o (yielded ops a.tmps)=true) (hf:P.funcs[f]?=some fn) (hname:(fn.name == "runtime.NumGoroutine")=false) (hb:fn.body.isSome=true) (args:Array Value)
 (hop:o.op=.call { callee:=.value (.func f),args:=ao,argTypes:=ts }) (hargs:ao.map a.eval=args) (h:Calls P f args w fun e w'=>∃ v,e=.returned v∧yaJ P ops K Q r (a.put o.dst v) w'):yaJ P ops K Q (o::r) a w:=by
 refine .inl ⟨hw,fun K' hK=>?_⟩
 have he:=ybe hf hname hb args w
 have hrun:(execOp a.eval o).run P w=.ok (.enter f args) w:=by
  unfold execOp
  simp [hop,resolve,Deferred.ofValue,invoke,Act.eval,hargs,he]
 unfold Oper.wp
 rw [hrun,Oper.upon_enter]
 refine h.mono fun e w'' hh=>?_
 obtain ⟨v,rfl,hk⟩:=hh
 exact hK _ _ hk
end
section
variable {a:Act} {d:Option Tmp} {ty:TypeId} {pos:String} {aft:Array Edge} {gd:Option (Nat × Bool)} {w:World} {x y:Operand}
theorem ycZ {b:Bool} {T:TypeId} (hx:a.eval x=.bool b):(execOp a.eval ⟨d,.unOp .not T x,ty,pos,aft,gd⟩).run Tryz.prog w=.ok (.value (.bool (!b))) w:=by
 unfold execOp
 simp only [hx]
 rfl
theorem run_not_f {T:TypeId} (hx:a.eval x=.bool false):(execOp a.eval ⟨d,.unOp .not T x,ty,pos,aft,gd⟩).run Tryz.prog w=.ok (.value (.bool true)) w:=ycZ hx
theorem run_not_t {T:TypeId} (hx:a.eval x=.bool true):(execOp a.eval ⟨d,.unOp .not T x,ty,pos,aft,gd⟩).run Tryz.prog w=.ok (.value (.bool false)) w:=ycZ hx
theorem QR {c u v:Operand} {r:Value} (hc:a.eval c=.bool true) (hu:a.eval u=r):(execOp a.eval ⟨d,.pick c u v,ty,pos,aft,gd⟩).run Tryz.prog w=.ok (.value r) w:=(Jr hc).trans (by rw [if_pos rfl,hu])
theorem qF {c u v:Operand} {r:Value} (hc:a.eval c=.bool false) (hv:a.eval v=r):(execOp a.eval ⟨d,.pick c u v,ty,pos,aft,gd⟩).run Tryz.prog w=.ok (.value r) w:=(Jr hc).trans (by rw [if_neg Zd,hv])
theorem ya1 {i n:Int} (hx:a.eval x=.int .i64 i) (hy:a.eval y=.int .i64 n):(execOp a.eval ⟨d,.binOp .neq 3 x y 3,ty,pos,aft,gd⟩).run Tryz.prog w=.ok (.value (.bool (!(i == n)))) w:=Jg hx hy Zk
theorem run_eqli {i n:Int} (hx:a.eval x=.int .i64 i) (hy:a.eval y=.int .i64 n):(execOp a.eval ⟨d,.binOp .eql 3 x y 3,ty,pos,aft,gd⟩).run Tryz.prog w=.ok (.value (.bool (i == n))) w:=Jg hx hy Zk
theorem run_neqs {s t:ByteArray} (hx:a.eval x=.string s) (hy:a.eval y=.string t):(execOp a.eval ⟨d,.binOp .neq 9 x y 9,ty,pos,aft,gd⟩).run Tryz.prog w=.ok (.value (.bool (!(s.toList == t.toList)))) w:=Jg hx hy Zk
theorem qt {ops:Array Oper} {o oj:Oper} {j d:Nat} {b:Bool} (hg:o.guard=some (j,b)) (hj:ops[j]?=some oj) (hd:oj.dst=some d) (hs:d<a.tmps.size) (hv:a.eval (.tmp d)=undef):Region.wanted o (yielded ops a.tmps)=false:=by
 have h1:a.tmps[d]?=some undef:=by
  have:a.tmps.getD d undef=undef:=hv
  rw [Array.getD_eq_getD_getElem?] at this
  rw [Array.getElem?_eq_getElem hs] at this ⊢
  exact congrArg some this
 simp [Region.wanted,yielded,hg,hj,hd,h1,undef]
end
def ycf (good:Bool) (lv:Value):Value:=if good then .tuple #[lv,.bool true,.int .i64 1] else .tuple #[.slice none 0 0,.bool false,.int .i64 2]
set_option maxRecDepth 100000 in
set_option maxHeartbeats 2000000 in
theorem meant_walk (text s:ByteArray) (l:List S56) (A:Option Addr) (c:Nat) (ok b:Bool) (told:Int) (w:World) (hC:Kd.C k56 w A l.length l) (hc:l.length≤c) (hp:∃ k,yW.f k text=some b) (hx:∃ k,yN.f k l=some (s,told)) :
 Calls Tryz.prog 13 #[.string text,.slice A l.length c,.bool ok,.func (.func 14) #[] #[],.bool false] w fun e w'=>Below w.heap.size w w'∧e=.returned (ycf (ok && b && (told == 1) && (s.toList == text.toList)) (.slice A l.length c)):=by
 obtain ⟨kp,hp⟩:=hp
 obtain ⟨kx,hx⟩:=hx
 go_enter Tryz.func13,Tryz.ntmps13
 generalize ha0:(Act.mk _ _)=a0
 have hsz:a0.tmps.size=49:=by rw [← ha0];rfl
 have hdf:a0.defers=[]:=by rw [← ha0]
 have e0:a0.eval (.tmp 0)=.string text:=by rw [← ha0];rfl
 have e1:a0.eval (.tmp 1)=.slice A l.length c:=by rw [← ha0];rfl
 have e2:a0.eval (.tmp 2)=.bool ok:=by rw [← ha0];rfl
 have e3:a0.eval (.tmp 3)=.func (.func 14) #[] #[]:=by rw [← ha0];rfl
 have e4:a0.eval (.tmp 4)=.bool false:=by rw [← ha0];rfl
 clear ha0
 refine yB ?_
 refine yf rfl (yX (v:=.slice none 0 0) rfl) ?_
 refine yf rfl (yX (v:=.bool false) rfl) ?_
 refine yf rfl (yX (v:=.int .i64 0) rfl) ?_
 refine yG ?_
 generalize hq:(Act.put _ (some 12) _)=a1
 have s1:a1.tmps.size=49:=by rw [← hq];simp only [size_put];exact hsz
 have d1:a1.defers=[]:=by rw [← hq];simp only [yq];exact hdf
 have f0:a1.eval (.tmp 0)=.string text:=by rw [← hq];simp (disch:=decide) only [yb,e0]
 have f1:a1.eval (.tmp 1)=.slice A l.length c:=by rw [← hq];simp (disch:=decide) only [yb,e1]
 have f2:a1.eval (.tmp 2)=.bool ok:=by rw [← hq];simp (disch:=decide) only [yb,e2]
 have f3:a1.eval (.tmp 3)=.func (.func 14) #[] #[]:=by rw [← hq];simp (disch:=decide) only [yb,e3]
 have f4:a1.eval (.tmp 4)=.bool false:=by rw [← hq];simp (disch:=decide) only [yb,e4]
 clear hq
 refine wp_seq ?_
 refine wp_seq ?_
 refine wp_region_list (rc_list ?_)
 cases ok with
 | false=>
  refine Qj rfl (yJ f2) ?_
  refine Qj rfl (run_not_f (ya _ Zo)) ?_
  refine Qj rfl (yJ (v:=.bool true) (ya _ Zs)) ?_
  refine rc_off (JF (d:=17) (b':=true) rfl rfl rfl Zs (ya _ Zs) Zd) ?_
  refine rc_off (JF (d:=17) (b':=true) rfl rfl rfl Zs (by simp (disch:=exact Zq s1) only [ya,yb]) Zd) ?_
  refine rc_off (JF (d:=17) (b':=true) rfl rfl rfl Zs (by simp (disch:=exact Zq s1) only [ya,yb]) Zd) ?_
  refine Qj rfl (QR (r:=.bool true) (by simp (disch:=exact Zq s1) only [ya,yb]) rfl) ?_
  refine rc_nil ?_
  refine wp_cond_true (show _=Value.bool true from ya _ Zs) ?_
  refine yB ?_
  refine yf rfl (yX (v:=.slice none 0 0) rfl) ?_
  refine yf rfl (yX (v:=.bool false) rfl) ?_
  refine yf rfl (yX (v:=.int .i64 2) rfl) ?_
  refine yG ?_
  refine wp_ret ?_
  simp only [Exit.then]
  refine bodyPost_ret (J0 (fn:=Tryz.f13) (rs:=[.tmp 10,.tmp 11,.tmp 12]) (vs:=[_,_,_]) rfl (by simp) (.tmp (.tmp (.tmp .nil)))) (by simp only [yq];exact d1) ⟨Below.refl _ _,?_⟩
  have p1:∀ b:Act,b.tmps.getD 10 undef=b.eval (.tmp 10):=fun _=>rfl
  have p2:∀ b:Act,b.tmps.getD 11 undef=b.eval (.tmp 11):=fun _=>rfl
  have p3:∀ b:Act,b.tmps.getD 12 undef=b.eval (.tmp 12):=fun _=>rfl
  rw [p1,p2,p3]
  simp (disch:=exact Zq s1) only [ya,yb]
  rfl
 | true=>
  refine Qj rfl (yJ f2) ?_
  refine Qj rfl (run_not_t (ya _ Zo)) ?_
  refine Qj rfl (yJ (v:=.bool false) (ya _ Zs)) ?_
  refine rc_gate (Yc (d:=17) rfl rfl rfl Zs (ya _ Zs)) (yJ (v:=.string text) (by simp (disch:=decide) only [yb,f0])) ?_
  refine rc_call (Yc (d:=17) rfl rfl rfl Zs (by simp (disch:=exact Zq s1) only [ya,yb])) Tryz.func32 Zk rfl #[.string text] rfl (JX (ya _ Zs)) ?_
  refine (yW.calls kp text b w hp).mono ?_
  rintro e w1 ⟨rfl,hD⟩
  have hB1:Below w.heap.size w w1:=by obtain ⟨n,rfl⟩:=hD;exact yn (Below.refl _ _) n
  refine ⟨_,rfl,?_⟩
  refine rc_gate (Yc (d:=17) rfl rfl rfl Zs (by simp (disch:=exact Zq s1) only [ya,yb])) (ycZ (b:=b) (ya _ Zs)) ?_
  refine Qj rfl (qF (r:=.bool (!b)) (by simp (disch:=exact Zq s1) only [ya,yb]) (ya _ Zs)) ?_
  refine rc_nil ?_
  cases b with
  | false=>
   refine wp_cond_true (show _=Value.bool true from ya _ Zs) ?_
   refine yB ?_
   refine yf rfl (yX (v:=.slice none 0 0) rfl) ?_
   refine yf rfl (yX (v:=.bool false) rfl) ?_
   refine yf rfl (yX (v:=.int .i64 2) rfl) ?_
   refine yG ?_
   refine wp_ret ?_
   simp only [Exit.then]
   refine bodyPost_ret (J0 (fn:=Tryz.f13) (rs:=[.tmp 10,.tmp 11,.tmp 12]) (vs:=[_,_,_]) rfl (by simp) (.tmp (.tmp (.tmp .nil)))) (by simp only [yq];exact d1) ⟨hB1,?_⟩
   have p1:∀ b:Act,b.tmps.getD 10 undef=b.eval (.tmp 10):=fun _=>rfl
   have p2:∀ b:Act,b.tmps.getD 11 undef=b.eval (.tmp 11):=fun _=>rfl
   have p3:∀ b:Act,b.tmps.getD 12 undef=b.eval (.tmp 12):=fun _=>rfl
   rw [p1,p2,p3]
   simp (disch:=exact Zq s1) only [ya,yb]
   rfl
  | true=>
  refine wp_cond_false (show _=Value.bool false from ya _ Zs) ?_
  refine wp_skip ?_
  simp only [Exit.then]
  generalize hq:(Act.put _ (some 21) _)=a2
  have s2:a2.tmps.size=49:=by rw [← hq];simp only [size_put];exact s1
  have d2:a2.defers=[]:=by rw [← hq];simp only [yq];exact d1
  have g0:a2.eval (.tmp 0)=.string text:=by rw [← hq];simp (disch:=decide) only [yb,f0]
  have g1:a2.eval (.tmp 1)=.slice A l.length c:=by rw [← hq];simp (disch:=decide) only [yb,f1]
  have g2:a2.eval (.tmp 2)=.bool true:=by rw [← hq];simp (disch:=decide) only [yb,f2]
  have g3:a2.eval (.tmp 3)=.func (.func 14) #[] #[]:=by rw [← hq];simp (disch:=decide) only [yb,f3]
  have g4:a2.eval (.tmp 4)=.bool false:=by rw [← hq];simp (disch:=decide) only [yb,f4]
  clear hq
  refine wp_seq ?_
  refine wp_region_list ?_
  refine Kd.yh rfl (yJ g3) ?_
  refine Kd.yh rfl (yJ (v:=.slice A l.length c) ((yb _ Zd).trans g1)) ?_
  refine yaz (some 25) rfl rfl (x:=.tmp 23) (f:=14) (cap:=#[]) (by simp (disch:=exact Zq s2) only [ya,yb,g3]) Tryz.func14 Zk rfl #[.slice A l.length c] #[.slice A l.length c] rfl (JX (ya _ Zs)) rfl ?_
  refine (yN.calls kx A c l s told w1 (Kd.YS hC hB1) hc hx).mono ?_
  rintro e w2 ⟨rfl,hB⟩
  have hB2:=yy hB1 hB
  refine ⟨_,rfl,?_⟩
  refine Kd.yh rfl (yJ (v:=.tuple #[.string s,.int .i64 told]) (ya _ Zs)) ?_
  refine Kd.yh rfl (YI (u:=.tuple #[.string s,.int .i64 told]) (v:=.string s) (ya _ Zs) (qh _ _ _)) ?_
  refine Kd.yh rfl (YI (u:=.tuple #[.string s,.int .i64 told]) (v:=.int .i64 told) ((yb _ Zd).trans (ya _ Zs)) (qi _ _ _)) ?_
  refine Kd.yh rfl (yX (v:=.string s) (by simp (disch:=exact Zq s2) only [ya,yb])) ?_
  refine Kd.yh rfl (yX (v:=.int .i64 told) (by simp (disch:=exact Zq s2) only [ya,yb])) ?_
  refine wpList_nil ?_
  simp only [Exit.then]
  generalize hq:(Act.put _ (some 14) _)=a3
  have s3:a3.tmps.size=49:=by rw [← hq];simp only [size_put];exact s2
  have d3:a3.defers=[]:=by rw [← hq];simp only [yq];exact d2
  have h0:a3.eval (.tmp 0)=.string text:=by rw [← hq];simp (disch:=decide) only [yb,g0]
  have h1:a3.eval (.tmp 1)=.slice A l.length c:=by rw [← hq];simp (disch:=decide) only [yb,g1]
  have h4:a3.eval (.tmp 4)=.bool false:=by rw [← hq];simp (disch:=decide) only [yb,g4]
  have h13:a3.eval (.tmp 13)=.string s:=by rw [← hq,yb _ Zd,ya _ Zs]
  have h14:a3.eval (.tmp 14)=.int .i64 told:=by rw [← hq,ya _ Zs]
  clear hq
  refine wp_seq ?_
  refine wp_seq ?_
  refine wp_region_list (Q5 ?_)
  by_cases ht:told=1
  · subst ht
    refine Yh rfl (yJ h14) ?_
    refine Yh rfl ((ya1 (i:=1) (n:=1) (ya _ Zo) rfl).trans (show _=Result.ok (Next.value (.bool false)) _ from rfl)) ?_
    refine Yh rfl (yJ (ya _ Zs)) ?_
    refine Yo (Yc (d:=30) rfl rfl rfl Zs (by simp (disch:=exact Zq s3) only [ya,yb,h0,h1,h4,h13,h14])) (yJ (v:=.string s) (by simp (disch:=exact Zq s3) only [ya,yb,h0,h1,h4,h13,h14])) ?_
    refine Yo (Yc (d:=30) rfl rfl rfl Zs (by simp (disch:=exact Zq s3) only [ya,yb,h0,h1,h4,h13,h14])) (yJ (v:=.string text) (by simp (disch:=exact Zq s3) only [ya,yb,h0,h1,h4,h13,h14])) ?_
    cases hst:(s.toList == text.toList) with
    | false=>
     refine Yo (Yc (d:=30) rfl rfl rfl Zs (by simp (disch:=exact Zq s3) only [ya,yb,h0,h1,h4,h13,h14])) ((run_neqs (s:=s) (t:=text) (by simp (disch:=exact Zq s3) only [ya,yb,h0,h1,h4,h13,h14]) (by simp (disch:=exact Zq s3) only [ya,yb,h0,h1,h4,h13,h14])).trans (show _=Result.ok (Next.value (.bool true)) _ by rw [hst];rfl)) ?_
     refine Yo (Yc (d:=30) rfl rfl rfl Zs (by simp (disch:=exact Zq s3) only [ya,yb,h0,h1,h4,h13,h14])) (yJ (v:=.bool true) (ya _ Zs)) ?_
     refine Yo (Yc (d:=34) rfl rfl rfl Zs (by simp (disch:=exact Zq s3) only [ya,yb,h0,h1,h4,h13,h14])) (yJ (v:=.bool false) (by simp (disch:=exact Zq s3) only [ya,yb,h0,h1,h4,h13,h14])) ?_
     refine Yo (Yc (d:=34) rfl rfl rfl Zs (by simp (disch:=exact Zq s3) only [ya,yb,h0,h1,h4,h13,h14])) (yJ (v:=.bool false) (by simp (disch:=exact Zq s3) only [ya,yb,h0,h1,h4,h13,h14])) ?_
     refine Y4 (JF (d:=36) (b':=false) rfl rfl rfl Zs (by simp (disch:=exact Zq s3) only [ya,yb,h0,h1,h4,h13,h14]) Zd) ?_
     refine Y4 (JF (d:=36) (b':=false) rfl rfl rfl Zs (by simp (disch:=exact Zq s3) only [ya,yb,h0,h1,h4,h13,h14]) Zd) ?_
     refine Y4 (JF (d:=36) (b':=false) rfl rfl rfl Zs (by simp (disch:=exact Zq s3) only [ya,yb,h0,h1,h4,h13,h14]) Zd) ?_
     refine Yo (Yc (d:=34) rfl rfl rfl Zs (by simp (disch:=exact Zq s3) only [ya,yb,h0,h1,h4,h13,h14])) (qF (r:=.bool false) (by simp (disch:=exact Zq s3) only [ya,yb,h0,h1,h4,h13,h14]) rfl) ?_
     refine Yo (Yc (d:=34) rfl rfl rfl Zs (by simp (disch:=exact Zq s3) only [ya,yb,h0,h1,h4,h13,h14])) (yJ (v:=.bool false) (ya _ Zs)) ?_
     refine Y4 (JF (d:=41) (b':=false) rfl rfl rfl Zs (by simp (disch:=exact Zq s3) only [ya,yb,h0,h1,h4,h13,h14]) Zd) ?_
     refine Y4 (JF (d:=41) (b':=false) rfl rfl rfl Zs (by simp (disch:=exact Zq s3) only [ya,yb,h0,h1,h4,h13,h14]) Zd) ?_
     refine Yo (Yc (d:=34) rfl rfl rfl Zs (by simp (disch:=exact Zq s3) only [ya,yb,h0,h1,h4,h13,h14])) (qF (r:=.bool false) (by simp (disch:=exact Zq s3) only [ya,yb,h0,h1,h4,h13,h14]) rfl) ?_
     refine Yo (Yc (d:=34) rfl rfl rfl Zs (by simp (disch:=exact Zq s3) only [ya,yb,h0,h1,h4,h13,h14])) (run_not_f (ya _ Zs)) ?_
     refine Yo (Yc (d:=30) rfl rfl rfl Zs (by simp (disch:=exact Zq s3) only [ya,yb,h0,h1,h4,h13,h14])) (QR (r:=.bool true) (by simp (disch:=exact Zq s3) only [ya,yb,h0,h1,h4,h13,h14]) (ya _ Zs)) ?_
     refine Yh rfl (qF (r:=.bool true) (by simp (disch:=exact Zq s3) only [ya,yb,h0,h1,h4,h13,h14]) (ya _ Zs)) ?_
     refine yaV ?_
     refine wp_cond_true (show _=Value.bool true from ya _ Zs) ?_
     refine yB ?_
     refine yf rfl (yX (v:=.slice none 0 0) rfl) ?_
     refine yf rfl (yX (v:=.bool false) rfl) ?_
     refine yf rfl (yX (v:=.int .i64 2) rfl) ?_
     refine yG ?_
     refine wp_ret ?_
     simp only [Exit.then]
     refine bodyPost_ret (J0 (fn:=Tryz.f13) (rs:=[.tmp 10,.tmp 11,.tmp 12]) (vs:=[_,_,_]) rfl (by simp) (.tmp (.tmp (.tmp .nil)))) (by simp only [yq];exact d3) ⟨hB2,?_⟩
     have p1:∀ b:Act,b.tmps.getD 10 undef=b.eval (.tmp 10):=fun _=>rfl
     have p2:∀ b:Act,b.tmps.getD 11 undef=b.eval (.tmp 11):=fun _=>rfl
     have p3:∀ b:Act,b.tmps.getD 12 undef=b.eval (.tmp 12):=fun _=>rfl
     rw [p1,p2,p3]
     simp (disch:=exact Zq s3) only [ya,yb]
     simp [ycf]
    | true=>
     refine Yo (Yc (d:=30) rfl rfl rfl Zs (by simp (disch:=exact Zq s3) only [ya,yb,h0,h1,h4,h13,h14])) ((run_neqs (s:=s) (t:=text) (by simp (disch:=exact Zq s3) only [ya,yb,h0,h1,h4,h13,h14]) (by simp (disch:=exact Zq s3) only [ya,yb,h0,h1,h4,h13,h14])).trans (show _=Result.ok (Next.value (.bool false)) _ by rw [hst];rfl)) ?_
     refine Yo (Yc (d:=30) rfl rfl rfl Zs (by simp (disch:=exact Zq s3) only [ya,yb,h0,h1,h4,h13,h14])) (yJ (v:=.bool false) (ya _ Zs)) ?_
     refine Y4 (JF (d:=34) (b':=false) rfl rfl rfl Zs (by simp (disch:=exact Zq s3) only [ya,yb,h0,h1,h4,h13,h14]) Zd) ?_
     refine Y4 (JF (d:=34) (b':=false) rfl rfl rfl Zs (by simp (disch:=exact Zq s3) only [ya,yb,h0,h1,h4,h13,h14]) Zd) ?_
     refine Y4 (qt (d:=36) rfl rfl rfl Zs (by simp (disch:=exact Zq s3) only [ya,yb,h0,h1,h4,h13,h14])) ?_
     refine Y4 (qt (d:=36) rfl rfl rfl Zs (by simp (disch:=exact Zq s3) only [ya,yb,h0,h1,h4,h13,h14])) ?_
     refine Y4 (qt (d:=36) rfl rfl rfl Zs (by simp (disch:=exact Zq s3) only [ya,yb,h0,h1,h4,h13,h14])) ?_
     refine Y4 (JF (d:=34) (b':=false) rfl rfl rfl Zs (by simp (disch:=exact Zq s3) only [ya,yb,h0,h1,h4,h13,h14]) Zd) ?_
     refine Y4 (JF (d:=34) (b':=false) rfl rfl rfl Zs (by simp (disch:=exact Zq s3) only [ya,yb,h0,h1,h4,h13,h14]) Zd) ?_
     refine Y4 (qt (d:=41) rfl rfl rfl Zs (by simp (disch:=exact Zq s3) only [ya,yb,h0,h1,h4,h13,h14])) ?_
     refine Y4 (qt (d:=41) rfl rfl rfl Zs (by simp (disch:=exact Zq s3) only [ya,yb,h0,h1,h4,h13,h14])) ?_
     refine Y4 (JF (d:=34) (b':=false) rfl rfl rfl Zs (by simp (disch:=exact Zq s3) only [ya,yb,h0,h1,h4,h13,h14]) Zd) ?_
     refine Y4 (JF (d:=34) (b':=false) rfl rfl rfl Zs (by simp (disch:=exact Zq s3) only [ya,yb,h0,h1,h4,h13,h14]) Zd) ?_
     refine Yo (Yc (d:=30) rfl rfl rfl Zs (by simp (disch:=exact Zq s3) only [ya,yb,h0,h1,h4,h13,h14])) (qF (r:=.bool false) (by simp (disch:=exact Zq s3) only [ya,yb,h0,h1,h4,h13,h14]) rfl) ?_
     refine Yh rfl (qF (r:=.bool false) (by simp (disch:=exact Zq s3) only [ya,yb,h0,h1,h4,h13,h14]) (ya _ Zs)) ?_
     refine yaV ?_
     refine wp_cond_false (show _=Value.bool false from ya _ Zs) ?_
     refine wp_skip ?_
     simp only [Exit.then]
     refine yB ?_
     refine yf rfl (yJ (v:=.slice A l.length c) (by simp (disch:=decide) only [yb,h1])) ?_
     refine yf rfl (yX (v:=.slice A l.length c) (ya _ Zs)) ?_
     refine yf rfl (yX (v:=.bool true) rfl) ?_
     refine yf rfl (yX (v:=.int .i64 1) rfl) ?_
     refine yG ?_
     refine wp_ret ?_
     refine bodyPost_ret (J0 (fn:=Tryz.f13) (rs:=[.tmp 10,.tmp 11,.tmp 12]) (vs:=[_,_,_]) rfl (by simp) (.tmp (.tmp (.tmp .nil)))) (by simp only [yq];exact d3) ⟨hB2,?_⟩
     have p1:∀ b:Act,b.tmps.getD 10 undef=b.eval (.tmp 10):=fun _=>rfl
     have p2:∀ b:Act,b.tmps.getD 11 undef=b.eval (.tmp 11):=fun _=>rfl
     have p3:∀ b:Act,b.tmps.getD 12 undef=b.eval (.tmp 12):=fun _=>rfl
     rw [p1,p2,p3]
     simp (disch:=exact Zq s3) only [ya,yb]
     simp [ycf]
  · have hb1:(!(told == 1))=true:=by simp [ht]
    refine Yh rfl (yJ h14) ?_
    refine Yh rfl ((ya1 (i:=told) (n:=1) (ya _ Zo) rfl).trans (show _=Result.ok (Next.value (.bool true)) _ by rw [hb1])) ?_
    refine Yh rfl (yJ (ya _ Zs)) ?_
    refine Y4 (JF (d:=30) (b':=true) rfl rfl rfl Zs (by simp (disch:=exact Zq s3) only [ya,yb,h0,h1,h4,h13,h14]) Zd) ?_
    refine Y4 (JF (d:=30) (b':=true) rfl rfl rfl Zs (by simp (disch:=exact Zq s3) only [ya,yb,h0,h1,h4,h13,h14]) Zd) ?_
    refine Y4 (JF (d:=30) (b':=true) rfl rfl rfl Zs (by simp (disch:=exact Zq s3) only [ya,yb,h0,h1,h4,h13,h14]) Zd) ?_
    refine Y4 (JF (d:=30) (b':=true) rfl rfl rfl Zs (by simp (disch:=exact Zq s3) only [ya,yb,h0,h1,h4,h13,h14]) Zd) ?_
    refine Y4 (qt (d:=34) rfl rfl rfl Zs (by simp (disch:=exact Zq s3) only [ya,yb,h0,h1,h4,h13,h14])) ?_
    refine Y4 (qt (d:=34) rfl rfl rfl Zs (by simp (disch:=exact Zq s3) only [ya,yb,h0,h1,h4,h13,h14])) ?_
    refine Y4 (qt (d:=36) rfl rfl rfl Zs (by simp (disch:=exact Zq s3) only [ya,yb,h0,h1,h4,h13,h14])) ?_
    refine Y4 (qt (d:=36) rfl rfl rfl Zs (by simp (disch:=exact Zq s3) only [ya,yb,h0,h1,h4,h13,h14])) ?_
    refine Y4 (qt (d:=36) rfl rfl rfl Zs (by simp (disch:=exact Zq s3) only [ya,yb,h0,h1,h4,h13,h14])) ?_
    refine Y4 (qt (d:=34) rfl rfl rfl Zs (by simp (disch:=exact Zq s3) only [ya,yb,h0,h1,h4,h13,h14])) ?_
    refine Y4 (qt (d:=34) rfl rfl rfl Zs (by simp (disch:=exact Zq s3) only [ya,yb,h0,h1,h4,h13,h14])) ?_
    refine Y4 (qt (d:=41) rfl rfl rfl Zs (by simp (disch:=exact Zq s3) only [ya,yb,h0,h1,h4,h13,h14])) ?_
    refine Y4 (qt (d:=41) rfl rfl rfl Zs (by simp (disch:=exact Zq s3) only [ya,yb,h0,h1,h4,h13,h14])) ?_
    refine Y4 (qt (d:=34) rfl rfl rfl Zs (by simp (disch:=exact Zq s3) only [ya,yb,h0,h1,h4,h13,h14])) ?_
    refine Y4 (qt (d:=34) rfl rfl rfl Zs (by simp (disch:=exact Zq s3) only [ya,yb,h0,h1,h4,h13,h14])) ?_
    refine Y4 (JF (d:=30) (b':=true) rfl rfl rfl Zs (by simp (disch:=exact Zq s3) only [ya,yb,h0,h1,h4,h13,h14]) Zd) ?_
    refine Yh rfl (QR (r:=.bool true) (by simp (disch:=exact Zq s3) only [ya,yb,h0,h1,h4,h13,h14]) rfl) ?_
    refine yaV ?_
    refine wp_cond_true (show _=Value.bool true from ya _ Zs) ?_
    refine yB ?_
    refine yf rfl (yX (v:=.slice none 0 0) rfl) ?_
    refine yf rfl (yX (v:=.bool false) rfl) ?_
    refine yf rfl (yX (v:=.int .i64 2) rfl) ?_
    refine yG ?_
    refine wp_ret ?_
    simp only [Exit.then]
    refine bodyPost_ret (J0 (fn:=Tryz.f13) (rs:=[.tmp 10,.tmp 11,.tmp 12]) (vs:=[_,_,_]) rfl (by simp) (.tmp (.tmp (.tmp .nil)))) (by simp only [yq];exact d3) ⟨hB2,?_⟩
    have p1:∀ b:Act,b.tmps.getD 10 undef=b.eval (.tmp 10):=fun _=>rfl
    have p2:∀ b:Act,b.tmps.getD 11 undef=b.eval (.tmp 11):=fun _=>rfl
    have p3:∀ b:Act,b.tmps.getD 12 undef=b.eval (.tmp 12):=fun _=>rfl
    rw [p1,p2,p3]
    simp (disch:=exact Zq s3) only [ya,yb]
    simp [ycf,ht]
end Go.Proofs.YtdcaggoicdfehaaGreatDoor
