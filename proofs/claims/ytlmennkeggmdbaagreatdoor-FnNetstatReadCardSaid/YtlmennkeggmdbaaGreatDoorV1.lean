/- Part 1 of 34 of the proof of the tied card of FnNetstatRead. -/
import Derived.Test.YtlmennkeggmdbaaGreatDoorVz
import Derived.OrdersHeld
import Derived.Deep.RegionHeld3
import Derived.Laws.BitsLemmas
import Derived.RowKit
import Derived.Test.YtlmennkeggmdbaaGreatDoorV0
set_option linter.unusedVariables false
set_option linter.unusedSimpArgs false
namespace Go.Proofs.YtlmennkeggmdbaaGreatDoorW.PrintLast
section
variable {P:Program} {ops:Array Oper} {Q:Exit→Act→World→Prop} {md:Region.Mode} {S:World→Prop} {ds:List Nat}
def Region.QC (md:Region.Mode) (ops:Array Oper) (i:Nat):Nat→Nat→Bool
 | 0,_=>false
 | fuel+1,d=>match ops[d]? with
  | some o=>o.after.any fun e=>Region.binds md e && (e.on == i || Region.QC md ops i fuel e.on)
  | none=>false
def Region.ybK (md:Region.Mode) (ops:Array Oper) (listed:Array Bool):Bool:=
 (List.range ops.size).all fun j=>!listed.getD j false || match ops[j]? with
  | some o=>o.after.all fun e=>!Region.binds md e || listed.getD e.on false
  | none=>true
def Region.lastB (md:Region.Mode) (ops:Array Oper) (listed:Array Bool) (ds:List Nat) (i:Nat):Bool:=
 ds.all fun d=>listed.getD d true || Region.QC md ops i ops.size d
def J7 (md:Region.Mode) (ops:Array Oper) (listed:Array Bool):Prop:=
 ∀ j oj,ops[j]?=some oj→listed.getD j false=true→∀ e ∈ oj.after,Region.binds md e=true→listed.getD e.on false=true
theorem Region.closedB_spec {listed:Array Bool} (h:Region.ybK md ops listed=true):J7 md ops listed:=by
 intro j oj hj hl e he hb
 have hlt:j<ops.size:=(Array.getElem?_eq_some_iff.1 hj).1
 have h1:=List.all_eq_true.1 h j (List.mem_range.2 hlt)
 simp only [hl,hj,Bool.not_true,Bool.false_or] at h1
 have h2:=Array.all_eq_true_iff_forall_mem.1 h1 e he
 simpa [hb] using h2
theorem J7.set {listed:Array Bool} {i:Nat} (h:J7 md ops listed) (hi:i ∈ Region.ready md ops listed):J7 md ops (listed.setIfInBounds i true):=by
 obtain ⟨_,oi,hoi,hall⟩:=mem_ready.1 hi
 intro j oj hj hl e he hb
 by_cases hij:i=j
 · subst hij
   have:oj=oi:=Option.some.inj (hj.symm.trans hoi)
   subst this
   exact getD_set_true (hall e he hb)
 · rw [getD_set_ne false hij] at hl
   exact getD_set_true (h j oj hj hl e he hb)
theorem Region.ybW {listed:Array Bool} {i:Nat} (hc:J7 md ops listed):∀ (fuel d:Nat),Region.QC md ops i fuel d=true→listed.getD d false=true→listed.getD i false=true
 | 0,_,h,_=>by simp [Region.QC] at h
 | fuel+1,d,h,hl=>by
  unfold Region.QC at h
  cases ho:ops[d]? with
  | none=>rw [ho] at h;simp at h
  | some o=>
   rw [ho] at h
   obtain ⟨e,he,h1⟩:=Array.any_eq_true'.1 h
   simp only [Bool.and_eq_true,Bool.or_eq_true,beq_iff_eq] at h1
   have hle:=hc d o ho hl e he h1.1
   rcases h1.2 with h2|h2
   · rw [← h2];exact hle
   · exact Region.ybW hc fuel e.on h2 hle
theorem Region.ycC {listed:Array Bool} {i d fuel:Nat} (hc:J7 md ops listed) (hr:Region.QC md ops i fuel d=true) (hun:listed.getD i true=false):d ∉ Region.ready md ops listed:=by
 intro hd
 obtain ⟨_,o,ho,hall⟩:=mem_ready.1 hd
 have hi:listed.getD i false=true:=by
  cases fuel with
  | zero=>simp [Region.QC] at hr
  | succ n=>
   unfold Region.QC at hr
   rw [ho] at hr
   obtain ⟨e,he,h1⟩:=Array.any_eq_true'.1 hr
   simp only [Bool.and_eq_true,Bool.or_eq_true,beq_iff_eq] at h1
   have hle:=hall e he h1.1
   rcases h1.2 with h2|h2
   · rw [← h2];exact hle
   · exact Region.ybW hc n e.on h2 hle
 rcases Nat.lt_or_ge i listed.size with h'|h'
 · simp [h'] at hun hi
   rw [hun] at hi
   cases hi
 · simp [Array.getElem?_eq_none h'] at hun
def Yo (P:Program) (md:Region.Mode) (ops:Array Oper) (Q:Exit→Act→World→Prop) (S:World→Prop) (ds:List Nat):Nat→Array Bool→Act→World→Prop
 | 0,listed,a,w=>Region.ready md ops listed=[]∧Q .normal a w
 | fuel+1,listed,a,w=>
  (Region.ready md ops listed=[]→Q .normal a w) ∧
  ∀ i ∈ Region.ready md ops listed,wpOp P ops Q i (fun a' w'=>(i ∉ ds→S w→S w')∧Yo P md ops Q S ds fuel (listed.setIfInBounds i true) a' w') a w
theorem ybl:∀ (fuel:Nat) (listed:Array Bool) (a:Act) (w:World),Yo P md ops Q S ds fuel listed a w→wpAny P md ops Q fuel listed a w
 | 0,_,_,_,h=>h
 | fuel+1,_,_,_,h=>⟨h.1,fun i hi=>wpOp_mono (fun a' w' h'=>ybl fuel _ a' w' h'.2) (h.2 i hi)⟩
theorem ycD {i:Nat} {oi:Oper} {v:Value} (hi:ops[i]?=some oi) (hsel:∀ (j:Nat) (o:Oper) cs b,ops[j]?=some o→o.op≠.select cs b)
 (hQ:∀ c a w,Q (.panic c) (a.put oi.dst v) w→Q (.panic c) a w) (n:Nat) :
 ∀ (fuel:Nat) (listed:Array Bool) (a:Act) (w:World),
  (∀ j oj,ops[j]?=some oj→j≠i→listed.getD j true=false→(∀ e ∈ oj.after,Region.binds md e=true→e.on≠i)→oi.apart ops oj=true) →
  J7 md ops listed→(∀ d ∈ ds,listed.getD d true=false→Region.QC md ops i n d=true) →
  i ∈ Region.ready md ops listed→YieldsIf P ops S oi v a→S w →
  Yo P md ops Q S ds fuel (listed.setIfInBounds i true) (a.put oi.dst v) w→Yo P md ops Q S ds (fuel+1) listed a w:=by
 intro fuel
 induction fuel with
 | zero=>
  intro listed a w _ _ _ hr hy hS H
  refine ⟨fun h=>(by rw [h] at hr;cases hr),fun j hj=>?_⟩
  by_cases hji:j=i
  · subst hji;exact hy.wpOp hi hS ⟨fun _ h=>h,H⟩
  · have:=ready_mono hj hji
    rw [H.1] at this
    cases this
 | succ fuel ih=>
  intro listed a w hfree hc hd hr hy hS H
  refine ⟨fun h=>(by rw [h] at hr;cases hr),fun j hj=>?_⟩
  by_cases hji:j=i
  · subst hji;exact hy.wpOp hi hS ⟨fun _ h=>h,H⟩
  · have h1:=H.2 j (ready_mono hj hji)
    obtain ⟨hjun,oj,hoj,hall⟩:=mem_ready.1 hj
    have hiun:=(mem_ready.1 hr).1
    have hnot:∀ e ∈ oj.after,Region.binds md e=true→e.on≠i:=fun e he hb heq=>by
     have h1:=hall e he hb
     rw [heq] at h1
     rcases Nat.lt_or_ge i listed.size with h'|h'
     · simp [h'] at hiun h1;rw [hiun] at h1;cases h1
     · simp [Array.getElem?_eq_none h'] at h1
    have hjd:j ∉ ds:=fun hm=>Region.ycC hc (hd j hm hjun) hiun hj
    have h2:=wpOp_putIf hoj (hfree j oj hoj hji hjun hnot) (fun cs b=>hsel i oi cs b hi) (fun cs b=>hsel j oj cs b hoj) hQ hy h1
    have hfree':∀ k ok,ops[k]?=some ok→k≠i→(listed.setIfInBounds j true).getD k true=false →
     (∀ e ∈ ok.after,Region.binds md e=true→e.on≠i)→oi.apart ops ok=true:=fun k ok hk hki hun hno=>by
     refine hfree k ok hk hki ?_ hno
     by_cases hjk:j=k
     · subst hjk;exact hjun
     · rw [getD_set_ne true hjk] at hun;exact hun
    have hd':∀ d ∈ ds,(listed.setIfInBounds j true).getD d true=false→Region.QC md ops i n d=true:=fun d hm hun=>by
     refine hd d hm ?_
     by_cases hjk:j=d
     · subst hjk;exact hjun
     · rw [getD_set_ne true hjk] at hun;exact hun
    refine wpOp_mono (fun a' w' h3=>⟨h3.2.1,ih (listed.setIfInBounds j true) a' w' hfree' (hc.set hj) hd' (ready_mono hr (Ne.symm hji)) h3.1 (h3.2.1 hjd hS) ?_⟩) h2
    rw [Array.setIfInBounds_comm _ _ hji]
    exact h3.2.2
theorem ydM {i:Nat} {oi:Oper} {v:Value} (hi:ops[i]?=some oi) (hsel:∀ (j:Nat) (o:Oper) cs b,ops[j]?=some o→o.op≠.select cs b)
 (hQ:∀ c a w,Q (.panic c) (a.put oi.dst v) w→Q (.panic c) a w) :
 ∀ (fuel:Nat) (listed:Array Bool) (a:Act) (w:World),
  (∀ j oj,ops[j]?=some oj→j≠i→listed.getD j true=false→(∀ e ∈ oj.after,Region.binds md e=true→e.on≠i)→oi.apart ops oj=true) →
  i ∈ Region.ready md ops listed→Yields P ops oi v a →
  Yo P md ops Q S ds fuel (listed.setIfInBounds i true) (a.put oi.dst v) w→Yo P md ops Q S ds (fuel+1) listed a w:=by
 intro fuel
 induction fuel with
 | zero=>
  intro listed a w _ hr hy H
  refine ⟨fun h=>(by rw [h] at hr;cases hr),fun j hj=>?_⟩
  by_cases hji:j=i
  · subst hji;exact (hy.yieldsIf (S:=fun _=>True)).wpOp hi trivial ⟨fun _ h=>h,H⟩
  · have:=ready_mono hj hji
    rw [H.1] at this
    cases this
 | succ fuel ih=>
  intro listed a w hfree hr hy H
  refine ⟨fun h=>(by rw [h] at hr;cases hr),fun j hj=>?_⟩
  by_cases hji:j=i
  · subst hji;exact (hy.yieldsIf (S:=fun _=>True)).wpOp hi trivial ⟨fun _ h=>h,H⟩
  · have h1:=H.2 j (ready_mono hj hji)
    obtain ⟨hjun,oj,hoj,hall⟩:=mem_ready.1 hj
    have hiun:=(mem_ready.1 hr).1
    have hnot:∀ e ∈ oj.after,Region.binds md e=true→e.on≠i:=fun e he hb heq=>by
     have h1:=hall e he hb
     rw [heq] at h1
     rcases Nat.lt_or_ge i listed.size with h'|h'
     · simp [h'] at hiun h1;rw [hiun] at h1;cases h1
     · simp [Array.getElem?_eq_none h'] at h1
    have h2:=wpOp_put hoj (hfree j oj hoj hji hjun hnot) (fun cs b=>hsel i oi cs b hi) (fun cs b=>hsel j oj cs b hoj) hQ hy h1
    have hfree':∀ k ok,ops[k]?=some ok→k≠i→(listed.setIfInBounds j true).getD k true=false →
     (∀ e ∈ ok.after,Region.binds md e=true→e.on≠i)→oi.apart ops ok=true:=fun k ok hk hki hun hno=>by
     refine hfree k ok hk hki ?_ hno
     by_cases hjk:j=k
     · subst hjk;exact hjun
     · rw [getD_set_ne true hjk] at hun;exact hun
    refine wpOp_mono (fun a' w' h3=>⟨h3.2.1,ih (listed.setIfInBounds j true) a' w' hfree' (ready_mono hr (Ne.symm hji)) h3.1 ?_⟩) h2
    rw [Array.setIfInBounds_comm _ _ hji]
    exact h3.2.2
theorem ydy {i:Nat} {oi:Oper} {v:Value} {fuel:Nat} {listed:Array Bool} {a:Act} {w:World} (hi:ops[i]?=some oi)
 (hs:Region.noSelect ops=true) (hf:Region.free md ops listed i=true) (hr:(Region.ready md ops listed).contains i=true)
 (hc:Region.ybK md ops listed=true) (hl:Region.lastB md ops listed ds i=true)
 (hQ:∀ c a w,Q (.panic c) (a.put oi.dst v) w→Q (.panic c) a w) (hy:YieldsIf P ops S oi v a) (hS:S w)
 (h:Yo P md ops Q S ds fuel (listed.setIfInBounds i true) (a.put oi.dst v) w):Yo P md ops Q S ds (fuel+1) listed a w:=
 ycD hi (Region.noSelect_spec hs) hQ ops.size fuel listed a w (Region.free_spec hi hf) (Region.closedB_spec hc)
  (fun d hm hun=>by have:=List.all_eq_true.1 hl d hm;rw [hun] at this;simpa using this) (by simpa using hr) hy hS h
theorem ydL {rs:List Nat} {fuel:Nat} {listed:Array Bool} {a:Act} {w:World} (hr:Region.ready md ops listed=rs) (hne:rs≠[])
 (h:∀ i ∈ rs,wpOp P ops Q i (fun a' w'=>(i ∉ ds→S w→S w')∧Yo P md ops Q S ds fuel (listed.setIfInBounds i true) a' w') a w):Yo P md ops Q S ds (fuel+1) listed a w:=
 ⟨fun h0=>absurd (hr ▸ h0) hne,hr ▸ h⟩
theorem ydx {listed:Array Bool} {a:Act} {w:World} (hr:Region.ready md ops listed=[]) (h:Q .normal a w) :
 ∀ fuel,Yo P md ops Q S ds fuel listed a w
 | 0=>⟨hr,h⟩
 | _+1=>⟨fun _=>h,by rw [hr];simp⟩
theorem ydz {id:Nat} {a:Act} {w:World} (hm:P.follows .mixedOrders=true)
 (h:Yo P .any ops Q S ds ops.size (Array.replicate ops.size false) a { w with drawn:=w.drawn+1 }):(Code.region id ops true).wp P Q a w:=
 wp_region_any hm (ybl _ _ _ _ h)
end
section
variable {P:Program} {ops:Array Oper} {Q:Exit→Act→World→Prop} {md:Region.Mode} {S:World→Prop} {ds:List Nat}
def Jo (P:Program) (md:Region.Mode) (ops:Array Oper) (Q:Exit→Act→World→Prop) (S:World→Prop) (ds:List Nat) (fuel:Nat) (listed:Array Bool) (a:Act) (w:World) (rs:List Nat):Prop:=
 ∀ i ∈ rs,wpOp P ops Q i (fun a' w'=>(i ∉ ds→S w→S w')∧Yo P md ops Q S ds fuel (listed.setIfInBounds i true) a' w') a w
theorem Jo.nil {fuel:Nat} {listed:Array Bool} {a:Act} {w:World}:Jo P md ops Q S ds fuel listed a w []:=fun _ h=>by cases h
theorem Jo.cons {fuel:Nat} {listed:Array Bool} {a:Act} {w:World} {i:Nat} {o:Oper} {rs:List Nat} (ho:ops[i]?=some o) (hd:i ∉ ds)
 (h:∀ K':Act→World→Prop,Shut (∀ a w,S w→(S w→Yo P md ops Q S ds fuel (listed.setIfInBounds i true) a w)→K' a w)→if Region.wanted o (yielded ops a.tmps)=true then Oper.wp P o a w K' Q else K' (a.put o.dst undef) w)
 (hs:Jo P md ops Q S ds fuel listed a w rs):Jo P md ops Q S ds fuel listed a w (i::rs):=fun j hj=>by
 rcases List.mem_cons.1 hj with rfl|hj
 · exact wpOp_step ho (fun K' hK=>h K' (fun a w hS hW=>hK a w ⟨fun _ _=>hS,hW hS⟩))
 · exact hs j hj
theorem Jo.cons_last {fuel:Nat} {listed:Array Bool} {a:Act} {w:World} {i:Nat} {o:Oper} {rs:List Nat} (ho:ops[i]?=some o) (hd:i ∈ ds)
 (h:∀ K':Act→World→Prop,Shut (∀ a w,Yo P md ops Q S ds fuel (listed.setIfInBounds i true) a w→K' a w)→if Region.wanted o (yielded ops a.tmps)=true then Oper.wp P o a w K' Q else K' (a.put o.dst undef) w)
 (hs:Jo P md ops Q S ds fuel listed a w rs):Jo P md ops Q S ds fuel listed a w (i::rs):=fun j hj=>by
 rcases List.mem_cons.1 hj with rfl|hj
 · exact wpOp_step ho (fun K' hK=>h K' (fun a w hW=>hK a w ⟨fun hn=>absurd hd hn,hW⟩))
 · exact hs j hj
theorem QE {rs:List Nat} {fuel:Nat} {listed:Array Bool} {a:Act} {w:World} (hr:Region.ready md ops listed=rs) (hne:rs≠[])
 (h:Jo P md ops Q S ds fuel listed a w rs):Yo P md ops Q S ds (fuel+1) listed a w:=ydL hr hne h
theorem QQ {id n:Nat} {a:Act} {w:World} (l:Array Bool) (hm:P.follows .mixedOrders=true) (hn:ops.size=n) (hl:Array.replicate n false=l) (hS:S w.drew)
 (h:S w.drew→Yo P .any ops Q S ds n l a w.drew):(Code.region id ops true).wp P Q a w:=by
 subst hn
 subst hl
 exact ydz hm (h hS)
def takeB (md:Region.Mode) (ops:Array Oper) (ds:List Nat) (l l':Array Bool) (i:Nat):Bool:=
 Region.noSelect ops && Region.free md ops l i && (Region.ready md ops l).contains i && Region.ybK md ops l && Region.lastB md ops l ds i && (l.setIfInBounds i true == l')
theorem Q1 {i:Nat} {N:Option Tmp} {oi:Oper} {v:Value} {fuel:Nat} {l:Array Bool} {a:Act} {w:World} (l':Array Bool) (hi:ops[i]?=some oi) (hN:oi.dst=N) (hc:takeB md ops ds l l' i=true)
 (hQ:∀ c a w,Q (.panic c) (a.put oi.dst v) w→Q (.panic c) a w) (hy:YieldsIf P ops S oi v a) (hS:S w) {a':Act} (ha:a.put N v=a')
 (h:Yo P md ops Q S ds fuel l' a' w):Yo P md ops Q S ds (fuel+1) l a w:=by
 subst ha
 subst hN
 simp only [takeB,Bool.and_eq_true,beq_iff_eq] at hc
 obtain ⟨⟨⟨⟨⟨h1,h2⟩,h3⟩,h4⟩,h5⟩,h6⟩:=hc
 subst h6
 exact ydy hi h1 h2 h3 h4 h5 hQ hy hS h
def anyB (md:Region.Mode) (ops:Array Oper) (l l':Array Bool) (i:Nat):Bool:=
 Region.noSelect ops && Region.free md ops l i && (Region.ready md ops l).contains i && (l.setIfInBounds i true == l')
theorem Ya {i:Nat} {N:Option Tmp} {oi:Oper} {v:Value} {fuel:Nat} {l:Array Bool} {a:Act} {w:World} (l':Array Bool) (hi:ops[i]?=some oi) (hN:oi.dst=N) (hc:anyB md ops l l' i=true)
 (hQ:∀ c a w,Q (.panic c) (a.put oi.dst v) w→Q (.panic c) a w) (hy:Yields P ops oi v a) {a':Act} (ha:a.put N v=a')
 (h:Yo P md ops Q S ds fuel l' a' w):Yo P md ops Q S ds (fuel+1) l a w:=by
 subst ha
 subst hN
 simp only [anyB,Bool.and_eq_true,beq_iff_eq] at hc
 obtain ⟨⟨⟨h1,h2⟩,h3⟩,h6⟩:=hc
 subst h6
 exact ydM hi (Region.noSelect_spec h1) hQ fuel l a w (Region.free_spec hi h2) (by simpa using h3) hy h
def ycl (md:Region.Mode) (ops:Array Oper) (l l':Array Bool) (i:Nat):Bool:=(Region.ready md ops l == [i]) && (l.setIfInBounds i true == l')
theorem one_ {i:Nat} {N:Option Tmp} {oi:Oper} {fuel:Nat} {l:Array Bool} {a:Act} {w:World} (l':Array Bool) (hi:ops[i]?=some oi) (hN:oi.dst=N) (hc:ycl md ops l l' i=true) (hd:i ∉ ds)
 (h:∀ K:Act→World→Prop,Shut (∀ a' w',S w'→(S w'→Yo P md ops Q S ds fuel l' a' w')→K a' w')→if Region.wanted oi (yielded ops a.tmps)=true then Oper.wp P oi a w K Q else K (a.put N undef) w) :
 Yo P md ops Q S ds (fuel+1) l a w:=by
 subst hN
 simp only [ycl,Bool.and_eq_true,beq_iff_eq] at hc
 obtain ⟨h1,h2⟩:=hc
 subst h2
 exact QE h1 (by simp) (Jo.cons hi hd (fun K hK=>h K hK) Jo.nil)
theorem last_ {i:Nat} {N:Option Tmp} {oi:Oper} {fuel:Nat} {l:Array Bool} {a:Act} {w:World} (l':Array Bool) (hi:ops[i]?=some oi) (hN:oi.dst=N) (hc:ycl md ops l l' i=true) (hd:i ∈ ds)
 (h:∀ K:Act→World→Prop,Shut (∀ a' w',Yo P md ops Q S ds fuel l' a' w'→K a' w')→if Region.wanted oi (yielded ops a.tmps)=true then Oper.wp P oi a w K Q else K (a.put N undef) w) :
 Yo P md ops Q S ds (fuel+1) l a w:=by
 subst hN
 simp only [ycl,Bool.and_eq_true,beq_iff_eq] at hc
 obtain ⟨h1,h2⟩:=hc
 subst h2
 exact QE h1 (by simp) (Jo.cons_last hi hd (fun K hK=>h K hK) Jo.nil)
theorem done_ {l:Array Bool} {a:Act} {w:World} {n:Nat} (hr:(Region.ready md ops l == [])=true) (h:Q .normal a w):Yo P md ops Q S ds n l a w:=ydx (by simpa using hr) h n
theorem two_ {i j:Nat} {Ni Nj:Option Tmp} {oi oj:Oper} {fuel:Nat} {l:Array Bool} {a:Act} {w:World} (li lj:Array Bool) (hi:ops[i]?=some oi) (hj:ops[j]?=some oj) (hNi:oi.dst=Ni) (hNj:oj.dst=Nj)
 (hc:(Region.ready md ops l == [i,j] && l.setIfInBounds i true == li && l.setIfInBounds j true == lj)=true) (hdi:i ∉ ds) (hdj:j ∉ ds)
 (h1:∀ K:Act→World→Prop,Shut (∀ a' w',S w'→(S w'→Yo P md ops Q S ds fuel li a' w')→K a' w')→if Region.wanted oi (yielded ops a.tmps)=true then Oper.wp P oi a w K Q else K (a.put Ni undef) w)
 (h2:∀ K:Act→World→Prop,Shut (∀ a' w',S w'→(S w'→Yo P md ops Q S ds fuel lj a' w')→K a' w')→if Region.wanted oj (yielded ops a.tmps)=true then Oper.wp P oj a w K Q else K (a.put Nj undef) w) :
 Yo P md ops Q S ds (fuel+1) l a w:=by
 subst hNi
 subst hNj
 simp only [Bool.and_eq_true,beq_iff_eq] at hc
 obtain ⟨⟨h3,h4⟩,h5⟩:=hc
 subst h4
 subst h5
 exact QE h3 (by simp) (Jo.cons hi hdi (fun K hK=>h1 K hK) (Jo.cons hj hdj (fun K hK=>h2 K hK) Jo.nil))
def ybw:Act→List (Tmp × Value)→Act
 | a,[]=>a
 | a,(n,v)::r=>ybw (a.put (some n) v) r
theorem join_ {σ:Type} {fuel:Nat} {l:Array Bool} {a:Act} {w:World} (fuel':Nat) (l':Array Bool) (ns:σ→List (Tmp × Value)) (F:σ→World→Prop)
 (hcont:∀ s w',F s w'→Yo P md ops Q S ds fuel' l' (ybw a (ns s)) w')
 (h:(∀ s w',F s w'→Yo P md ops Q S ds fuel' l' (ybw a (ns s)) w')→Yo P md ops Q S ds fuel l a w):Yo P md ops Q S ds fuel l a w:=h hcont
theorem qV {fuel:Nat} {l:Array Bool} {a a':Act} {w:World} (ha:a=a') (h:Yo P md ops Q S ds fuel l a' w):Yo P md ops Q S ds fuel l a w:=by
 subst ha
 exact h
theorem call_ {oi:Oper} {N:Option Tmp} {a:Act} {w:World} {K:Act→World→Prop} (f:FuncId) (args:Array Value) (hw:Region.wanted oi (yielded ops a.tmps)=true) (hN:oi.dst=N) (hrun:(execOp a.eval oi).run P w=.ok (.enter f args) w)
 (h:Calls P f args w fun e w'=>∃ v,e=.returned v∧K (a.put N v) w'):if Region.wanted oi (yielded ops a.tmps)=true then Oper.wp P oi a w K Q else K (a.put N undef) w:=by
 rw [if_pos hw]
 subst hN
 unfold Oper.wp
 rw [hrun,Oper.upon_enter]
 refine h.mono fun e w'' hh=>?_
 obtain ⟨v,rfl,hk⟩:=hh
 exact hk
theorem QX {f:FuncId} {fn:Func} (hf:P.funcs[f]?=some fn) (hname:(fn.name == "runtime.NumGoroutine")=false) (hb:fn.body.isSome=true) (args:Array Value) (w:World):(callFunc f args).run P w=.ok (.enter f args) w:=by
 have h1:fn.name ≠ "runtime.NumGoroutine":=by simpa using hname
 obtain ⟨c,hc⟩:=Option.isSome_iff_exists.1 hb
 simp [callFunc,hf,h1,hc]
theorem goes_ {oi:Oper} {N:Option Tmp} {a:Act} {w:World} {K:Act→World→Prop} {f:FuncId} {fn:Func} {as:Array Operand} {ts:Array TypeId} (hf:P.funcs[f]?=some fn) (hname:(fn.name == "runtime.NumGoroutine")=false) (hb:fn.body.isSome=true) (args:Array Value)
 (hw:Region.wanted oi (yielded ops a.tmps)=true) (hN:oi.dst=N) (hop:oi.op=.call { callee:=.value (.func f),args:=as,argTypes:=ts }) (hargs:as.map a.eval=args)
 (h:Calls P f args w fun e w'=>∃ v,e=.returned v∧K (a.put N v) w'):if Region.wanted oi (yielded ops a.tmps)=true then Oper.wp P oi a w K Q else K (a.put N undef) w:=by
 refine call_ f args hw hN ?_ h
 have he:=QX hf hname hb args w
 unfold execOp
 simp [hop,resolve,Deferred.ofValue,invoke,Act.eval,hargs,he]
theorem YD {rest:List Oper} {oi:Oper} {a:Act} {w:World} (N:Option Tmp) (hd:oi.dst=N) (hg:oi.guard=none) {f:FuncId} {fn:Func} {as:Array Operand} {ts:Array TypeId} (hf:P.funcs[f]?=some fn) (hname:(fn.name == "runtime.NumGoroutine")=false) (hb:fn.body.isSome=true) (args:Array Value)
 (hop:oi.op=.call { callee:=.value (.func f),args:=as,argTypes:=ts }) (hargs:as.map a.eval=args)
 (h:Calls P f args w fun e w'=>∃ v,e=.returned v∧wpList P ops Q rest (a.put N v) w'):wpList P ops Q (oi::rest) a w:=by
 refine wpList_plain hg fun K hK=>?_
 have he:=QX hf hname hb args w
 have hrun:(execOp a.eval oi).run P w=.ok (.enter f args) w:=by
  unfold execOp
  simp [hop,resolve,Deferred.ofValue,invoke,Act.eval,hargs,he]
 unfold Oper.wp
 rw [hrun,Oper.upon_enter]
 refine h.mono fun e w'' hh=>?_
 obtain ⟨v,rfl,hk⟩:=hh
 subst hd
 exact hK _ _ hk
theorem QD {oi:Oper} {N:Option Tmp} {a:Act} {w w1:World} {v:Value} {K:Act→World→Prop} (hw:Region.wanted oi (yielded ops a.tmps)=true) (hN:oi.dst=N) (hrun:(execOp a.eval oi).run P w=.ok (.value v) w1)
 (h:K (a.put N v) w1):if Region.wanted oi (yielded ops a.tmps)=true then Oper.wp P oi a w K Q else K (a.put N undef) w:=by
 rw [if_pos hw]
 subst hN
 unfold Oper.wp
 rw [hrun]
 exact h
theorem skip_ {oi:Oper} {a:Act} {w w1:World} {K:Act→World→Prop} (hw:Region.wanted oi (yielded ops a.tmps)=true) (hN:oi.dst=none) (hrun:(execOp a.eval oi).run P w=.ok .skip w1)
 (h:K a w1):if Region.wanted oi (yielded ops a.tmps)=true then Oper.wp P oi a w K Q else K (a.put none undef) w:=by
 rw [if_pos hw]
 unfold Oper.wp
 rw [hrun]
 show K (a.put oi.dst undef) w1
 rw [hN]
 exact h
theorem yM (n:Int):IntKind.i64.wrap n=Go.RowKit.wrap64 n:=by unfold Go.RowKit.wrap64;exact IntKind.wrap_i64 n
theorem yP (n:Int):IntKind.i32.wrap n=Go.RowKit.wrap32 n:=by unfold Go.RowKit.wrap32;exact IntKind.wrap_i32 n
end
end Go.Proofs.YtlmennkeggmdbaaGreatDoorW.PrintLast
namespace Go.Proofs.YtlmennkeggmdbaaGreatDoorW.PrintLast
open Go.Proofs.YtlmennkeggmdbaaGreatDoorW.PrintWords (yc)
def ya2 (md:Region.Mode) (o:Oper):List Nat:=(o.after.toList.filter (fun e=>Region.binds md e)).map (fun e=>e.on)
def clashOf (md:Region.Mode) (ops:Array Oper) (i:Nat) (oi:Oper):List Nat:=(List.range ops.size).filter fun j=>!(j == i) && match ops[j]? with
 | some oj=>!(oj.after.any (fun e=>Region.binds md e && e.on == i) || oi.apart ops oj)
 | none=>false
def JM (md:Region.Mode) (ops:Array Oper):Bool × List (List Nat × List Nat):=(Region.noSelect ops,(List.range ops.size).map fun i=>match ops[i]? with
 | some o=>(ya2 md o,clashOf md ops i o)
 | none=>([],[]))
def Qn (T:List (List Nat × List Nat)) (l:List Bool) (i:Nat):Bool:=!l.getD i true && match T[i]? with
 | some r=>r.1.all (fun j=>l.getD j false)
 | none=>false
def yaT (T:List (List Nat × List Nat)) (l:List Bool):List Nat:=(List.range T.length).filter (Qn T l)
def freeT (T:List (List Nat × List Nat)) (l:List Bool) (i:Nat):Bool:=match T[i]? with
 | some r=>r.2.all (fun j=>l.getD j true)
 | none=>false
def ycI (T:List (List Nat × List Nat)) (l:List Bool):Bool:=(List.range T.length).all fun j=>!l.getD j false || match T[j]? with
 | some r=>r.1.all (fun k=>l.getD k false)
 | none=>true
def yck (T:List (List Nat × List Nat)) (i:Nat):Nat→Nat→Bool
 | 0,_=>false
 | fuel+1,d=>match T[d]? with
  | some r=>r.1.any fun j=>j == i || yck T i fuel j
  | none=>false
def lastT (T:List (List Nat × List Nat)) (l:List Bool) (ds:List Nat) (i:Nat):Bool:=ds.all fun d=>l.getD d true || yck T i T.length d
section
variable {md:Region.Mode} {ops:Array Oper} {T:Bool × List (List Nat × List Nat)} {l l' li lj lk:Array Bool} {ds:List Nat} {i j k:Nat}
theorem gd (l:Array Bool) (j:Nat) (b:Bool):l.getD j b=l.toList.getD j b:=by simp [Array.getD_eq_getD_getElem?,List.getD_eq_getElem?_getD]
theorem needs_all (o:Oper) (p:Nat→Bool):o.after.all (fun e=>!Region.binds md e || p e.on)=(ya2 md o).all p:=by
 unfold ya2
 rw [← Array.all_toList]
 induction o.after.toList with
 | nil=>rfl
 | cons e r ih=>
  rw [List.all_cons,ih,List.filter_cons]
  cases h:Region.binds md e <;> simp
theorem needs_any (o:Oper) (p:Nat→Bool):o.after.any (fun e=>Region.binds md e && p e.on)=(ya2 md o).any p:=by
 unfold ya2
 rw [← Array.any_toList]
 induction o.after.toList with
 | nil=>rfl
 | cons e r ih=>
  rw [List.any_cons,ih,List.filter_cons]
  cases h:Region.binds md e <;> simp
theorem QZ:(JM md ops).2.length=ops.size:=by simp [JM]
theorem ya6 {o:Oper} (h:ops[i]?=some o):(JM md ops).2[i]?=some (ya2 md o,clashOf md ops i o):=by
 have hi:=(Array.getElem?_eq_some_iff.1 h).1
 unfold JM
 rw [List.getElem?_map,List.getElem?_range hi,Option.map_some,h]
theorem ya5 (h:ops[i]?=none):(JM md ops).2[i]?=none:=by
 have hi:ops.size≤i:=Array.getElem?_eq_none_iff.1 h
 exact List.getElem?_eq_none (by rw [QZ];exact hi)
theorem readyAt_eq:Qn (JM md ops).2 l.toList i=(!l.getD i true && ((ops[i]?).map (·.after.all fun e=>!Region.binds md e || l.getD e.on false)).getD false):=by
 unfold Qn
 rw [gd]
 cases h:ops[i]? with
 | none=>rw [ya5 h];rfl
 | some o=>
  rw [ya6 h]
  simp only [Option.map_some,Option.getD_some]
  rw [← needs_all]
  simp only [gd]
theorem yak:Region.ready md ops l=yaT (JM md ops).2 l.toList:=by
 unfold Region.ready yaT
 rw [QZ]
 refine List.filter_congr (fun i _=>?_)
 rw [readyAt_eq]
theorem free_eq:Region.free md ops l i=freeT (JM md ops).2 l.toList i:=by
 unfold Region.free freeT
 cases h:ops[i]? with
 | none=>rw [ya5 h]
 | some oi=>
  rw [ya6 h]
  simp only [clashOf]
  rw [List.all_filter]
  congr 1
  funext j
  rw [gd]
  cases hj:ops[j]? with
  | none=>cases (j == i) <;> cases (l.toList.getD j true) <;> simp
  | some oj=>
   cases (j == i) <;> cases (l.toList.getD j true) <;> cases (oj.after.any (fun e=>Region.binds md e && e.on == i) || oi.apart ops oj) <;> simp_all
theorem closed_eq:Region.ybK md ops l=ycI (JM md ops).2 l.toList:=by
 unfold Region.ybK ycI
 rw [QZ]
 congr 1
 funext j
 rw [gd]
 cases h:ops[j]? with
 | none=>rw [ya5 h]
 | some o=>
  rw [ya6 h]
  simp only
  rw [← needs_all]
  simp only [gd]
theorem reach_eq:∀ (fuel d:Nat),Region.QC md ops i fuel d=yck (JM md ops).2 i fuel d
 | 0,_=>rfl
 | fuel+1,d=>by
  unfold Region.QC yck
  cases h:ops[d]? with
  | none=>rw [ya5 h]
  | some o=>
   rw [ya6 h]
   simp only
   rw [← needs_any]
   congr 1
   funext e
   rw [reach_eq fuel]
theorem last_eq:Region.lastB md ops l ds i=lastT (JM md ops).2 l.toList ds i:=by
 unfold Region.lastB lastT
 rw [QZ]
 congr 1
 funext d
 rw [gd,reach_eq]
theorem ycz (h:Qn T.2 l.toList i=true) (hT:JM md ops=T):(Region.ready md ops l).contains i=true:=by
 subst hT
 rw [yak]
 unfold yaT
 rw [List.contains_iff_mem,List.mem_filter,List.mem_range]
 refine ⟨?_,h⟩
 unfold Qn at h
 rw [Bool.and_eq_true] at h
 cases hq:(JM md ops).2[i]? with
 | none=>rw [hq] at h;simp at h
 | some r=>exact (List.getElem?_eq_some_iff.1 hq).1
theorem set_of (h:(l.toList.set i true == l'.toList)=true):(l.setIfInBounds i true == l')=true:=by
 rw [beq_iff_eq] at h ⊢
 apply Array.ext'
 rw [Array.toList_setIfInBounds]
 exact h
def anyT (T:Bool × List (List Nat × List Nat)) (l l':List Bool) (i:Nat):Bool:=T.1 && freeT T.2 l i && Qn T.2 l i && (l.set i true == l')
theorem yN (hT:JM md ops=T) (h:anyT T l.toList l'.toList i=true):anyB md ops l l' i=true:=by
 simp only [anyT,Bool.and_eq_true] at h
 obtain ⟨⟨⟨h1,h2⟩,h3⟩,h4⟩:=h
 have h5:=ycz h3 hT
 have h6:=set_of h4
 subst hT
 simp only [anyB,Bool.and_eq_true]
 exact ⟨⟨⟨h1,by rw [free_eq];exact h2⟩,h5⟩,h6⟩
def takeT (T:Bool × List (List Nat × List Nat)) (ds:List Nat) (l l':List Bool) (i:Nat):Bool:=T.1 && freeT T.2 l i && Qn T.2 l i && ycI T.2 l && lastT T.2 l ds i && (l.set i true == l')
theorem take_of (hT:JM md ops=T) (h:takeT T ds l.toList l'.toList i=true):takeB md ops ds l l' i=true:=by
 simp only [takeT,Bool.and_eq_true] at h
 obtain ⟨⟨⟨⟨⟨h1,h2⟩,h3⟩,h4⟩,h5⟩,h6⟩:=h
 have h7:=ycz h3 hT
 have h8:=set_of h6
 subst hT
 simp only [takeB,Bool.and_eq_true]
 exact ⟨⟨⟨⟨⟨h1,by rw [free_eq];exact h2⟩,h7⟩,by rw [closed_eq];exact h4⟩,by rw [last_eq];exact h5⟩,h8⟩
theorem Qk (hT:JM md ops=T) (h:(yaT T.2 l.toList == [i] && l.toList.set i true == l'.toList)=true):ycl md ops l l' i=true:=by
 simp only [Bool.and_eq_true] at h
 obtain ⟨h1,h2⟩:=h
 subst hT
 simp only [ycl,Bool.and_eq_true]
 exact ⟨by rw [yak];exact h1,set_of h2⟩
theorem two_of (hT:JM md ops=T) (h:(yaT T.2 l.toList == [i,j] && l.toList.set i true == li.toList && l.toList.set j true == lj.toList)=true):(Region.ready md ops l == [i,j] && l.setIfInBounds i true == li && l.setIfInBounds j true == lj)=true:=by
 simp only [Bool.and_eq_true] at h ⊢
 obtain ⟨⟨h1,h2⟩,h3⟩:=h
 subst hT
 exact ⟨⟨by rw [yak];exact h1,set_of h2⟩,set_of h3⟩
theorem QW (hT:JM md ops=T) (h:(yaT T.2 l.toList == [])=true):(Region.ready md ops l == [])=true:=by
 subst hT
 rw [yak]
 exact h
def upM (B:List Nat) (d:Nat):List Nat→Nat
 | []=>0
 | n::r=>(2 ^ n ||| (if n<d then B.getD n 0 else 0)) ||| upM B d r
def qd (T:List (List Nat × List Nat)) (B:List Nat):Bool:=(List.range T.length).all fun d=>match T[d]? with
 | some r=>(B.getD d 0 ||| upM B d r.1) == upM B d r.1
 | none=>false
theorem yaE {B:List Nat} {d i:Nat}:∀ {ns:List Nat},(upM B d ns).testBit i=true→∃ n ∈ ns,n=i∨(n<d∧(B.getD n 0).testBit i=true)
 | [],h=>by simp [upM] at h
 | n::r,h=>by
  unfold upM at h
  rw [Nat.testBit_or,Nat.testBit_or,Bool.or_eq_true,Bool.or_eq_true] at h
  rcases h with (h|h)|h
  · rw [Nat.testBit_two_pow] at h
    exact ⟨n,List.mem_cons_self,.inl (by simpa using h)⟩
  · by_cases hn:n<d
    · rw [if_pos hn] at h
      exact ⟨n,List.mem_cons_self,.inr ⟨hn,h⟩⟩
    · rw [if_neg hn] at h
      simp at h
  · obtain ⟨m,hm,h2⟩:=yaE h
    exact ⟨m,List.mem_cons_of_mem _ hm,h2⟩
theorem reach_bit {T:List (List Nat × List Nat)} {B:List Nat} (hB:qd T B=true):∀ (fuel d:Nat),d<fuel→d<T.length→(B.getD d 0).testBit i=true→yck T i fuel d=true
 | 0,d,h,_,_=>by omega
 | fuel+1,d,h,hd,hb=>by
  have h1:=List.all_eq_true.1 hB d (List.mem_range.2 hd)
  cases hr:T[d]? with
  | none=>rw [hr] at h1;simp at h1
  | some r=>
   rw [hr] at h1
   simp only [beq_iff_eq] at h1
   have h2:(upM B d r.1).testBit i=true:=by rw [← h1,Nat.testBit_or,hb,Bool.true_or]
   obtain ⟨n,hn,h3⟩:=yaE h2
   unfold yck
   rw [hr]
   simp only
   rw [List.any_eq_true]
   refine ⟨n,hn,?_⟩
   rcases h3 with rfl|⟨h4,h5⟩
   · simp
   · rw [reach_bit hB fuel n Zo Zo h5,Bool.or_true]
def lastW (T:List (List Nat × List Nat)) (B:List Nat) (l:List Bool) (ds:List Nat) (i:Nat):Bool:=ds.all fun d=>l.getD d true || (decide (d<T.length) && (B.getD d 0).testBit i)
def takeW (T:Bool × List (List Nat × List Nat)) (B:List Nat) (ds:List Nat) (l l':List Bool) (i:Nat):Bool:=T.1 && freeT T.2 l i && Qn T.2 l i && ycI T.2 l && lastW T.2 B l ds i && (l.set i true == l')
theorem qq {B:List Nat} (hT:JM md ops=T) (hB:qd T.2 B=true) (h:takeW T B ds l.toList l'.toList i=true):takeB md ops ds l l' i=true:=by
 refine take_of hT ?_
 simp only [takeW,takeT,Bool.and_eq_true] at h ⊢
 obtain ⟨⟨⟨⟨⟨h1,h2⟩,h3⟩,h4⟩,h5⟩,h6⟩:=h
 refine ⟨⟨⟨⟨⟨h1,h2⟩,h3⟩,h4⟩,?_⟩,h6⟩
 unfold lastW at h5
 unfold lastT
 rw [List.all_eq_true] at h5 ⊢
 intro d hd
 have h7:=h5 d hd
 rw [Bool.or_eq_true,Bool.and_eq_true,decide_eq_true_eq] at h7
 rcases h7 with h7|⟨h8,h9⟩
 · rw [h7,Bool.true_or]
 · rw [reach_bit hB _ d h8 h8 h9,Bool.or_true]
theorem qP {P:Program} {Q:Exit→Act→World→Prop} {S:World→Prop} {n:Nat} {a:Act} {w:World} {B:List Nat} (hT:JM md ops=T) (hB:qd T.2 B=true) (h:yc (JM md ops=T)→yc (qd T.2 B=true)→Yo P md ops Q S ds n l a w):Yo P md ops Q S ds n l a w:=h ⟨hT⟩ ⟨hB⟩
end
def ybh:Code→Nat→Option (Array Oper)
 | .region id ops _,k=>if id == k then some ops else none
 | .seq a b,k=>match ybh a k with
  | some o=>some o
  | none=>ybh b k
 | .cond _ a b,k=>match ybh a k with
  | some o=>some o
  | none=>ybh b k
 | .block _ c,k=>ybh c k
 | .loop c,k=>ybh c k
 | .scope c,k=>ybh c k
 | .rangeFunc _ _ a b,k=>match ybh a k with
  | some o=>some o
  | none=>ybh b k
 | _,_=>none
def opsOf (f:Func) (k:Nat):Array Oper:=((f.body.bind fun c=>ybh c k)).getD #[]
end Go.Proofs.YtlmennkeggmdbaaGreatDoorW.PrintLast


namespace Go.Proofs.YtlmennkeggmdbaaGreatDoorW.PrintWords
open Go.RowKit
namespace Kd
def tag {α:Type} (f:Nat→Nat) (d:Kd α):Kd (α × Nat) where
 sz:=d.sz
 E:=d.E
 K:=fun w x cs=>d.K w x.1 cs
 M:=fun w base ok x cs=>d.M w base (fun k=>ok k∧f k=x.2) x.1 cs
 qx:=fun h=>d.qx h
 qN:=fun h=>d.qN h
 JD:=fun hb h=>d.JD hb h
 JJ:=fun h=>d.JJ h
 Jq:=fun hok h=>d.Jq (fun k hk=>⟨hok k hk.1,hk.2⟩) h
 Jr:=fun h=>d.Jq (fun _ hk=>⟨⟨hk.1.1,hk.2⟩,hk.1.2⟩) (d.Jr h)
 qg:=fun hm h=>d.qg (fun k hk=>hm k hk.1) h
 JU:=fun hb h=>d.JU hb h
def raw (sz:Nat):Kd (List Value) where
 sz:=sz
 E:=[]
 K:=fun _ x cs=>cs=x∧cs.length=sz∧∀ u ∈ cs,u.oneCell'=true
 M:=fun _ _ _ x cs=>cs=x∧cs.length=sz∧∀ u ∈ cs,u.oneCell'=true
 qx:=fun h=>h.2.1
 qN:=fun h=>h.2.2
 JD:=fun _ h=>h
 JJ:=fun h=>h
 Jq:=fun _ h=>h
 Jr:=fun h=>h
 qg:=fun _ h=>h
 JU:=fun _ h=>h
def S {α:Type} (d:Kd α) (e:Nat) (w:World) (base:Nat) (ok:Nat→Prop) (v:Value) (xs:List α):Prop:=∃ f,(tag f d).R e w base ok v xs.zipIdx
section
variable {α β:Type} {d:Kd α} {d':Kd β} {e e':Nat} {w w1 W:World} {base b:Nat} {ok ok' okv oku:Nat→Prop} {u v:Value} {xs:List α} {ys:List β}
theorem R_head {ad:Addr} {n cap:Nat} (h:d.R e w base ok (.slice (some ad) n cap) xs):∃ g,ad=⟨g,0,none⟩:=by
 obtain ⟨_,inner,ho,hr⟩:=h
 rcases ho.2 with ⟨hv,_⟩|⟨g,cap',cur,hv,_⟩
 · cases hv
 · injection hv with ha _ _
   injection ha with ha
   exact ⟨g,ha⟩
theorem R_tight (hE:d.E=[]) (h:d.R e w base ok v xs):d.R e w base (fun k=>some k=v.ownBlock) v xs:=by
 obtain ⟨h0,inner,ho,hr⟩:=h
 refine ⟨fun k hk=>hk.symm,inner,ho,hr.imp_ (fun p c hp=>d.Jq (fun k hk=>?_) (d.Jr hp))⟩
 obtain ⟨_,_,_,q,hq,_⟩:=hk
 rw [hE] at hq
 cases hq
theorem yah (d:Kd α) (e:Nat) (w:World) (base:Nat) (ok:Nat→Prop):S d e w base ok (.slice none 0 0) []:=⟨fun _=>0,qm _ _ _ _ _⟩
end
def gap {α:Type} (f:Nat→Nat) (d:Kd α) (i:Nat) (c:List Value):Kd (α × Nat) where
 sz:=d.sz
 E:=d.E
 K:=fun w x cs=>(x.2=i→cs=c∧cs.length=d.sz∧∀ u ∈ cs,u.oneCell'=true)∧(x.2≠i→d.K w x.1 cs)
 M:=fun w base ok x cs=>(x.2=i→cs=c∧cs.length=d.sz∧∀ u ∈ cs,u.oneCell'=true)∧(x.2≠i→d.M w base (fun k=>ok k∧f k=x.2) x.1 cs)
 qx:=fun {w x cs} h=>by
  by_cases hx:x.2=i
  · exact (h.1 hx).2.1
  · exact d.qx (h.2 hx)
 qN:=fun {w x cs} h=>by
  by_cases hx:x.2=i
  · exact (h.1 hx).2.2
  · exact d.qN (h.2 hx)
 JD:=fun hb h=>⟨h.1,fun hx=>d.JD hb (h.2 hx)⟩
 JJ:=fun h=>⟨h.1,fun hx=>d.JJ (h.2 hx)⟩
 Jq:=fun hok h=>⟨h.1,fun hx=>d.Jq (fun k hk=>⟨hok k hk.1,hk.2⟩) (h.2 hx)⟩
 Jr:=fun h=>⟨h.1,fun hx=>d.Jq (fun _ hk=>⟨⟨hk.1.1,hk.2⟩,hk.1.2⟩) (d.Jr (h.2 hx))⟩
 qg:=fun hm h=>⟨h.1,fun hx=>d.qg (fun k hk=>hm k hk.1) (h.2 hx)⟩
 JU:=fun hb h=>⟨h.1,fun hx=>d.JU hb (h.2 hx)⟩
def H {α:Type} (d:Kd α) (e:Nat) (w:World) (base:Nat) (ok:Nat→Prop) (v:Value) (xs:List α) (i:Int) (oki:Nat→Prop) (c:List Value):Prop:=
 (∀ k,oki k→ok k)∧∃ f,(gap f d i.toNat c).R e w base (fun k=>ok k∧¬ oki k) v xs.zipIdx
end Kd
end Go.Proofs.YtlmennkeggmdbaaGreatDoorW.PrintWords


namespace Go.Proofs.YtlmennkeggmdbaaGreatDoorW.PrintWords
open Go.RowKit
namespace Kd
structure Heap {α:Type} (d:Kd α):Prop where
 K:∀ {w w1:World} {x:α} {cs:List Value},(∀ k,k<w.heap.size→w1.heap[k]?=w.heap[k]?)→d.K w x cs→d.K w1 x cs
theorem cell_heap {w w1:World} (hb:∀ k,k<w.heap.size→w1.heap[k]?=w.heap[k]?) {a:Addr} {v:Value} (h:w.cell? a=some v):w1.cell? a=some v:=by
 have:=hb a.block (World.block_lt_of_cell? w a h)
 simpa [World.cell?,this] using h
theorem Heap.C {α:Type} {d:Kd α} (hd:Heap d) {w w1:World} {A:Option Addr} {n:Nat} {xs:List α} (hb:∀ k,k<w.heap.size→w1.heap[k]?=w.heap[k]?) (h:d.C w A n xs):d.C w1 A n xs:=
 ⟨h.1,h.2.1,fun hn=>by
  obtain ⟨ad,e,hc⟩:=h.2.2 hn
  refine ⟨ad,e,fun j p hj=>?_⟩
  obtain ⟨c,hs,hr,hcell⟩:=hc j p hj
  exact ⟨c,hs,hd.K hb hr,fun i u hu=>cell_heap hb (hcell i u hu)⟩⟩
end Kd
end Go.Proofs.YtlmennkeggmdbaaGreatDoorW.PrintWords
namespace Go.Proofs.YtlmennkeggmdbaaGreatDoorW.PrintWords
open Go.RowKit
def Kept (w W:World) (S:Nat→Prop):Prop:=w.heap.size≤W.heap.size∧∀ i,i<w.heap.size→¬ S i→W.heap[i]?=w.heap[i]?
section
variable {w W W2:World} {S S2 S':Nat→Prop}
theorem Kept.of_below (h:Below w.heap.size w W) (S:Nat→Prop):Kept w W S:=⟨h.size,fun i hi _=>h.block i hi⟩
theorem Kept.mono (h:Kept w W S) (hs:∀ k,S k→S' k):Kept w W S':=⟨h.1,fun i hi hn=>h.2 i hi (fun hk=>hn (hs i hk))⟩
theorem Kept.then_ (h:Kept w W S) (k:Kept W W2 S2) (hs:∀ k,S2 k→S k∨w.heap.size≤k):Kept w W2 S:=
 ⟨Nat.le_trans h.1 k.1,fun i hi hn=>(k.2 i (Nat.lt_of_lt_of_le hi h.1) (fun h2=>(hs i h2).elim hn (fun h3=>by omega))).trans (h.2 i hi hn)⟩
theorem Kept.below (h:Kept w W S) (hb:Below W.heap.size W W2):Kept w W2 S:=h.then_ (Kept.of_below hb (fun _=>False)) (fun _ hk=>hk.elim)
theorem Kept.alloc (h:Kept w W S) (o:Obj):Kept w (W.alloc o) S:=h.below (yl (Below.refl _ _) o)
theorem Kept.drew (h:Kept w W S):Kept w W.drew S:=h
theorem Kept.setCell (h:Kept w W S) {p:Addr} (hp:S p.block∨w.heap.size≤p.block) (u:Value):Kept w (W.setCell p u) S:=
 h.then_ (S2:=fun k=>k=p.block) ⟨by simp [World.setCell],fun i _ hn=>Below.heap_setCell W p u i hn⟩ (fun k hk=>by rw [hk];exact hp)
end
end Go.Proofs.YtlmennkeggmdbaaGreatDoorW.PrintWords
