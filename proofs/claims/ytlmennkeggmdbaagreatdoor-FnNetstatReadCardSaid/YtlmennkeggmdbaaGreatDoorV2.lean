/- Part 2 of 34 of the proof of the tied card of FnNetstatRead. -/
import Derived.Test.YtlmennkeggmdbaaGreatDoorVz
import Derived.Test.YtlmennkeggmdbaaGreatDoorV1
import Derived.Test.YtlmennkeggmdbaaGreatDoorV0
import Derived.Laws.StructEq
set_option linter.unusedVariables false
set_option linter.unusedSimpArgs false
namespace Go.Proofs.YtlmennkeggmdbaaGreatDoorW.PrintWords
open Go.RowKit
def Qw (P:World→Prop) (W:World) (ok:Nat→Prop):Prop:=∀ W':World,(∀ k,ok k→k<W.heap.size→W'.heap[k]?=W.heap[k]?)→P W'
theorem heap_lt {W W1:World} {k:Nat} (h:W1.heap[k]?=W.heap[k]?) (hlt:k<W.heap.size):k<W1.heap.size:=by
 rw [Array.getElem?_eq_getElem hlt] at h
 exact (Array.getElem?_eq_some_iff.1 h).1
namespace Qw
variable {P Q:World→Prop} {W W1:World} {ok ok':Nat→Prop}
theorem now (h:Qw P W ok):P W:=h W (fun _ _ _=>rfl)
theorem mono (h:Qw P W ok) (hok:∀ k,ok k→ok' k):Qw P W ok':=fun W' hW=>h W' (fun k hk hlt=>hW k (hok k hk) hlt)
theorem bound (h:Qw P W ok):Qw P W (fun k=>ok k∧k<W.heap.size):=fun W' hW=>h W' (fun k hk hlt=>hW k ⟨hk,hlt⟩ hlt)
theorem step (h:Qw P W ok) (hm:∀ k,ok k→k<W.heap.size→W1.heap[k]?=W.heap[k]?):Qw P W1 ok:=fun W' hW=>h W' (fun k hk hlt=>(hW k hk (heap_lt (hm k hk hlt) hlt)).trans (hm k hk hlt))
theorem imp (h:Qw P W ok) (hi:∀ W',P W'→Q W'):Qw Q W ok:=fun W' hW=>hi W' (h W' hW)
theorem old (h:Qw P W ok) (hb:Below W.heap.size W W1):Qw P W1 (fun k=>ok k∧k<W.heap.size):=(h.bound).step (fun k _ hlt=>hb.block k hlt)
end Qw
namespace Kd
def F {α:Type} (d:Kd α) (W:World) (ok:Nat→Prop) (A:Option Addr) (n:Nat) (xs:List α):Prop:=Qw (fun W=>d.C W A n xs) W ok
def FK {α:Type} (d:Kd α) (W:World) (ok:Nat→Prop) (x:α) (c:List Value):Prop:=Qw (fun W=>d.K W x c) W ok
section
variable {α β:Type} {d:Kd α} {e base n n' cc g N:Nat} {ok ok' okp S:Nat→Prop} {w w0 w1 W W1:World} {A A':Option Addr} {u v v1:Value} {xs:List α} {xs':List β} {d':Kd β} {x:α} {c:List Value}
theorem F_now (h:F d W ok A n xs):d.C W A n xs:=Qw.now h
theorem F_mono (h:F d W ok A n xs) (hok:∀ k,ok k→ok' k):F d W ok' A n xs:=Qw.mono h hok
theorem F_bound (h:F d W ok A n xs):F d W (fun k=>ok k∧k<W.heap.size) A n xs:=Qw.bound h
theorem F_step (h:F d W ok A n xs) (hm:∀ k,ok k→k<W.heap.size→W1.heap[k]?=W.heap[k]?):F d W1 ok A n xs:=Qw.step h hm
theorem F_imp (h:F d W ok A n xs) (hi:∀ W',d.C W' A n xs→d'.C W' A' n' xs'):F d' W ok A' n' xs':=Qw.imp h hi
theorem ycF (h:F d W ok A n xs) (hb:Below W.heap.size W W1):F d W1 ok A n xs:=F_step h (fun k _ hlt=>hb.block k hlt)
theorem F_alloc (h:F d W ok A n xs) (o:Obj):F d (W.alloc o) ok A n xs:=ycF h (yl (Below.refl _ _) o)
theorem F_drew (h:F d W ok A n xs):F d W.drew ok A n xs:=ycF h (Qf (Below.refl _ _))
theorem F_drewN (h:F d W ok A n xs) (m:Nat):F d (W.drewN m) ok A n xs:=ycF h (ym (Below.refl _ _) m)
theorem F_far (h:F d W ok A n xs) {p:Addr} (hok:∀ k,ok k→k≠p.block) (u:Value):F d (W.setCell p u) ok A n xs:=F_step h (fun k hk _=>Below.heap_setCell W p u k (hok k hk))
theorem F_nil (d:Kd α) (W:World) (ok:Nat→Prop):F d W ok none ([]:List α).length []:=fun W' _=>C_nil d W'
theorem F_elderB (h:F d W ok A n xs) (a:Nat) (ha:W.heap.size≤a):F d W (fun k=>ok k∧k≠a) A n xs:=F_mono (F_bound h) (fun k hk=>⟨hk.1,by have:=hk.2;omega⟩)
theorem F_after (h:F d W (fun k=>ok k∧some k≠v.ownBlock) A n xs) (hg:W.grownBy W1 v.ownBlock) (hat:v1.ownBlock=v.ownBlock∨∃ b,v1.ownBlock=some b∧W.heap.size≤b):F d W1 (fun k=>ok k∧some k≠v1.ownBlock) A n xs:=by
 refine F_mono (Qw.step (F_bound h) (fun k hk hlt=>hg.block k hlt hk.1.2)) (fun k hk=>⟨hk.1.1,?_⟩)
 rcases hat with hat|⟨b,hb,hle⟩
 · rw [hat];exact hk.1.2
 · rw [hb]
   intro he
   injection he with he
   have:=hk.2
   omega
theorem R_F (h:d.R e W base ok (.slice A n cc) xs):F d W ok A n xs:=fun W' hW=>by
 have h2:=YK (qn h hW)
 rw [h2.1]
 exact h2.2.2
theorem FK_now (h:FK d W ok x c):d.K W x c:=Qw.now h
theorem ycE (h:FK d W ok x c) (hok:∀ k,ok k→ok' k):FK d W ok' x c:=Qw.mono h hok
theorem ycR (h:FK d W ok x c):FK d W (fun k=>ok k∧k<W.heap.size) x c:=Qw.bound h
theorem FK_step (h:FK d W ok x c) (hm:∀ k,ok k→k<W.heap.size→W1.heap[k]?=W.heap[k]?):FK d W1 ok x c:=Qw.step h hm
theorem FK_of_M (h:d.M W base ok x c):FK d W ok x c:=fun _ hW=>d.JJ (M_step h hW)
end
end Kd
end Go.Proofs.YtlmennkeggmdbaaGreatDoorW.PrintWords
namespace Go.Proofs.YtlmennkeggmdbaaGreatDoorW.PrintWords
open Go.RowKit
namespace Kd
def chunks (sz:Nat) (n:Nat) (inner:List Value):List (List Value):=(List.range n).map fun j=>(inner.drop (j * sz)).take sz
theorem JL (sz n:Nat) (inner:List Value):(chunks sz n inner).length=n:=by simp [chunks]
theorem chunks_at {sz n:Nat} {inner:List Value} {j:Nat} (hj:j<n):(chunks sz n inner)[j]?=some ((inner.drop (j * sz)).take sz):=by simp [chunks,hj]
theorem ybp {sz n:Nat} {inner:List Value} {j:Nat} {c:List Value} (h:(chunks sz n inner)[j]?=some c):c=(inner.drop (j * sz)).take sz:=by
 have hj:j<n:=by have:=(List.getElem?_eq_some_iff.1 h).1;rwa [JL] at this
 rw [chunks_at hj] at h
 injection h with h
 exact h.symm
theorem reps_raw {α:Type} {Rr:α→List Value→Prop} {sz:Nat} {xs:List α} {inner:List Value} (h:YM Rr sz xs inner) (hR:∀ x c,Rr x c→c.length=sz∧∀ u ∈ c,u.oneCell'=true):YM (fun x cs=>cs=x∧cs.length=sz∧∀ u ∈ cs,u.oneCell'=true) sz (chunks sz xs.length inner) inner:=by
 refine ⟨by rw [JL];exact h.1,fun j p hj=>?_⟩
 have hjl:j<xs.length:=by have:=(List.getElem?_eq_some_iff.1 hj).1;rwa [JL] at this
 have hp:=ybp hj
 exact ⟨hp.symm,hR _ _ (h.2 j _ (List.getElem?_eq_getElem hjl))⟩
section
variable {α:Type} {d:Kd α} {e base n cc g:Nat} {ok ok' okp S:Nat→Prop} {w w1 W W1:World} {A:Option Addr} {u v v1:Value} {xs:List α} {x:α} {c:List Value}
def N {α:Type} (d:Kd α) (e:Nat) (w:World) (base:Nat) (ok:Nat→Prop) (v:Value) (xs:List α):Prop:=
 (∀ k,v.ownBlock=some k→ok k)∧∃ rows:List (List Value),rows.length=xs.length∧(raw d.sz).R e w base (fun k=>some k=v.ownBlock) v rows∧∀ (j:Nat) (x:α) (c:List Value),xs[j]?=some x→rows[j]?=some c→FK d w (fun k=>ok k∧some k≠v.ownBlock) x c
theorem raw_tight {sz:Nat} {rows:List (List Value)} (h:(raw sz).R e w base ok v rows):(raw sz).R e w base (fun k=>some k=v.ownBlock) v rows:=R_tight rfl h
theorem raw_any {sz:Nat} {rows:List (List Value)} (h:(raw sz).R e w base ok v rows):(raw sz).R e w base (fun _=>True) v rows:=Yr h (fun _ _=>trivial)
theorem R_N (h:d.R e w base ok v xs):N d e w base ok v xs:=by
 obtain ⟨h0,inner,ho,hr⟩:=h
 refine ⟨h0,chunks d.sz xs.length inner,JL _ _ _,⟨fun k hk=>hk.symm,inner,by rw [JL];exact ho,reps_raw hr (fun x c hp=>⟨d.qx (d.JJ hp),d.qN (d.JJ hp)⟩)⟩,fun j x c hx hc=>?_⟩
 rw [ybp hc]
 exact FK_of_M (hr.2 j x hx)
theorem yae (d:Kd α) (e:Nat) (w:World) (base:Nat) (ok:Nat→Prop):N d e w base ok (.slice none 0 0) []:=R_N (qm _ _ _ _ _)
theorem YC (h:N d e w base ok v xs) (hok:∀ k,ok k→ok' k):N d e w base ok' v xs:=by
 obtain ⟨h0,rows,hl,hR,hf⟩:=h
 exact ⟨fun k hk=>hok k (h0 k hk),rows,hl,hR,fun j x c hx hc=>ycE (hf j x c hx hc) (fun k hk=>⟨hok k hk.1,hk.2⟩)⟩
theorem N_lt (h:N d e w base ok v xs):∀ k,v.ownBlock=some k→k<w.heap.size:=by
 obtain ⟨_,rows,_,hR,_⟩:=h
 exact R_lt hR
theorem Q5 (h:N d e w base ok v xs):∀ k,v.ownBlock=some k→base≤k:=by
 obtain ⟨_,rows,_,hR,_⟩:=h
 exact Q8 hR
theorem yao (h:N d e w base ok v xs):∀ k,v.ownBlock=some k→∃ cells,w.heap[k]?=some (.cells cells e (0,0)):=by
 obtain ⟨_,rows,_,hR,_⟩:=h
 exact yap hR
theorem N_away (h:N d e w base ok v xs) (hok:∀ k,ok k→k≠g):some g≠v.ownBlock:=fun he=>hok g (h.1 g he.symm) rfl
theorem N_bound (h:N d e w base ok v xs):N d e w base (fun k=>ok k∧k<w.heap.size) v xs:=by
 have hlt:=N_lt h
 obtain ⟨h0,rows,hl,hR,hf⟩:=h
 exact ⟨fun k hk=>⟨h0 k hk,hlt k hk⟩,rows,hl,hR,fun j x c hx hc=>ycE (ycR (hf j x c hx hc)) (fun k hk=>⟨⟨hk.1.1,hk.2⟩,hk.1.2⟩)⟩
theorem yaX {base':Nat} (h:N d e w base ok v xs) (hb:base'≤base):N d e w base' ok v xs:=by
 obtain ⟨h0,rows,hl,hR,hf⟩:=h
 exact ⟨h0,rows,hl,Ji hR hb,hf⟩
theorem N_step (h:N d e w base ok v xs) (hm:∀ k,ok k→k<w.heap.size→w1.heap[k]?=w.heap[k]?):N d e w1 base ok v xs:=by
 obtain ⟨h0,rows,hl,hR,hf⟩:=h
 exact ⟨h0,rows,hl,qn hR (fun k hk hlt=>hm k (h0 k hk.symm) hlt),fun j x c hx hc=>FK_step (hf j x c hx hc) (fun k hk hlt=>hm k hk.1 hlt)⟩
theorem JO (h:N d e w base ok v xs) (hb:Below w.heap.size w w1):N d e w1 base ok v xs:=N_step h (fun k _ hk=>hb.block k hk)
theorem N_alloc (h:N d e w base ok v xs) (o:Obj):N d e (w.alloc o) base ok v xs:=JO h (yl (Below.refl _ _) o)
theorem yb7 (h:N d e w base ok v xs):N d e w.drew base ok v xs:=JO h (Qf (Below.refl _ _))
theorem N_drewN (h:N d e w base ok v xs) (m:Nat):N d e (w.drewN m) base ok v xs:=JO h (ym (Below.refl _ _) m)
theorem YO (h:N d e w base ok v xs) {p:Addr} (hok:∀ k,ok k→k≠p.block) (u:Value):N d e (w.setCell p u) base ok v xs:=N_step h (fun k ho _=>Below.heap_setCell w p u k (hok k ho))
theorem qR (h:N d e W base ok v xs) (hbase:∀ k,u.ownBlock=some k→W.heap.size≤k) (hb:Below W.heap.size W w1):N d e w1 base (fun k=>ok k∧some k≠u.ownBlock) v xs:=
 YC (JO (N_bound h) hb) (fun k hk=>⟨hk.1,fun he=>by have:=hbase k he.symm;have:=hk.2;omega⟩)
theorem QL (h:N d e w base ok v xs) (a:Nat) (ha:w.heap.size≤a):N d e w base (fun k=>ok k∧k≠a) v xs:=YC (N_bound h) (fun k hk=>⟨hk.1,by have:=hk.2;omega⟩)
theorem N_after (h:N d e W base (fun k=>ok k∧some k≠u.ownBlock) v xs) {u1:Value} (hg:W.grownBy w1 u.ownBlock) (hat:u1.ownBlock=u.ownBlock∨∃ b,u1.ownBlock=some b∧W.heap.size≤b):N d e w1 base (fun k=>ok k∧some k≠u1.ownBlock) v xs:=by
 refine YC (N_step (N_bound h) (fun k hk hlt=>hg.block k hlt hk.1.2)) (fun k hk=>⟨hk.1.1,?_⟩)
 rcases hat with hat|⟨b,hb,hle⟩
 · rw [hat];exact hk.1.2
 · rw [hb]
   intro he
   injection he with he
   have:=hk.2
   omega
theorem QH (h:N d e w base ok v xs):∃ A c,v=.slice A xs.length c:=by
 obtain ⟨_,rows,hl,hR,_⟩:=h
 obtain ⟨A,c,he⟩:=YF hR
 exact ⟨A,c,by rw [he,hl]⟩
theorem Qp {n c:Nat} (h:N d e w base ok (.slice A n c) xs):n=xs.length∧n≤c∧d.C w A xs.length xs:=by
 obtain ⟨_,rows,hl,hR,hf⟩:=h
 obtain ⟨hn,hc,hC⟩:=YK hR
 refine ⟨by omega,hc,?_⟩
 rw [hl] at hC
 refine ⟨rfl,hC.2.1,fun hp=>?_⟩
 obtain ⟨ad,he,hcell⟩:=hC.2.2 hp
 refine ⟨ad,he,fun j p hj=>?_⟩
 have hjl:j<rows.length:=by have:=(List.getElem?_eq_some_iff.1 hj).1;omega
 obtain ⟨c',hcl,hK,hcc⟩:=hcell j _ (List.getElem?_eq_getElem hjl)
 have hk:=FK_now (hf j p _ hj (List.getElem?_eq_getElem hjl))
 refine ⟨c',hcl,?_,hcc⟩
 rw [show c'=rows[j] from hK.1]
 exact hk
theorem N_F {n:Nat} (h:N d e w base ok (.slice A n cc) xs):F d w ok A n xs:=fun W' hW=>by
 have h2:=Qp (N_step h hW)
 rw [h2.1]
 exact h2.2.2
end
end Kd
end Go.Proofs.YtlmennkeggmdbaaGreatDoorW.PrintWords



namespace Go.Proofs.YtlmennkeggmdbaaGreatDoorW.PrintWords
theorem YM.one {α:Type} {R:α→List Value→Prop} {ps:List α} {cs:List Value} {p:α} {v:Value} (hp:R p [v]) (h:YM R 1 ps cs):YM R 1 (p::ps) (v::cs):=by
 refine ⟨by simp [h.1],fun j q hq=>?_⟩
 cases j with
 | zero=>
  simp only [List.getElem?_cons_zero,Option.some.injEq] at hq
  subst hq
  simpa using hp
 | succ j=>
  simp only [List.getElem?_cons_succ] at hq
  have h1:=h.2 j q hq
  simpa [Nat.mul_one] using h1
theorem YM.front {α:Type} {R:α→List Value→Prop} {size:Nat} {ps:List α} {cs c all:List Value} {p:α} (hp:R p c) (hc:c.length=size) (h:YM R size ps cs) (ha:c++cs=all):YM R size (p::ps) all:=by
 subst ha
 refine ⟨by rw [List.length_append,hc,h.1,List.length_cons,Nat.succ_mul,Nat.add_comm],fun j q hq=>?_⟩
 cases j with
 | zero=>
  simp only [List.getElem?_cons_zero,Option.some.injEq] at hq
  subst hq
  rw [Nat.zero_mul,List.drop_zero,List.take_append_of_le_length Zo,List.take_of_length_le Zo]
  exact hp
 | succ j=>
  simp only [List.getElem?_cons_succ] at hq
  have h1:=h.2 j q hq
  rw [Nat.succ_mul,List.drop_append,List.drop_of_length_le (by rw [hc];exact Nat.le_add_left _ _),List.nil_append,hc,Nat.add_sub_cancel]
  exact h1
theorem YM.c2 {α:Type} {R:α→List Value→Prop} {ps:List α} {cs:List Value} {p:α} {va vb:Value} (hp:R p [va,vb]) (h:YM R 2 ps cs):YM R 2 (p::ps) (va::vb::cs):=YM.front hp rfl h rfl
theorem YM.c3 {α:Type} {R:α→List Value→Prop} {ps:List α} {cs:List Value} {p:α} {va vb vc:Value} (hp:R p [va,vb,vc]) (h:YM R 3 ps cs):YM R 3 (p::ps) (va::vb::vc::cs):=YM.front hp rfl h rfl
theorem YM.c4 {α:Type} {R:α→List Value→Prop} {ps:List α} {cs:List Value} {p:α} {va vb vc vd:Value} (hp:R p [va,vb,vc,vd]) (h:YM R 4 ps cs):YM R 4 (p::ps) (va::vb::vc::vd::cs):=YM.front hp rfl h rfl
theorem YM.c5 {α:Type} {R:α→List Value→Prop} {ps:List α} {cs:List Value} {p:α} {va vb vc vd ve:Value} (hp:R p [va,vb,vc,vd,ve]) (h:YM R 5 ps cs):YM R 5 (p::ps) (va::vb::vc::vd::ve::cs):=YM.front hp rfl h rfl
theorem YM.c6 {α:Type} {R:α→List Value→Prop} {ps:List α} {cs:List Value} {p:α} {va vb vc vd ve vf:Value} (hp:R p [va,vb,vc,vd,ve,vf]) (h:YM R 6 ps cs):YM R 6 (p::ps) (va::vb::vc::vd::ve::vf::cs):=YM.front hp rfl h rfl
theorem YM.c7 {α:Type} {R:α→List Value→Prop} {ps:List α} {cs:List Value} {p:α} {va vb vc vd ve vf vg:Value} (hp:R p [va,vb,vc,vd,ve,vf,vg]) (h:YM R 7 ps cs):YM R 7 (p::ps) (va::vb::vc::vd::ve::vf::vg::cs):=YM.front hp rfl h rfl
theorem YM.c8 {α:Type} {R:α→List Value→Prop} {ps:List α} {cs:List Value} {p:α} {va vb vc vd ve vf vg vh:Value} (hp:R p [va,vb,vc,vd,ve,vf,vg,vh]) (h:YM R 8 ps cs):YM R 8 (p::ps) (va::vb::vc::vd::ve::vf::vg::vh::cs):=YM.front hp rfl h rfl
theorem YM.c9 {α:Type} {R:α→List Value→Prop} {ps:List α} {cs:List Value} {p:α} {va vb vc vd ve vf vg vh vi:Value} (hp:R p [va,vb,vc,vd,ve,vf,vg,vh,vi]) (h:YM R 9 ps cs):YM R 9 (p::ps) (va::vb::vc::vd::ve::vf::vg::vh::vi::cs):=YM.front hp rfl h rfl
theorem YM.c10 {α:Type} {R:α→List Value→Prop} {ps:List α} {cs:List Value} {p:α} {va vb vc vd ve vf vg vh vi vj:Value} (hp:R p [va,vb,vc,vd,ve,vf,vg,vh,vi,vj]) (h:YM R 10 ps cs):YM R 10 (p::ps) (va::vb::vc::vd::ve::vf::vg::vh::vi::vj::cs):=YM.front hp rfl h rfl
end Go.Proofs.YtlmennkeggmdbaaGreatDoorW.PrintWords
namespace Go.Proofs.YtlmennkeggmdbaaGreatDoorW.PrintLast
def up (b:Nat→Bool) (i:Nat):Nat→Bool:=fun j=>if j=i then true else b j
theorem Q3 (b:Nat→Bool) (i:Nat):up b i i=true:=by simp [up]
theorem QS {b:Nat→Bool} {i j:Nat} (h:j≠i):up b i j=b j:=by simp [up,h]
def lof (n:Nat) (O:List Nat) (b:Nat→Bool):List Bool:=(List.range n).map fun j=>if O.contains j then b j else true
section
variable {P:Program} {ops:Array Oper} {Q:Exit→Act→World→Prop} {md:Region.Mode} {T:Bool × List (List Nat × List Nat)} {B:List Nat} {O:List Nat} {b:Nat→Bool} {i j n:Nat}
theorem lof_length:(lof n O b).length=n:=by simp [lof]
theorem ycM {d:Bool} (hj:j<n):(lof n O b).getD j d=if O.contains j then b j else true:=by
 simp [lof,List.getD_eq_getElem?_getD,hj]
theorem lof_up (hi:O.contains i=true):(lof n O b).set i true=lof n O (up b i):=by
 apply List.ext_getElem?
 intro j
 by_cases hj:j<n
 · by_cases hij:i=j
   · subst hij
     have hl:i<(lof n O b).length:=by rw [lof_length];exact hj
     rw [List.getElem?_set_self hl]
     simp only [lof,List.getElem?_map,List.getElem?_range hj,Option.map_some,hi,if_true,Q3]
   · rw [List.getElem?_set_ne hij]
     simp only [lof,List.getElem?_map,List.getElem?_range hj,Option.map_some]
     rw [QS (Ne.symm hij)]
 · rw [List.getElem?_eq_none (by simp [lof];omega),List.getElem?_eq_none (by simp [lof];omega)]
def yb8 (P:Program) (ops:Array Oper) (Q:Exit→Act→World→Prop) (B:List Nat) (O:List Nat) (I:(Nat→Bool)→Act→World→Prop) (i:Nat):Prop:=
 ∀ b a w,I b a w→b i=false→(∀ j,(O.contains j && (B.getD i 0).testBit j)=true→b j=true)→(∀ d,(O.contains d && (B.getD d 0).testBit i)=true→b d=false) →
  ∃ oi,ops[i]?=some oi∧∀ K:Act→World→Prop,Shut (∀ a' w',I (up b i) a' w'→K a' w')→if Region.wanted oi (yielded ops a.tmps)=true then Oper.wp P oi a w K Q else K (a.put oi.dst undef) w
theorem steps_nil {I:(Nat→Bool)→Act→World→Prop}:∀ i ∈ ([]:List Nat),yb8 P ops Q B O I i:=fun _ h=>by cases h
theorem qc {I:(Nat→Bool)→Act→World→Prop} {rs:List Nat} (h:yb8 P ops Q B O I i) (hs:∀ j ∈ rs,yb8 P ops Q B O I j):∀ j ∈ i::rs,yb8 P ops Q B O I j:=fun j hj=>by
 rcases List.mem_cons.1 hj with rfl|hj
 · exact h
 · exact hs j hj
def Qx (T:List (List Nat × List Nat)) (O:List Nat):Bool:=
 (List.range T.length).all (fun d=>match T[d]? with
  | some r=>(O.contains d || r.1.all fun n=>!O.contains n) && r.1.all fun n=>decide (n<d)
  | none=>false) && O.all (fun i=>decide (i<T.length)) && decide O.Nodup
theorem Qe {T:List (List Nat × List Nat)} (h:Qx T O=true) {d:Nat} {r:List Nat × List Nat} (hr:T[d]?=some r):(O.contains d=false→∀ n ∈ r.1,O.contains n=false)∧∀ n ∈ r.1,n<d:=by
 simp only [Qx,Bool.and_eq_true] at h
 have h1:=List.all_eq_true.1 h.1.1 d (List.mem_range.2 (List.getElem?_eq_some_iff.1 hr).1)
 rw [hr] at h1
 simp only [Bool.and_eq_true,Bool.or_eq_true,List.all_eq_true,decide_eq_true_eq] at h1
 refine ⟨fun hd n hn=>?_,h1.2⟩
 rcases h1.1 with h2|h2
 · rw [hd] at h2;cases h2
 · simpa using h2 n hn
theorem baseOk_lt {T:List (List Nat × List Nat)} (h:Qx T O=true) {i:Nat} (hi:i ∈ O):i<T.length:=by
 simp only [Qx,Bool.and_eq_true] at h
 simpa using List.all_eq_true.1 h.1.2 i hi
theorem baseOk_nodup {T:List (List Nat × List Nat)} (h:Qx T O=true):O.Nodup:=by
 simp only [Qx,Bool.and_eq_true] at h
 exact of_decide_eq_true h.2
def Closed (T:List (List Nat × List Nat)) (O:List Nat) (b:Nat→Bool):Prop:=∀ d r,T[d]?=some r→O.contains d=true→b d=true→∀ n ∈ r.1,O.contains n=true→b n=true
theorem bits_out {T:List (List Nat × List Nat)} (hw:qd T B=true) (hk:Qx T O=true):∀ (m d:Nat),d≤m→d<T.length→O.contains d=false→∀ j,(B.getD d 0).testBit j=true→O.contains j=false:=by
 intro m
 induction m with
 | zero=>
  intro d hd hl hO j hj
  have hd0:d=0:=by omega
  subst hd0
  have hr:T[0]?=some T[0]:=List.getElem?_eq_getElem hl
  have h1:=List.all_eq_true.1 hw 0 (List.mem_range.2 hl)
  rw [hr] at h1
  simp only [beq_iff_eq] at h1
  have h2:(upM B 0 T[0].1).testBit j=true:=by rw [← h1,Nat.testBit_or,hj,Bool.true_or]
  obtain ⟨n,hn,h3⟩:=yaE h2
  have:=(Qe hk hr).2 n hn
  omega
 | succ m ih=>
  intro d hd hl hO j hj
  have hr:T[d]?=some T[d]:=List.getElem?_eq_getElem hl
  have h1:=List.all_eq_true.1 hw d (List.mem_range.2 hl)
  rw [hr] at h1
  simp only [beq_iff_eq] at h1
  have h2:(upM B d T[d].1).testBit j=true:=by rw [← h1,Nat.testBit_or,hj,Bool.true_or]
  obtain ⟨n,hn,h3⟩:=yaE h2
  have hO2:=(Qe hk hr).1 hO n hn
  rcases h3 with rfl|⟨h4,h5⟩
  · exact hO2
  · exact ih n Zo Zo hO2 j h5
theorem ycq {T:List (List Nat × List Nat)} (hw:qd T B=true) (hk:Qx T O=true) (hc:Closed T O b):∀ (m d:Nat),d≤m→d<T.length→O.contains d=true→b d=true→∀ j,O.contains j=true→(B.getD d 0).testBit j=true→b j=true:=by
 intro m
 induction m with
 | zero=>
  intro d hd hl hO hb j hjO hj
  have hd0:d=0:=by omega
  subst hd0
  have hr:T[0]?=some T[0]:=List.getElem?_eq_getElem hl
  have h1:=List.all_eq_true.1 hw 0 (List.mem_range.2 hl)
  rw [hr] at h1
  simp only [beq_iff_eq] at h1
  have h2:(upM B 0 T[0].1).testBit j=true:=by rw [← h1,Nat.testBit_or,hj,Bool.true_or]
  obtain ⟨n,hn,h3⟩:=yaE h2
  have:=(Qe hk hr).2 n hn
  omega
 | succ m ih=>
  intro d hd hl hO hb j hjO hj
  have hr:T[d]?=some T[d]:=List.getElem?_eq_getElem hl
  have h1:=List.all_eq_true.1 hw d (List.mem_range.2 hl)
  rw [hr] at h1
  simp only [beq_iff_eq] at h1
  have h2:(upM B d T[d].1).testBit j=true:=by rw [← h1,Nat.testBit_or,hj,Bool.true_or]
  obtain ⟨n,hn,h3⟩:=yaE h2
  rcases h3 with rfl|⟨h4,h5⟩
  · exact hc d _ hr hO hb n hn hjO
  · cases hO2:O.contains n with
    | true=>exact ih n Zo Zo hO2 (hc d _ hr hO hb n hn hO2) j hjO h5
    | false=>
     have:=bits_out hw hk n n (Nat.le_refl _) Zo hO2 j h5
     rw [hjO] at this
     cases this
theorem up_count:∀ {O:List Nat},O.Nodup→i ∈ O→b i=false→(O.filter fun j=>!up b i j).length+1=(O.filter fun j=>!b j).length
 | [],_,hi,_=>by cases hi
 | x::r,hn,hi,hb=>by
  rw [List.nodup_cons] at hn
  rcases List.mem_cons.1 hi with rfl|hi
  · have h1:(r.filter fun j=>!up b i j)=r.filter fun j=>!b j:=by
     refine List.filter_congr (fun j hj=>?_)
     rw [QS (fun e=>hn.1 (by rw [← e];exact hj))]
    rw [List.filter_cons,List.filter_cons]
    simp [Q3,hb,h1]
  · have hxi:x≠i:=fun e=>hn.1 (e ▸ hi)
    have h1:=up_count hn.2 hi hb
    rw [List.filter_cons,List.filter_cons,QS hxi]
    cases hbx:b x
    · simp only [Bool.not_false,if_true,List.length_cons]
      omega
    · simpa using h1
theorem inv_all (hT:JM md ops=T) (hw:qd T.2 B=true) (hk:Qx T.2 O=true) (I:(Nat→Bool)→Act→World→Prop) (hs:∀ i ∈ O,yb8 P ops Q B O I i)
 (hend:∀ b a w,(∀ j,O.contains j=true→b j=true)→I b a w→Q .normal a w) :
 ∀ (m:Nat) (b:Nat→Bool) (a:Act) (w:World),(O.filter fun j=>!b j).length=m→Closed T.2 O b→I b a w→Yo P md ops Q (fun _=>True) [] m (lof T.2.length O b).toArray a w:=by
 subst hT
 have mem_ready':∀ {b:Nat→Bool} {i:Nat},i ∈ Region.ready md ops (lof (JM md ops).2.length O b).toArray→i<(JM md ops).2.length∧O.contains i=true∧b i=false∧∀ r,(JM md ops).2[i]?=some r→∀ n ∈ r.1,n<(JM md ops).2.length→O.contains n=true→b n=true:=by
  intro b i hi
  rw [yak] at hi
  unfold yaT at hi
  rw [List.mem_filter,List.mem_range] at hi
  obtain ⟨hl,h1⟩:=hi
  unfold Qn at h1
  rw [Bool.and_eq_true,ycM hl] at h1
  obtain ⟨h2,h3⟩:=h1
  have h4:O.contains i=true:=by
   cases h:O.contains i with
   | true=>rfl
   | false=>rw [h] at h2;simp at h2
  rw [h4] at h2
  refine ⟨hl,h4,by simpa using h2,fun r hr n hn hnl hO=>?_⟩
  rw [hr] at h3
  simp only [List.all_eq_true] at h3
  have h5:=h3 n hn
  rw [ycM hnl,hO] at h5
  simpa using h5
 intro m
 induction m with
 | zero=>
  intro b a w hm hc hI
  have hall:∀ j,O.contains j=true→b j=true:=by
   intro j hj
   cases hb:b j with
   | true=>rfl
   | false=>
    have:j ∈ O.filter fun j=>!b j:=List.mem_filter.2 ⟨List.contains_iff_mem.1 hj,by simp [hb]⟩
    rw [List.eq_nil_of_length_eq_zero hm] at this
    cases this
  refine ⟨?_,hend b a w hall hI⟩
  refine List.eq_nil_iff_forall_not_mem.2 (fun i hi=>?_)
  obtain ⟨_,h1,h2,_⟩:=mem_ready' hi
  rw [hall i h1] at h2
  cases h2
 | succ m ih=>
  intro b a w hm hc hI
  refine ⟨fun hr=>?_,fun i hi=>?_⟩
  · exfalso
    have hex:∃ i,O.contains i=true∧b i=false:=by
     cases hf:O.filter (fun j=>!b j) with
     | nil=>rw [hf] at hm;simp at hm
     | cons x r=>
      have hx:x ∈ O.filter (fun j=>!b j):=by rw [hf];exact List.mem_cons_self
      rw [List.mem_filter] at hx
      exact ⟨x,List.contains_iff_mem.2 hx.1,by simpa using hx.2⟩
    have hmin:∀ k,(∃ i,i≤k∧O.contains i=true∧b i=false)→∃ i,O.contains i=true∧b i=false∧∀ j,j<i→O.contains j=true→b j=true:=by
     intro k
     induction k with
     | zero=>
      rintro ⟨i,hi,h1,h2⟩
      exact ⟨i,h1,h2,fun j hj=>by omega⟩
     | succ k ihk=>
      rintro ⟨i,hi,h1,h2⟩
      by_cases hlow:∃ j,j≤k∧O.contains j=true∧b j=false
      · exact ihk hlow
      · refine ⟨i,h1,h2,fun j hj hO=>?_⟩
        cases hb:b j with
        | true=>rfl
        | false=>exact absurd ⟨j,by omega,hO,hb⟩ hlow
    obtain ⟨i0,h1,h2⟩:=hex
    obtain ⟨i,hO,hb,hlow⟩:=hmin i0 ⟨i0,Nat.le_refl _,h1,h2⟩
    have hl:=baseOk_lt hk (List.contains_iff_mem.1 hO)
    have hin:i ∈ Region.ready md ops (lof (JM md ops).2.length O b).toArray:=by
     rw [yak]
     unfold yaT
     rw [List.mem_filter,List.mem_range]
     refine ⟨hl,?_⟩
     unfold Qn
     rw [ycM hl,hO,hb]
     have hr2:(JM md ops).2[i]?=some (JM md ops).2[i]:=List.getElem?_eq_getElem hl
     rw [hr2]
     simp only [if_true,Bool.not_false,Bool.true_and,List.all_eq_true]
     intro n hn
     have hni:=(Qe hk hr2).2 n hn
     rw [ycM Zo]
     cases hOn:O.contains n with
     | true=>simpa using hlow n hni hOn
     | false=>simp
    rw [hr] at hin
    cases hin
  · obtain ⟨hl,hO,hb,hneed⟩:=mem_ready' hi
    have hon:∀ j,(O.contains j && (B.getD i 0).testBit j)=true→b j=true:=by
     intro j hj
     rw [Bool.and_eq_true] at hj
     have hr2:(JM md ops).2[i]?=some (JM md ops).2[i]:=List.getElem?_eq_getElem hl
     have h1:=List.all_eq_true.1 hw i (List.mem_range.2 hl)
     rw [hr2] at h1
     simp only [beq_iff_eq] at h1
     have h2:(upM B i (JM md ops).2[i].1).testBit j=true:=by rw [← h1,Nat.testBit_or,hj.2,Bool.true_or]
     obtain ⟨n,hn,h3⟩:=yaE h2
     have hni:=(Qe hk hr2).2 n hn
     rcases h3 with rfl|⟨h4,h5⟩
     · exact hneed _ hr2 n hn Zo hj.1
     · cases hO2:O.contains n with
       | true=>exact ycq hw hk hc n n (Nat.le_refl _) Zo hO2 (hneed _ hr2 n hn Zo hO2) j hj.1 h5
       | false=>
        have:=bits_out hw hk n n (Nat.le_refl _) Zo hO2 j h5
        rw [hj.1] at this
        cases this
    have hoff:∀ d,(O.contains d && (B.getD d 0).testBit i)=true→b d=false:=by
     intro d hd
     rw [Bool.and_eq_true] at hd
     cases hbd:b d with
     | false=>rfl
     | true=>
      have hdl:=baseOk_lt hk (List.contains_iff_mem.1 hd.1)
      have:=ycq hw hk hc d d (Nat.le_refl _) hdl hd.1 hbd i hO hd.2
      rw [hb] at this
      cases this
    obtain ⟨oi,hoi,hK⟩:=hs i (List.contains_iff_mem.1 hO) b a w hI hb hon hoff
    refine wpOp_step hoi (fun K' hK'=>hK K' (fun a' w' hI'=>hK' a' w' ⟨fun _ _=>trivial,?_⟩))
    have hset:(lof (JM md ops).2.length O b).toArray.setIfInBounds i true=(lof (JM md ops).2.length O (up b i)).toArray:=by
     apply Array.ext'
     rw [Array.toList_setIfInBounds]
     exact lof_up hO
    rw [hset]
    refine ih (up b i) a' w' ?_ ?_ hI'
    · have:=up_count (baseOk_nodup hk) (List.contains_iff_mem.1 hO) hb
      omega
    · intro d r hr hOd hbd n hn hOn
      by_cases hni:n=i
      · rw [hni,Q3]
      · rw [QS hni]
        by_cases hdi:d=i
        · subst hdi
          exact hneed r hr n hn (by have:=(Qe hk hr).2 n hn;omega) hOn
        · rw [QS hdi] at hbd
          exact hc d r hr hOd hbd n hn hOn
theorem inv_ {l:Array Bool} {fuel:Nat} {a:Act} {w:World} (O:List Nat) (I:(Nat→Bool)→Act→World→Prop) (hT:JM md ops=T) (hw:qd T.2 B=true) (hk:Qx T.2 O=true)
 (hl:(lof T.2.length O (fun _=>false) == l.toList && O.length == fuel)=true) (h0:I (fun _=>false) a w) (hs:∀ i ∈ O,yb8 P ops Q B O I i)
 (hend:∀ b a w,(∀ j,O.contains j=true→b j=true)→I b a w→Q .normal a w):Yo P md ops Q (fun _=>True) [] fuel l a w:=by
 rw [Bool.and_eq_true,beq_iff_eq,beq_iff_eq] at hl
 have h1:=inv_all hT hw hk I hs hend fuel (fun _=>false) a w (by rw [← hl.2];simp) (fun d r _ _ hb=>by cases hb) h0
 have h2:(lof T.2.length O (fun _=>false)).toArray=l:=by apply Array.ext';exact hl.1
 rw [h2] at h1
 exact h1
end
end Go.Proofs.YtlmennkeggmdbaaGreatDoorW.PrintLast

namespace Go.Proofs.YtlmennkeggmdbaaGreatDoorW.PrintWords
open Go.RowKit
section
variable {P:Program} {ops:Array Oper} {rest:List Oper} {o:Oper} {a:Act} {Q:Exit→Act→World→Prop} {W:World}
theorem yaw (hw:Region.wanted o (yielded ops a.tmps)=true) (h:wpList P ops Q ({ o with guard:=none } :: rest) a W):wpList P ops Q (o::rest) a W:=by
 have h1:Region.wanted { o with guard:=none } (yielded ops a.tmps)=true:=rfl
 unfold wpList at h ⊢
 rw [if_pos h1] at h
 rw [if_pos hw]
 exact h
theorem ydt (hw:Region.wanted o (yielded ops a.tmps)=false) (h:wpList P ops Q rest (a.put o.dst undef) W):wpList P ops Q (o::rest) a W:=by
 unfold wpList
 rw [hw]
 exact h
end
end Go.Proofs.YtlmennkeggmdbaaGreatDoorW.PrintWords
namespace Go.Proofs.YtlmennkeggmdbaaGreatDoorW.PrintWords
open Go.RowKit
namespace Kd
section
variable {α:Type} {d:Kd α} {e base n cap g:Nat} {ok ok' okp:Nat→Prop} {w w1 W:World} {v v1:Value} {xs ys:List α}
theorem N_appended {rows news:List (List Value)} (h0:∀ k,v.ownBlock=some k→ok k) (hl:rows.length=xs.length) (hf:∀ (j:Nat) (x:α) (c:List Value),xs[j]?=some x→rows[j]?=some c→FK d W (fun k=>ok k∧some k≠v.ownBlock) x c)
 (hl2:news.length=ys.length) (hf2:∀ (j:Nat) (x:α) (c:List Value),ys[j]?=some x→news[j]?=some c→FK d W okp x c) (hokp:∀ k,okp k→ok k∧some k≠v.ownBlock) (hfresh:∀ k,W.heap.size≤k→ok k)
 (hR:(raw d.sz).R e w1 base (fun _=>True) v1 (rows++news)) (hg:W.grownBy w1 v.ownBlock) (hat:v1.ownBlock=v.ownBlock∨∃ b,v1.ownBlock=some b∧W.heap.size≤b):N d e w1 base ok v1 (xs++ys):=by
 have hne:∀ k,some k≠v.ownBlock→k<W.heap.size→some k≠v1.ownBlock:=by
  intro k hk hlt
  rcases hat with hat|⟨b,hb,hle⟩
  · rw [hat];exact hk
  · rw [hb]
    intro he
    injection he with he
    omega
 have step:∀ {x:α} {c:List Value} {o:Nat→Prop},FK d W o x c→(∀ k,o k→ok k∧some k≠v.ownBlock)→FK d w1 (fun k=>ok k∧some k≠v1.ownBlock) x c:=by
  intro x c o hq ho
  exact ycE (FK_step (ycR hq) (fun k hk hlt=>hg.block k hlt (ho k hk.1).2)) (fun k hk=>⟨(ho k hk.1).1,hne k (ho k hk.1).2 hk.2⟩)
 refine ⟨fun k hk=>?_,rows++news,by rw [List.length_append,List.length_append,hl,hl2],raw_tight hR,fun j x c hx hc=>?_⟩
 · rcases hat with hat|⟨b,hb,hle⟩
   · exact h0 k (hat ▸ hk)
   · rw [hb] at hk
     injection hk with hk
     exact hfresh k Zo
 · rcases Nat.lt_or_ge j xs.length with hlt|hge
   · rw [List.getElem?_append_left hlt] at hx
     rw [List.getElem?_append_left Zo] at hc
     exact step (hf j x c hx hc) (fun _ hk=>hk)
   · rw [List.getElem?_append_right hge] at hx
     rw [List.getElem?_append_right Zo,hl] at hc
     exact step (hf2 _ x c hx hc) hokp
theorem FK_raw {x:α} {c:List Value} (h:FK d W ok x c):c=c∧c.length=d.sz∧∀ u ∈ c,u.oneCell'=true:=⟨rfl,d.qx (FK_now h),d.qN (FK_now h)⟩
theorem N_made {rows:List (List Value)} (hR:(raw d.sz).R e w1 base (fun k=>k=W.heap.size) v1 rows) (hg:W.grownBy w1 none) (hat:∃ b,v1.ownBlock=some b∧W.heap.size≤b) (hl:rows.length=xs.length) (hf:∀ (j:Nat) (x:α) (c:List Value),xs[j]?=some x→rows[j]?=some c→FK d W okp x c)
 (hok:∀ k,okp k→ok k) (hfresh:ok W.heap.size):N d e w1 base ok v1 xs:=by
 obtain ⟨b,hb,hle⟩:=hat
 refine ⟨fun k hk=>by rw [hR.1 k hk];exact hfresh,rows,hl,raw_tight hR,fun j x c hx hc=>?_⟩
 refine ycE (FK_step (ycR (hf j x c hx hc)) (fun k hk hlt=>hg.block k hlt (by simp))) (fun k hk=>⟨hok k hk.1,fun he=>?_⟩)
 rw [hb] at he
 injection he with he
 have:=hk.2
 omega
end
section
variable {P:Program} {ops:Array Oper} {rest:List Oper} {o:Oper} {a:Act} {Q:Exit→Act→World→Prop} {Kc:Act→World→Prop} {α:Type}
theorem ycV (d:Kd α) {w0 W:World} (base:Nat) (hgd:o.guard=none) (s x:Operand) (t e:TypeId) (z:Value) (bytes:Nat)
 (ho:o.op=.call { callee:=.builtin .append,args:=#[s,x],argTypes:=#[t,t] })
 (ht:P.underlying t=some (.slice e)) (hinfo:(P.info? e).map (fun i=>(i.zero,i.size,i.bytes))=some (some z,d.sz,bytes)) (hz:z.cells.size=d.sz) (hs0:0<d.sz) (hb0:0<bytes)
 (v:Value) (xs:List α) (p:α) (cs:List Value) (ok okp:Nat→Prop) (hs:a.eval s=v) (hx:a.eval x=.slice (some ⟨W.heap.size,0,none⟩) 1 1) (hp:FK d W okp p cs) (hokp:∀ k,okp k→ok k∧some k≠v.ownBlock) (hfresh:∀ k,W.heap.size≤k→ok k)
 (HO:N d e W base ok v xs) (HB:Below base w0 W) (hbase:base≤W.heap.size) (hl:(xs.length+1) * bytes≤140737488355328)
 (h:∀ v1 w1,N d e w1 base ok v1 (xs++[p])→Below base w0 w1→W.grownBy w1 v.ownBlock→(v1.ownBlock=v.ownBlock∨∃ b,v1.ownBlock=some b∧W.heap.size≤b)→wpList P ops Q rest (a.put o.dst v1) w1) :
 wpList P ops Q (o::rest) a (W.alloc (.cells cs.toArray e)):=by
 obtain ⟨h0,rows,hlr,hR,hf⟩:=HO
 refine qy (raw d.sz) base hgd s x t e z bytes ho ht hinfo hz hs0 hb0 v rows cs cs (fun _=>True) (fun _=>False) hs hx (FK_raw hp) (fun _ hk=>hk.elim) (fun _ _=>trivial) (raw_any hR) HB hbase (by rw [hlr];exact hl) ?_
 intro v1 w1 hr hb hg hat
 exact h v1 w1 (N_appended h0 hlr hf (ys:=[p]) (news:=[cs]) rfl (fun j y c hy hc=>by
  rcases j with _|j
  · simp only [List.getElem?_cons_zero,Option.some.injEq] at hy hc
    rw [← hy,← hc];exact hp
  · simp at hy) hokp hfresh hr hg hat) hb hg hat
theorem N_lit (d:Kd α) {w0 W:World} (base e:Nat) (hgd:o.guard=none) {N':Tmp} (_hd:o.dst=some N') {xs:List α} {inner:List Value} {ok okp:Nat→Prop}
 (hrun:(execOp a.eval o).run P W=.ok (.value (.slice (some ⟨W.heap.size,0,none⟩) xs.length xs.length)) (W.alloc (.cells inner.toArray e)))
 (hrep:YM (FK d W okp) d.sz xs inner) (hok:∀ k,okp k→ok k) (hfresh:ok W.heap.size) (HB:Below base w0 W) (hbase:base≤W.heap.size) (hm:xs.length≤9223372036854775807)
 (h:∀ v1 w1,N d e w1 base ok v1 xs→Below base w0 w1→W.grownBy w1 none→(∃ b,v1.ownBlock=some b∧W.heap.size≤b)→wpList P ops Q rest (a.put o.dst v1) w1) :
 wpList P ops Q (o::rest) a W:=by
 refine R_lit (raw d.sz) base e hgd _hd (xs:=chunks d.sz xs.length inner) (inner:=inner) (ok:=fun k=>k=W.heap.size) (okp:=fun _=>False) (by rw [JL];exact hrun) (reps_raw hrep (fun y c hk=>⟨d.qx (FK_now hk),d.qN (FK_now hk)⟩)) (fun _ hk=>hk.elim) rfl HB hbase (by rw [JL];exact hm) ?_
 intro v1 w1 hr hb hg hat
 exact h v1 w1 (N_made hr hg hat (JL _ _ _) (fun j y c hy hc=>by rw [ybp hc];exact hrep.2 j y hy) hok hfresh) hb hg hat
end
end Kd
end Go.Proofs.YtlmennkeggmdbaaGreatDoorW.PrintWords
namespace Go.Proofs.YtlmennkeggmdbaaGreatDoorW.PrintMore
open Go.RowKit Go.Proofs.YtlmennkeggmdbaaGreatDoorW.PrintWords
theorem Yt (k k':IntKind) (x y:Int):Builtin.max2 (.int k x) (.int k' y)=pure (.int k (if x<y then y else x)):=by simp only [Builtin.max2,gt_iff_lt]
theorem Yp (k k':IntKind) (x y:Int):Builtin.min2 (.int k x) (.int k' y)=pure (.int k (if y<x then y else x)):=by simp only [Builtin.min2]
theorem YE (ats:Array TypeId) (ty:TypeId) (a b:Value):Builtin.max_ ats ty #[a,b]=(Builtin.max2 a b >>= fun s=>pure s):=by simp only [Builtin.max_,List.foldlM_cons,List.foldlM_nil]
theorem YB (ats:Array TypeId) (ty:TypeId) (a b:Value):Builtin.min_ ats ty #[a,b]=(Builtin.min2 a b >>= fun s=>pure s):=by simp only [Builtin.min_,List.foldlM_cons,List.foldlM_nil]
theorem Yj (ats:Array TypeId) (ty:TypeId) (a b c:Value):Builtin.max_ ats ty #[a,b,c]=(Builtin.max2 a b >>= fun s=>Builtin.max2 s c >>= fun s=>pure s):=by simp only [Builtin.max_,List.foldlM_cons,List.foldlM_nil]
theorem Yk (ats:Array TypeId) (ty:TypeId) (a b c:Value):Builtin.min_ ats ty #[a,b,c]=(Builtin.min2 a b >>= fun s=>Builtin.min2 s c >>= fun s=>pure s):=by simp only [Builtin.min_,List.foldlM_cons,List.foldlM_nil]
theorem Yu (ats:Array TypeId) (ty:TypeId) (a b c d:Value):Builtin.max_ ats ty #[a,b,c,d]=(Builtin.max2 a b >>= fun s=>Builtin.max2 s c >>= fun s=>Builtin.max2 s d >>= fun s=>pure s):=by simp only [Builtin.max_,List.foldlM_cons,List.foldlM_nil]
theorem Yv (ats:Array TypeId) (ty:TypeId) (a b c d:Value):Builtin.min_ ats ty #[a,b,c,d]=(Builtin.min2 a b >>= fun s=>Builtin.min2 s c >>= fun s=>Builtin.min2 s d >>= fun s=>pure s):=by simp only [Builtin.min_,List.foldlM_cons,List.foldlM_nil]
end Go.Proofs.YtlmennkeggmdbaaGreatDoorW.PrintMore
namespace Go.Proofs.YtlmennkeggmdbaaGreatDoorW.PrintWords
open Go.RowKit
section
variable {P:Program} {ops:Array Oper} {rest:List Oper} {o:Oper} {a:Act} {Q:Exit→Act→World→Prop} {W:World}
theorem yW {f:FuncId} {as:Array Operand} {ts:Array TypeId} (_ho:o.op=.call { callee:=.value (.func f),args:=as,argTypes:=ts }) (h:wpList P ops Q (o::rest) a W):wpList P ops Q (o::rest) a W:=h
theorem Jl {b:Builtin} {xs:Array Operand} {ts:Array TypeId} (_ho:o.op=.call { callee:=.builtin b,args:=xs,argTypes:=ts }) (h:wpList P ops Q (o::rest) a W):wpList P ops Q (o::rest) a W:=h
end
def shl (k:IntKind) (x y:Int):Int:=k.wrap (x * 2 ^ min y.toNat k.bits)
def shr (k:IntKind) (x y:Int):Int:=x / 2 ^ min y.toNat k.bits
theorem drewN_self (w:World) (n:Nat):w.drewN n=w.drewN n:=rfl
end Go.Proofs.YtlmennkeggmdbaaGreatDoorW.PrintWords
namespace Go.Proofs.YtlmennkeggmdbaaGreatDoorW.PrintWords
open Go.RowKit
namespace Kd
def V {α:Type} (d:Kd α) (_e:Nat) (W:World) (_base:Nat) (ok:Nat→Prop) (v:Value) (xs:List α):Prop:=∃ A c,v=.slice A xs.length c∧xs.length≤c∧F d W ok A xs.length xs
section
variable {α β:Type} {d:Kd α} {e base base' n m c g N' lo hi:Nat} {ok ok' S:Nat→Prop} {w W w1:World} {A:Option Addr} {ad:Addr} {u v v1:Value} {xs:List α}
theorem ybe (h:V d e W base ok v xs) (hF:∀ A,F d W ok A xs.length xs→F d w1 ok' A xs.length xs):V d e w1 base' ok' v xs:=by
 obtain ⟨A,c,hv,hl,hf⟩:=h
 exact ⟨A,c,hv,hl,hF A hf⟩
theorem V_mk (hl:xs.length≤c) (hf:F d W ok A xs.length xs):V d e W base ok (.slice A xs.length c) xs:=⟨A,c,rfl,hl,hf⟩
theorem V_slice (h:V d e W base ok v xs):∃ A c,v=.slice A xs.length c:=by
 obtain ⟨A,c,hv,_⟩:=h
 exact ⟨A,c,hv⟩
theorem V_at (h:V d e W base ok (.slice A n c) xs):n=xs.length∧n≤c∧F d W ok A xs.length xs:=by
 obtain ⟨A',c',hv,hl,hf⟩:=h
 injection hv with ha hn hc
 subst ha;subst hc
 exact ⟨hn,by rw [hn];exact hl,hf⟩
theorem yaM (h:V d e W base ok (.slice A n c) xs):n=xs.length∧n≤c∧d.C W A xs.length xs:=⟨(V_at h).1,(V_at h).2.1,F_now (V_at h).2.2⟩
theorem V_F (h:V d e W base ok (.slice A n c) xs):F d W ok A n xs:=by
 obtain ⟨hn,_,hf⟩:=V_at h
 rw [hn]
 exact hf
theorem QV (d:Kd α) (e:Nat) (W:World) (base:Nat) (ok:Nat→Prop):V d e W base ok (.slice none 0 0) []:=⟨none,0,rfl,Nat.le_refl _,F_nil d W ok⟩
theorem R_V (h:d.R e W base ok v xs):V d e W base' ok v xs:=by
 obtain ⟨A,c,rfl⟩:=YF h
 exact ⟨A,c,rfl,(YK h).2.1,R_F h⟩
theorem N_V (h:N d e W base ok v xs):V d e W base' ok v xs:=by
 obtain ⟨A,c,rfl⟩:=QH h
 exact ⟨A,c,rfl,(Qp h).2.1,N_F h⟩
theorem Jf (h:V d e W base ok v xs) (hok:∀ k,ok k→ok' k):V d e W base ok' v xs:=ybe h (fun _ hf=>F_mono hf hok)
theorem V_bound (h:V d e W base ok v xs):V d e W base (fun k=>ok k∧k<W.heap.size) v xs:=ybe h (fun _ hf=>F_bound hf)
theorem V_lower (h:V d e W base ok v xs) (_:base'≤base):V d e W base' ok v xs:=h
theorem yaq (h:V d e W base ok v xs) (hb:Below W.heap.size W w1):V d e w1 base ok v xs:=ybe h (fun _ hf=>ycF hf hb)
theorem V_alloc (h:V d e W base ok v xs) (o:Obj):V d e (W.alloc o) base ok v xs:=ybe h (fun _ hf=>F_alloc hf o)
theorem V_drew (h:V d e W base ok v xs):V d e W.drew base ok v xs:=ybe h (fun _ hf=>F_drew hf)
theorem V_drewN (h:V d e W base ok v xs) (m:Nat):V d e (W.drewN m) base ok v xs:=ybe h (fun _ hf=>F_drewN hf m)
theorem JV (h:V d e W base ok v xs) {p:Addr} (hok:∀ k,ok k→k≠p.block) (u:Value):V d e (W.setCell p u) base ok v xs:=ybe h (fun _ hf=>F_far hf hok u)
theorem V_after (h:V d e W base (fun k=>ok k∧some k≠u.ownBlock) v xs) (hg:W.grownBy w1 u.ownBlock) (hat:v1.ownBlock=u.ownBlock∨∃ b,v1.ownBlock=some b∧W.heap.size≤b):V d e w1 base (fun k=>ok k∧some k≠v1.ownBlock) v xs:=ybe h (fun _ hf=>F_after hf hg hat)
theorem yaL (h:V d e W base (fun k=>ok k∧some k≠v.ownBlock) u xs) (hg:W.grownBy w1 v.ownBlock) (hat:v1.ownBlock=v.ownBlock∨∃ b,v1.ownBlock=some b∧W.heap.size≤b):V d e w1 base (fun k=>ok k∧some k≠v1.ownBlock) u xs:=V_after h hg hat
theorem ycU (h:N d e W base (fun k=>ok k∧some k≠v.ownBlock) u xs) (hg:W.grownBy w1 v.ownBlock) (hat:v1.ownBlock=v.ownBlock∨∃ b,v1.ownBlock=some b∧W.heap.size≤b):N d e w1 base (fun k=>ok k∧some k≠v1.ownBlock) u xs:=N_after h hg hat
theorem V_elderB (h:V d e W base ok v xs) (a:Nat) (ha:W.heap.size≤a):V d e W base (fun k=>ok k∧k≠a) v xs:=ybe h (fun _ hf=>F_elderB hf a ha)
theorem F_cut (h:F d W ok A xs.length xs) (hm:m≤xs.length) (hc:xs.length≤c):F d W ok (if c=m then A else A.map (·.add (m * d.sz))) (xs.drop m).length (xs.drop m):=F_imp h (fun _ hC=>C_drop hC hm hc)
theorem yaJ {M:Nat→Prop} (h:d.R e w1 W.heap.size ok v xs) (hle:w.heap.size≤W.heap.size) (hM:∀ k,w.heap.size≤k→M k):d.R e w1 W.heap.size (fun k=>M k∧ok k) v xs:=Yr (JP h) (fun k hk=>⟨hM k (Nat.le_trans hle hk.2.1),hk.1⟩)
end
end Kd
end Go.Proofs.YtlmennkeggmdbaaGreatDoorW.PrintWords
