/- Part 2 of 44 of the proof of the tied card of FnXfsRead. -/
import Derived.Test.YtdcaggoicdfehaaGreatDoorVz
import Derived.Test.YtdcaggoicdfehaaGreatDoorV0
import Derived.Test.YtdcaggoicdfehaaGreatDoorV1
import Derived.Laws.StructEq
set_option linter.unusedVariables false
set_option linter.unusedSimpArgs false
namespace Go.Proofs.YtdcaggoicdfehaaGreatDoorW.PrintWords
open Go.RowKit
namespace Kd
def tag {α:Type} (f:Nat→Nat) (d:Kd α):Kd (α × Nat) where
 sz:=d.sz
 E:=d.E
 K:=fun w x cs=>d.K w x.1 cs
 M:=fun w base ok x cs=>d.M w base (fun k=>ok k∧f k=x.2) x.1 cs
 qw:=fun h=>d.qw h
 qI:=fun h=>d.qI h
 JH:=fun hb h=>d.JH hb h
 JN:=fun h=>d.JN h
 Jn:=fun hok h=>d.Jn (fun k hk=>⟨hok k hk.1,hk.2⟩) h
 JD:=fun h=>d.Jn (fun _ hk=>⟨⟨hk.1.1,hk.2⟩,hk.1.2⟩) (d.JD h)
 qe:=fun hm h=>d.qe (fun k hk=>hm k hk.1) h
 J1:=fun hb h=>d.J1 hb h
def raw (sz:Nat):Kd (List Value) where
 sz:=sz
 E:=[]
 K:=fun _ x cs=>cs=x∧cs.length=sz∧∀ u ∈ cs,u.oneCell'=true
 M:=fun _ _ _ x cs=>cs=x∧cs.length=sz∧∀ u ∈ cs,u.oneCell'=true
 qw:=fun h=>h.2.1
 qI:=fun h=>h.2.2
 JH:=fun _ h=>h
 JN:=fun h=>h
 Jn:=fun _ h=>h
 JD:=fun h=>h
 qe:=fun _ h=>h
 J1:=fun _ h=>h
def S {α:Type} (d:Kd α) (e:Nat) (w:World) (base:Nat) (ok:Nat→Prop) (v:Value) (xs:List α):Prop:=∃ f,(tag f d).R e w base ok v xs.zipIdx
section
variable {α β:Type} {d:Kd α} {d':Kd β} {e e':Nat} {w w1 W:World} {base b:Nat} {ok ok' okv oku:Nat→Prop} {u v:Value} {xs:List α} {ys:List β}
theorem zip_at {xs:List α} {j:Nat} {p:α} (h:xs[j]?=some p):xs.zipIdx[j]?=some (p,j):=by rw [List.getElem?_zipIdx,h,Nat.zero_add];rfl
theorem S_R (h:S d e w base ok v xs):d.R e w base ok v xs:=by
 obtain ⟨f,h0,inner,ho,hr⟩:=h
 rw [List.length_zipIdx] at ho
 exact ⟨h0,inner,ho,by have:=hr.1;rw [List.length_zipIdx] at this;exact this,fun j p hj=>d.Jn (fun _ hk=>hk.1) (hr.2 j (p,j) (zip_at hj))⟩
theorem R_head {ad:Addr} {n cap:Nat} (h:d.R e w base ok (.slice (some ad) n cap) xs):∃ g,ad=⟨g,0,none⟩:=by
 obtain ⟨_,inner,ho,hr⟩:=h
 rcases ho.2 with ⟨hv,_⟩|⟨g,cap',cur,hv,_⟩
 · cases hv
 · injection hv with ha _ _
   injection ha with ha
   exact ⟨g,ha⟩
theorem R_tight (hE:d.E=[]) (h:d.R e w base ok v xs):d.R e w base (fun k=>some k=v.ownBlock) v xs:=by
 obtain ⟨h0,inner,ho,hr⟩:=h
 refine ⟨fun k hk=>hk.symm,inner,ho,hr.imp_ (fun p c hp=>d.Jn (fun k hk=>?_) (d.JD hp))⟩
 obtain ⟨_,_,_,q,hq,_⟩:=hk
 rw [hE] at hq
 cases hq
theorem yaq (d:Kd α) (e:Nat) (w:World) (base:Nat) (ok:Nat→Prop):S d e w base ok (.slice none 0 0) []:=⟨fun _=>0,qf _ _ _ _ _⟩
theorem S_mono (h:S d e w base ok v xs) (hok:∀ k,ok k→ok' k):S d e w base ok' v xs:=by
 obtain ⟨f,h⟩:=h
 exact ⟨f,YM h hok⟩
theorem S_bound (h:S d e w base ok v xs):S d e w base (fun k=>ok k∧base≤k∧k<w.heap.size∧∃ q,q ∈ e::d.E∧∃ cells,w.heap[k]?=some (.cells cells q (0,0))) v xs:=by
 obtain ⟨f,h⟩:=h
 exact ⟨f,JZ h⟩
theorem S_move (h:S d e w base ok v xs) (hm:∀ k,ok k→w1.heap[k]?=w.heap[k]?):S d e w1 base ok v xs:=by
 obtain ⟨f,h⟩:=h
 exact ⟨f,R_move h hm⟩
theorem S_step (h:S d e w base ok v xs) (hm:∀ k,ok k→k<w.heap.size→w1.heap[k]?=w.heap[k]?):S d e w1 base ok v xs:=
 S_mono (S_move (S_bound h) (fun k hk=>hm k hk.1 hk.2.2.1)) (fun _ hk=>hk.1)
theorem S_below (h:S d e w base ok v xs) (hb:Below w.heap.size w w1):S d e w1 base ok v xs:=S_step h (fun k _ hk=>hb.block k hk)
theorem qO (h:S d e w base ok v xs) (o:Obj):S d e (w.alloc o) base ok v xs:=S_below h (ym (Below.refl _ _) o)
theorem Qu (h:S d e w base ok v xs):S d e w.drew base ok v xs:=S_below h (QO (Below.refl _ _))
theorem qM (h:S d e w base ok v xs) (m:Nat):S d e (w.drewN m) base ok v xs:=S_below h (yn (Below.refl _ _) m)
theorem ybY (h:S d e w base ok v xs):∀ k,v.ownBlock=some k→∃ cells,w.heap[k]?=some (.cells cells e (0,0)):=ybg (S_R h)
theorem ydm (h:S d e W base ok u xs) (hbase:∀ k,v.ownBlock=some k→W.heap.size≤k) (hb:Below W.heap.size W w1):S d e w1 base (fun k=>ok k∧some k≠v.ownBlock) u xs:=by
 obtain ⟨f,h⟩:=h
 exact ⟨f,ydf h hbase hb⟩
theorem R_tag {f f':Nat→Nat} {zs:List (α × Nat)} (h:(tag f d).R e w base ok v zs) (hf:∀ k,ok k→k<w.heap.size→f' k=f k):(tag f' d).R e w base ok v zs:=by
 obtain ⟨h0,inner,ho,hr⟩:=JZ h
 exact ⟨fun k hk=>(h0 k hk).1,inner,ho,hr.1,fun j p hj=>d.Jn (fun k hk=>⟨⟨hk.1.1.1,hk.1.2⟩,(hf k hk.1.1.1 hk.1.1.2.2.1).trans hk.2⟩) (hr.2 j p hj)⟩
end
section
variable {α β:Type} {d:Kd α} {d':Kd β} {e e' g:Nat} {w w1 W:World} {base b:Nat} {ok ok' okv oku:Nat→Prop} {u v:Value} {xs:List α} {ys:List β}
theorem zip_snoc (xs:List α) (p:α):(xs++[p]).zipIdx=xs.zipIdx++[(p,xs.length)]:=by rw [List.zipIdx_append];simp
end
section
open Classical in
theorem S_tag {α:Type} {d:Kd α} {e base:Nat} {okv:Nat→Prop} {w:World} {v:Value} {xs:List α} (h:S d e w base okv v xs) (m:Nat) (okp:Nat→Prop) (hap:∀ k,okp k→¬ okv k):∃ f,(∀ k,okp k→f k=m)∧(tag f d).R e w base okv v xs.zipIdx:=by
 obtain ⟨f,h⟩:=h
 exact ⟨fun k=>if okp k then m else f k,fun k hk=>if_pos hk,R_tag h (fun k hk _=>if_neg (fun h2=>hap k h2 hk))⟩
variable {P:Program} {ops:Array Oper} {rest:List Oper} {o:Oper} {a:Act} {Q:Exit→Act→World→Prop} {Kc:Act→World→Prop} {α:Type}
theorem ydJ (d:Kd α) {w0 W:World} (base:Nat) (hw:Region.wanted o (yielded ops a.tmps)=true) (s x:Operand) (t e:TypeId) (z:Value) (bytes:Nat)
 (ho:o.op=.call { callee:=.builtin .append,args:=#[s,x],argTypes:=#[t,t] })
 (ht:P.underlying t=some (.slice e)) (hinfo:(P.info? e).map (fun i=>(i.zero,i.size,i.bytes))=some (some z,d.sz,bytes)) (hz:z.cells.size=d.sz) (hs0:0<d.sz) (hb0:0<bytes)
 (v:Value) (xs:List α) (p:α) (cs:List Value) (ok okp:Nat→Prop) (hs:a.eval s=v) (hx:a.eval x=.slice (some ⟨W.heap.size,0,none⟩) 1 1) (hp:d.M W base okp p cs) (hokp:∀ k,okp k→ok k∧some k≠v.ownBlock) (hfresh:∀ k,W.heap.size≤k→ok k)
 (HO:S d e W base (fun k=>ok k∧¬ okp k) v xs) (HB:Below base w0 W) (hbase:base≤W.heap.size) (hl:(xs.length+1) * bytes≤140737488355328)
 (h:∀ v1 w1,S d e w1 base ok v1 (xs++[p])→Below base w0 w1→W.grownBy w1 v.ownBlock→(v1.ownBlock=v.ownBlock∨∃ b,v1.ownBlock=some b∧W.heap.size≤b)→Kc (a.put o.dst v1) w1) :
 if Region.wanted o (yielded ops a.tmps)=true then Oper.wp P o a (W.alloc (.cells cs.toArray e)) Kc Q else Kc (a.put o.dst undef) (W.alloc (.cells cs.toArray e)):=by
 obtain ⟨f,hf,hR⟩:=S_tag HO xs.length okp (fun _ hk h2=>h2.2 hk)
 refine Q7 (tag f d) base hw s x t e z bytes ho ht hinfo hz hs0 hb0 v xs.zipIdx (p,xs.length) cs ok okp hs hx (d.Jn (fun k hk=>⟨hk,hf k hk⟩) hp) hokp hfresh (YM hR (fun _ hk=>hk.1)) HB hbase (by rw [List.length_zipIdx];exact hl) ?_
 intro v1 w1 hr
 rw [← zip_snoc] at hr
 exact h v1 w1 ⟨f,hr⟩
end
def gap {α:Type} (f:Nat→Nat) (d:Kd α) (i:Nat) (c:List Value):Kd (α × Nat) where
 sz:=d.sz
 E:=d.E
 K:=fun w x cs=>(x.2=i→cs=c∧cs.length=d.sz∧∀ u ∈ cs,u.oneCell'=true)∧(x.2≠i→d.K w x.1 cs)
 M:=fun w base ok x cs=>(x.2=i→cs=c∧cs.length=d.sz∧∀ u ∈ cs,u.oneCell'=true)∧(x.2≠i→d.M w base (fun k=>ok k∧f k=x.2) x.1 cs)
 qw:=fun {w x cs} h=>by
  by_cases hx:x.2=i
  · exact (h.1 hx).2.1
  · exact d.qw (h.2 hx)
 qI:=fun {w x cs} h=>by
  by_cases hx:x.2=i
  · exact (h.1 hx).2.2
  · exact d.qI (h.2 hx)
 JH:=fun hb h=>⟨h.1,fun hx=>d.JH hb (h.2 hx)⟩
 JN:=fun h=>⟨h.1,fun hx=>d.JN (h.2 hx)⟩
 Jn:=fun hok h=>⟨h.1,fun hx=>d.Jn (fun k hk=>⟨hok k hk.1,hk.2⟩) (h.2 hx)⟩
 JD:=fun h=>⟨h.1,fun hx=>d.Jn (fun _ hk=>⟨⟨hk.1.1,hk.2⟩,hk.1.2⟩) (d.JD (h.2 hx))⟩
 qe:=fun hm h=>⟨h.1,fun hx=>d.qe (fun k hk=>hm k hk.1) (h.2 hx)⟩
 J1:=fun hb h=>⟨h.1,fun hx=>d.J1 hb (h.2 hx)⟩
def H {α:Type} (d:Kd α) (e:Nat) (w:World) (base:Nat) (ok:Nat→Prop) (v:Value) (xs:List α) (i:Int) (oki:Nat→Prop) (c:List Value):Prop:=
 (∀ k,oki k→ok k)∧∃ f,(gap f d i.toNat c).R e w base (fun k=>ok k∧¬ oki k) v xs.zipIdx
end Kd
end Go.Proofs.YtdcaggoicdfehaaGreatDoorW.PrintWords


namespace Go.Proofs.YtdcaggoicdfehaaGreatDoorW.PrintWords
open Go.RowKit
namespace Kd
structure Heap {α:Type} (d:Kd α):Prop where
 K:∀ {w w1:World} {x:α} {cs:List Value},(∀ k,k<w.heap.size→w1.heap[k]?=w.heap[k]?)→d.K w x cs→d.K w1 x cs
theorem qX {w w1:World} (hb:∀ k,k<w.heap.size→w1.heap[k]?=w.heap[k]?) {a:Addr} {v:Value} (h:w.cell? a=some v):w1.cell? a=some v:=by
 have:=hb a.block (World.block_lt_of_cell? w a h)
 simpa [World.cell?,this] using h
theorem Heap.C {α:Type} {d:Kd α} (hd:Heap d) {w w1:World} {A:Option Addr} {n:Nat} {xs:List α} (hb:∀ k,k<w.heap.size→w1.heap[k]?=w.heap[k]?) (h:d.C w A n xs):d.C w1 A n xs:=
 ⟨h.1,h.2.1,fun hn=>by
  obtain ⟨ad,e,hc⟩:=h.2.2 hn
  refine ⟨ad,e,fun j p hj=>?_⟩
  obtain ⟨c,hs,hr,hcell⟩:=hc j p hj
  exact ⟨c,hs,hd.K hb hr,fun i u hu=>qX hb (hcell i u hu)⟩⟩
end Kd
end Go.Proofs.YtdcaggoicdfehaaGreatDoorW.PrintWords
namespace Go.Proofs.YtdcaggoicdfehaaGreatDoorW.PrintWords
open Go.RowKit
def Kept (w W:World) (S:Nat→Prop):Prop:=w.heap.size≤W.heap.size∧∀ i,i<w.heap.size→¬ S i→W.heap[i]?=w.heap[i]?
section
variable {w W W2:World} {S S2 S':Nat→Prop}
theorem Kept.of_below (h:Below w.heap.size w W) (S:Nat→Prop):Kept w W S:=⟨h.size,fun i hi _=>h.block i hi⟩
theorem Kept.mono (h:Kept w W S) (hs:∀ k,S k→S' k):Kept w W S':=⟨h.1,fun i hi hn=>h.2 i hi (fun hk=>hn (hs i hk))⟩
theorem Kept.then_ (h:Kept w W S) (k:Kept W W2 S2) (hs:∀ k,S2 k→S k∨w.heap.size≤k):Kept w W2 S:=
 ⟨Nat.le_trans h.1 k.1,fun i hi hn=>(k.2 i (Nat.lt_of_lt_of_le hi h.1) (fun h2=>(hs i h2).elim hn (fun h3=>by omega))).trans (h.2 i hi hn)⟩
theorem Kept.below (h:Kept w W S) (hb:Below W.heap.size W W2):Kept w W2 S:=h.then_ (Kept.of_below hb (fun _=>False)) (fun _ hk=>hk.elim)
theorem Kept.alloc (h:Kept w W S) (o:Obj):Kept w (W.alloc o) S:=h.below (ym (Below.refl _ _) o)
theorem Kept.drew (h:Kept w W S):Kept w W.drew S:=h
theorem Kept.setCell (h:Kept w W S) {p:Addr} (hp:S p.block∨w.heap.size≤p.block) (u:Value):Kept w (W.setCell p u) S:=
 h.then_ (S2:=fun k=>k=p.block) ⟨by simp [World.setCell],fun i _ hn=>Below.heap_setCell W p u i hn⟩ (fun k hk=>by rw [hk];exact hp)
end
end Go.Proofs.YtdcaggoicdfehaaGreatDoorW.PrintWords
namespace Go.Proofs.YtdcaggoicdfehaaGreatDoorW.PrintWords
open Go.RowKit
def QP (P:World→Prop) (W:World) (ok:Nat→Prop):Prop:=∀ W':World,(∀ k,ok k→k<W.heap.size→W'.heap[k]?=W.heap[k]?)→P W'
theorem heap_lt {W W1:World} {k:Nat} (h:W1.heap[k]?=W.heap[k]?) (hlt:k<W.heap.size):k<W1.heap.size:=by
 rw [Array.getElem?_eq_getElem hlt] at h
 exact (Array.getElem?_eq_some_iff.1 h).1
namespace QP
variable {P Q:World→Prop} {W W1:World} {ok ok':Nat→Prop}
theorem now (h:QP P W ok):P W:=h W (fun _ _ _=>rfl)
theorem mono (h:QP P W ok) (hok:∀ k,ok k→ok' k):QP P W ok':=fun W' hW=>h W' (fun k hk hlt=>hW k (hok k hk) hlt)
theorem bound (h:QP P W ok):QP P W (fun k=>ok k∧k<W.heap.size):=fun W' hW=>h W' (fun k hk hlt=>hW k ⟨hk,hlt⟩ hlt)
theorem step (h:QP P W ok) (hm:∀ k,ok k→k<W.heap.size→W1.heap[k]?=W.heap[k]?):QP P W1 ok:=fun W' hW=>h W' (fun k hk hlt=>(hW k hk (heap_lt (hm k hk hlt) hlt)).trans (hm k hk hlt))
theorem old (h:QP P W ok) (hb:Below W.heap.size W W1):QP P W1 (fun k=>ok k∧k<W.heap.size):=(h.bound).step (fun k _ hlt=>hb.block k hlt)
end QP
namespace Kd
def F {α:Type} (d:Kd α) (W:World) (ok:Nat→Prop) (A:Option Addr) (n:Nat) (xs:List α):Prop:=QP (fun W=>d.C W A n xs) W ok
def FK {α:Type} (d:Kd α) (W:World) (ok:Nat→Prop) (x:α) (c:List Value):Prop:=QP (fun W=>d.K W x c) W ok
section
variable {α β:Type} {d:Kd α} {e base n n' cc g N:Nat} {ok ok' okp S:Nat→Prop} {w w0 w1 W W1:World} {A A':Option Addr} {u v v1:Value} {xs:List α} {xs':List β} {d':Kd β} {x:α} {c:List Value}
theorem F_now (h:F d W ok A n xs):d.C W A n xs:=QP.now h
theorem F_mono (h:F d W ok A n xs) (hok:∀ k,ok k→ok' k):F d W ok' A n xs:=QP.mono h hok
theorem F_bound (h:F d W ok A n xs):F d W (fun k=>ok k∧k<W.heap.size) A n xs:=QP.bound h
theorem F_step (h:F d W ok A n xs) (hm:∀ k,ok k→k<W.heap.size→W1.heap[k]?=W.heap[k]?):F d W1 ok A n xs:=QP.step h hm
theorem YN (h:F d W ok A n xs) (hb:Below W.heap.size W W1):F d W1 ok A n xs:=F_step h (fun k _ hlt=>hb.block k hlt)
theorem F_alloc (h:F d W ok A n xs) (o:Obj):F d (W.alloc o) ok A n xs:=YN h (ym (Below.refl _ _) o)
theorem F_drew (h:F d W ok A n xs):F d W.drew ok A n xs:=YN h (QO (Below.refl _ _))
theorem F_drewN (h:F d W ok A n xs) (m:Nat):F d (W.drewN m) ok A n xs:=YN h (yn (Below.refl _ _) m)
theorem F_far (h:F d W ok A n xs) {p:Addr} (hok:∀ k,ok k→k≠p.block) (u:Value):F d (W.setCell p u) ok A n xs:=F_step h (fun k hk _=>Below.heap_setCell W p u k (hok k hk))
theorem F_nil (d:Kd α) (W:World) (ok:Nat→Prop):F d W ok none ([]:List α).length []:=fun W' _=>C_nil d W'
theorem F_elder' (h:F d W ok A n xs) (hbase:∀ k,v.ownBlock=some k→W.heap.size≤k) (hb:Below W.heap.size W W1):F d W1 (fun k=>ok k∧some k≠v.ownBlock) A n xs:=
 F_mono (QP.old h hb) (fun k hk=>⟨hk.1,fun he=>by have:=hbase k he.symm;have:=hk.2;omega⟩)
theorem F_elderB (h:F d W ok A n xs) (a:Nat) (ha:W.heap.size≤a):F d W (fun k=>ok k∧k≠a) A n xs:=F_mono (F_bound h) (fun k hk=>⟨hk.1,by have:=hk.2;omega⟩)
theorem F_after (h:F d W (fun k=>ok k∧some k≠v.ownBlock) A n xs) (hg:W.grownBy W1 v.ownBlock) (hat:v1.ownBlock=v.ownBlock∨∃ b,v1.ownBlock=some b∧W.heap.size≤b):F d W1 (fun k=>ok k∧some k≠v1.ownBlock) A n xs:=by
 refine F_mono (QP.step (F_bound h) (fun k hk hlt=>hg.block k hlt hk.1.2)) (fun k hk=>⟨hk.1.1,?_⟩)
 rcases hat with hat|⟨b,hb,hle⟩
 · rw [hat];exact hk.1.2
 · rw [hb]
   intro he
   injection he with he
   have:=hk.2
   omega
theorem R_F (h:d.R e W base ok (.slice A n cc) xs):F d W ok A n xs:=fun W' hW=>by
 have h2:=Jt (qH h hW)
 rw [h2.1]
 exact h2.2.2
theorem ybH (h:FK d W ok x c):d.K W x c:=QP.now h
theorem ya8 (h:FK d W ok x c) (hok:∀ k,ok k→ok' k):FK d W ok' x c:=QP.mono h hok
theorem ycU (h:FK d W ok x c):FK d W (fun k=>ok k∧k<W.heap.size) x c:=QP.bound h
theorem FK_step (h:FK d W ok x c) (hm:∀ k,ok k→k<W.heap.size→W1.heap[k]?=W.heap[k]?):FK d W1 ok x c:=QP.step h hm
theorem FK_of_M (h:d.M W base ok x c):FK d W ok x c:=fun _ hW=>d.JN (M_step h hW)
theorem emptied (W:World) (g:Nat):∃ W':World,(∀ k,k≠g→W'.heap[k]?=W.heap[k]?)∧∀ a:Addr,a.block=g→W'.cell? a=none:=by
 refine ⟨{ W with heap:=W.heap.setIfInBounds g (.cells #[] 0) },fun k hk=>by simp [Ne.symm hk],fun a ha=>?_⟩
 subst ha
 by_cases hlt:a.block<W.heap.size
 · simp [World.cell?,hlt]
 · simp [World.cell?,hlt]
end
end Kd
end Go.Proofs.YtdcaggoicdfehaaGreatDoorW.PrintWords
namespace Go.Proofs.YtdcaggoicdfehaaGreatDoorW.PrintWords
open Go.RowKit
namespace Kd
def chunks (sz:Nat) (n:Nat) (inner:List Value):List (List Value):=(List.range n).map fun j=>(inner.drop (j * sz)).take sz
theorem JR (sz n:Nat) (inner:List Value):(chunks sz n inner).length=n:=by simp [chunks]
theorem chunks_at {sz n:Nat} {inner:List Value} {j:Nat} (hj:j<n):(chunks sz n inner)[j]?=some ((inner.drop (j * sz)).take sz):=by simp [chunks,hj]
theorem ybv {sz n:Nat} {inner:List Value} {j:Nat} {c:List Value} (h:(chunks sz n inner)[j]?=some c):c=(inner.drop (j * sz)).take sz:=by
 have hj:j<n:=by have:=(List.getElem?_eq_some_iff.1 h).1;rwa [JR] at this
 rw [chunks_at hj] at h
 injection h with h
 exact h.symm
theorem reps_raw {α:Type} {Rr:α→List Value→Prop} {sz:Nat} {xs:List α} {inner:List Value} (h:YD Rr sz xs inner) (hR:∀ x c,Rr x c→c.length=sz∧∀ u ∈ c,u.oneCell'=true):YD (fun x cs=>cs=x∧cs.length=sz∧∀ u ∈ cs,u.oneCell'=true) sz (chunks sz xs.length inner) inner:=by
 refine ⟨by rw [JR];exact h.1,fun j p hj=>?_⟩
 have hjl:j<xs.length:=by have:=(List.getElem?_eq_some_iff.1 hj).1;rwa [JR] at this
 have hp:=ybv hj
 exact ⟨hp.symm,hR _ _ (h.2 j _ (List.getElem?_eq_getElem hjl))⟩
section
variable {α:Type} {d:Kd α} {e base n cc g:Nat} {ok ok' okp S:Nat→Prop} {w w1 W W1:World} {A:Option Addr} {u v v1:Value} {xs:List α} {x:α} {c:List Value}
theorem F_get (h:F d W ok A n xs) (z:α) (i:Int) (h0:0≤i) (h1:i<n) :
 ∃ ad c,A=some ad∧c.length=d.sz∧FK d W ok (xs.getD i.toNat z) c∧(∀ j u,c[j]?=some u→W.cell? (ad.add (i.toNat * d.sz+j))=some u)∧(0<d.sz→ok ad.block):=by
 obtain ⟨ad,c,rfl,hcl,hK,hcc⟩:=ybX (F_now h) z i h0 h1
 have hin:0<d.sz→ok ad.block:=by
  intro hs
  by_cases hk:ok ad.block
  · exact hk
  · obtain ⟨W',h2,h3⟩:=emptied W ad.block
    obtain ⟨ad',c',he,hcl',_,hcc'⟩:=ybX (h W' (fun k hk' _=>h2 k (fun e=>hk (e ▸ hk')))) z i h0 h1
    injection he with he
    subst he
    have h4:=hcc' 0 _ (List.getElem?_eq_getElem Zo)
    rw [h3 _ (yb9 _ _)] at h4
    cases h4
 refine ⟨ad,c,rfl,hcl,fun W' hW=>?_,hcc,hin⟩
 obtain ⟨ad',c',he,hcl',hK',hcc'⟩:=ybX (h W' hW) z i h0 h1
 injection he with he
 subst he
 have hc:c=c':=by
  apply List.ext_getElem?
  intro j
  by_cases hj:j<d.sz
  · have hb:W'.heap[ad.block]?=W.heap[ad.block]?:=by
     have h5:=hcc j _ (List.getElem?_eq_getElem Zo)
     have h6:=World.block_lt_of_cell? W _ h5
     rw [yb9] at h6
     exact hW _ (hin Zo) h6
    have h5:=hcc j _ (List.getElem?_eq_getElem Zo)
    have h6:=hcc' j _ (List.getElem?_eq_getElem Zo)
    have h7:W'.cell? (ad.add (i.toNat * d.sz+j))=W.cell? (ad.add (i.toNat * d.sz+j)):=by simp [World.cell?,yb9,hb]
    rw [h7,h5] at h6
    rw [List.getElem?_eq_getElem Zo,List.getElem?_eq_getElem Zo]
    exact h6
  · rw [List.getElem?_eq_none Zo,List.getElem?_eq_none Zo]
 rw [hc]
 exact hK'
def N {α:Type} (d:Kd α) (e:Nat) (w:World) (base:Nat) (ok:Nat→Prop) (v:Value) (xs:List α):Prop:=
 (∀ k,v.ownBlock=some k→ok k)∧∃ rows:List (List Value),rows.length=xs.length∧(raw d.sz).R e w base (fun k=>some k=v.ownBlock) v rows∧∀ (j:Nat) (x:α) (c:List Value),xs[j]?=some x→rows[j]?=some c→FK d w (fun k=>ok k∧some k≠v.ownBlock) x c
theorem raw_tight {sz:Nat} {rows:List (List Value)} (h:(raw sz).R e w base ok v rows):(raw sz).R e w base (fun k=>some k=v.ownBlock) v rows:=R_tight rfl h
theorem raw_any {sz:Nat} {rows:List (List Value)} (h:(raw sz).R e w base ok v rows):(raw sz).R e w base (fun _=>True) v rows:=YM h (fun _ _=>trivial)
theorem R_N (h:d.R e w base ok v xs):N d e w base ok v xs:=by
 obtain ⟨h0,inner,ho,hr⟩:=h
 refine ⟨h0,chunks d.sz xs.length inner,JR _ _ _,⟨fun k hk=>hk.symm,inner,by rw [JR];exact ho,reps_raw hr (fun x c hp=>⟨d.qw (d.JN hp),d.qI (d.JN hp)⟩)⟩,fun j x c hx hc=>?_⟩
 rw [ybv hc]
 exact FK_of_M (hr.2 j x hx)
theorem yao (d:Kd α) (e:Nat) (w:World) (base:Nat) (ok:Nat→Prop):N d e w base ok (.slice none 0 0) []:=R_N (qf _ _ _ _ _)
theorem Jf (h:N d e w base ok v xs) (hok:∀ k,ok k→ok' k):N d e w base ok' v xs:=by
 obtain ⟨h0,rows,hl,hR,hf⟩:=h
 exact ⟨fun k hk=>hok k (h0 k hk),rows,hl,hR,fun j x c hx hc=>ya8 (hf j x c hx hc) (fun k hk=>⟨hok k hk.1,hk.2⟩)⟩
theorem N_lt (h:N d e w base ok v xs):∀ k,v.ownBlock=some k→k<w.heap.size:=by
 obtain ⟨_,rows,_,hR,_⟩:=h
 exact R_lt hR
theorem N_base (h:N d e w base ok v xs):∀ k,v.ownBlock=some k→base≤k:=by
 obtain ⟨_,rows,_,hR,_⟩:=h
 exact ycb hR
theorem N_ne (h:N d e w base ok v xs) {t:Nat} {cells:Array Value} (hb:w.heap[g]?=some (.cells cells t (0,0))) (ht:e≠t):some g≠v.ownBlock:=by
 obtain ⟨_,rows,_,hR,_⟩:=h
 exact R_ne hR hb ht
theorem N_away (h:N d e w base ok v xs) (hok:∀ k,ok k→k≠g):some g≠v.ownBlock:=fun he=>hok g (h.1 g he.symm) rfl
theorem N_bound (h:N d e w base ok v xs):N d e w base (fun k=>ok k∧k<w.heap.size) v xs:=by
 have hlt:=N_lt h
 obtain ⟨h0,rows,hl,hR,hf⟩:=h
 exact ⟨fun k hk=>⟨h0 k hk,hlt k hk⟩,rows,hl,hR,fun j x c hx hc=>ya8 (ycU (hf j x c hx hc)) (fun k hk=>⟨⟨hk.1.1,hk.2⟩,hk.1.2⟩)⟩
theorem ybJ {base':Nat} (h:N d e w base ok v xs) (hb:base'≤base):N d e w base' ok v xs:=by
 obtain ⟨h0,rows,hl,hR,hf⟩:=h
 exact ⟨h0,rows,hl,JU hR hb,hf⟩
theorem N_step (h:N d e w base ok v xs) (hm:∀ k,ok k→k<w.heap.size→w1.heap[k]?=w.heap[k]?):N d e w1 base ok v xs:=by
 obtain ⟨h0,rows,hl,hR,hf⟩:=h
 exact ⟨h0,rows,hl,qH hR (fun k hk hlt=>hm k (h0 k hk.symm) hlt),fun j x c hx hc=>FK_step (hf j x c hx hc) (fun k hk hlt=>hm k hk.1 hlt)⟩
theorem Jy (h:N d e w base ok v xs) (hb:Below w.heap.size w w1):N d e w1 base ok v xs:=N_step h (fun k _ hk=>hb.block k hk)
theorem N_alloc (h:N d e w base ok v xs) (o:Obj):N d e (w.alloc o) base ok v xs:=Jy h (ym (Below.refl _ _) o)
theorem N_drew (h:N d e w base ok v xs):N d e w.drew base ok v xs:=Jy h (QO (Below.refl _ _))
theorem N_drewN (h:N d e w base ok v xs) (m:Nat):N d e (w.drewN m) base ok v xs:=Jy h (yn (Below.refl _ _) m)
theorem JW (h:N d e w base ok v xs) {p:Addr} (hok:∀ k,ok k→k≠p.block) (u:Value):N d e (w.setCell p u) base ok v xs:=N_step h (fun k ho _=>Below.heap_setCell w p u k (hok k ho))
theorem N_elder' (h:N d e W base ok v xs) (hbase:∀ k,u.ownBlock=some k→W.heap.size≤k) (hb:Below W.heap.size W w1):N d e w1 base (fun k=>ok k∧some k≠u.ownBlock) v xs:=
 Jf (Jy (N_bound h) hb) (fun k hk=>⟨hk.1,fun he=>by have:=hbase k he.symm;have:=hk.2;omega⟩)
theorem yan (h:N d e w base ok v xs) (a:Nat) (ha:w.heap.size≤a):N d e w base (fun k=>ok k∧k≠a) v xs:=Jf (N_bound h) (fun k hk=>⟨hk.1,by have:=hk.2;omega⟩)
theorem N_after (h:N d e W base (fun k=>ok k∧some k≠u.ownBlock) v xs) {u1:Value} (hg:W.grownBy w1 u.ownBlock) (hat:u1.ownBlock=u.ownBlock∨∃ b,u1.ownBlock=some b∧W.heap.size≤b):N d e w1 base (fun k=>ok k∧some k≠u1.ownBlock) v xs:=by
 refine Jf (N_step (N_bound h) (fun k hk hlt=>hg.block k hlt hk.1.2)) (fun k hk=>⟨hk.1.1,?_⟩)
 rcases hat with hat|⟨b,hb,hle⟩
 · rw [hat];exact hk.1.2
 · rw [hb]
   intro he
   injection he with he
   have:=hk.2
   omega
theorem yaC (h:N d e w base ok v xs):∃ A c,v=.slice A xs.length c:=by
 obtain ⟨_,rows,hl,hR,_⟩:=h
 obtain ⟨A,c,he⟩:=Y7 hR
 exact ⟨A,c,by rw [he,hl]⟩
theorem ya5 {n c:Nat} (h:N d e w base ok (.slice A n c) xs):n=xs.length∧n≤c∧d.C w A xs.length xs:=by
 obtain ⟨_,rows,hl,hR,hf⟩:=h
 obtain ⟨hn,hc,hC⟩:=Jt hR
 refine ⟨by omega,hc,?_⟩
 rw [hl] at hC
 refine ⟨rfl,hC.2.1,fun hp=>?_⟩
 obtain ⟨ad,he,hcell⟩:=hC.2.2 hp
 refine ⟨ad,he,fun j p hj=>?_⟩
 have hjl:j<rows.length:=by have:=(List.getElem?_eq_some_iff.1 hj).1;omega
 obtain ⟨c',hcl,hK,hcc⟩:=hcell j _ (List.getElem?_eq_getElem hjl)
 have hk:=ybH (hf j p _ hj (List.getElem?_eq_getElem hjl))
 refine ⟨c',hcl,?_,hcc⟩
 rw [show c'=rows[j] from hK.1]
 exact hk
theorem N_F {n:Nat} (h:N d e w base ok (.slice A n cc) xs):F d w ok A n xs:=fun W' hW=>by
 have h2:=ya5 (N_step h hW)
 rw [h2.1]
 exact h2.2.2
theorem N_elem {n cap:Nat} (h:N d e W base ok (.slice (some ⟨g,0,none⟩) n cap) xs) (z:α) (i:Int) (h0:0≤i) (h1:i<n) :
 ∃ c,c.length=d.sz∧FK d W (fun k=>ok k∧k≠g) (xs.getD i.toNat z) c∧(∀ j u,c[j]?=some u→W.cell? ⟨g,i.toNat * d.sz+j,none⟩=some u)∧∀ j,W.frozen? ⟨g,i.toNat * d.sz+j,none⟩=false:=by
 obtain ⟨_,rows,hl,hR,hf⟩:=h
 have hn:=(Jt hR).1
 obtain ⟨c,hcl,hM,hcc,hfr⟩:=R_elem hR [] i h0 h1
 have hil:i.toNat<rows.length:=by omega
 have hil':i.toNat<xs.length:=by omega
 have hc:c=rows[i.toNat]:=by
  have h2:=hM.1
  rwa [List.getD_eq_getElem?_getD,List.getElem?_eq_getElem hil] at h2
 refine ⟨c,hcl,?_,hcc,hfr⟩
 rw [List.getD_eq_getElem?_getD,List.getElem?_eq_getElem hil']
 exact ya8 (hf _ _ _ (List.getElem?_eq_getElem hil') (by rw [hc];exact List.getElem?_eq_getElem hil)) (fun k hk=>⟨hk.1,fun he=>hk.2 (by rw [he];simp [Value.ownBlock])⟩)
theorem N_get {ad:Addr} {n cap:Nat} (h:N d e W base ok (.slice (some ad) n cap) xs) (z:α) (i:Int) (h0:0≤i) (h1:i<n) :
 ∃ c,c.length=d.sz∧FK d W (fun k=>ok k∧some k≠(Value.slice (some ad) n cap).ownBlock) (xs.getD i.toNat z) c∧∀ j u,c[j]?=some u→W.cell? (ad.add (i.toNat * d.sz+j))=some u:=by
 obtain ⟨g,rfl⟩:∃ g,ad=⟨g,0,none⟩:=by
  obtain ⟨_,rows,_,hR,_⟩:=h
  exact R_head hR
 obtain ⟨c,hcl,hM,hcc,_⟩:=N_elem h z i h0 h1
 refine ⟨c,hcl,ya8 hM (fun k hk=>⟨hk.1,fun he=>hk.2 (by simpa [Value.ownBlock] using he)⟩),fun j u hu=>?_⟩
 rw [add_at,Nat.zero_add]
 exact hcc j u hu
end
end Kd
end Go.Proofs.YtdcaggoicdfehaaGreatDoorW.PrintWords



namespace Go.Proofs.YtdcaggoicdfehaaGreatDoorW.PrintWords
theorem YD.one {α:Type} {R:α→List Value→Prop} {ps:List α} {cs:List Value} {p:α} {v:Value} (hp:R p [v]) (h:YD R 1 ps cs):YD R 1 (p::ps) (v::cs):=by
 refine ⟨by simp [h.1],fun j q hq=>?_⟩
 cases j with
 | zero=>
  simp only [List.getElem?_cons_zero,Option.some.injEq] at hq
  subst hq
  simpa using hp
 | succ j=>
  simp only [List.getElem?_cons_succ] at hq
  have h1:=h.2 j q hq
  simpa [Nat.mul_one] using h1
theorem YD.front {α:Type} {R:α→List Value→Prop} {size:Nat} {ps:List α} {cs c all:List Value} {p:α} (hp:R p c) (hc:c.length=size) (h:YD R size ps cs) (ha:c++cs=all):YD R size (p::ps) all:=by
 subst ha
 refine ⟨by rw [List.length_append,hc,h.1,List.length_cons,Nat.succ_mul,Nat.add_comm],fun j q hq=>?_⟩
 cases j with
 | zero=>
  simp only [List.getElem?_cons_zero,Option.some.injEq] at hq
  subst hq
  rw [Nat.zero_mul,List.drop_zero,List.take_append_of_le_length Zo,List.take_of_length_le Zo]
  exact hp
 | succ j=>
  simp only [List.getElem?_cons_succ] at hq
  have h1:=h.2 j q hq
  rw [Nat.succ_mul,List.drop_append,List.drop_of_length_le (by rw [hc];exact Nat.le_add_left _ _),List.nil_append,hc,Nat.add_sub_cancel]
  exact h1
theorem YD.c2 {α:Type} {R:α→List Value→Prop} {ps:List α} {cs:List Value} {p:α} {va vb:Value} (hp:R p [va,vb]) (h:YD R 2 ps cs):YD R 2 (p::ps) (va::vb::cs):=YD.front hp rfl h rfl
theorem YD.c3 {α:Type} {R:α→List Value→Prop} {ps:List α} {cs:List Value} {p:α} {va vb vc:Value} (hp:R p [va,vb,vc]) (h:YD R 3 ps cs):YD R 3 (p::ps) (va::vb::vc::cs):=YD.front hp rfl h rfl
theorem YD.c4 {α:Type} {R:α→List Value→Prop} {ps:List α} {cs:List Value} {p:α} {va vb vc vd:Value} (hp:R p [va,vb,vc,vd]) (h:YD R 4 ps cs):YD R 4 (p::ps) (va::vb::vc::vd::cs):=YD.front hp rfl h rfl
theorem YD.c5 {α:Type} {R:α→List Value→Prop} {ps:List α} {cs:List Value} {p:α} {va vb vc vd ve:Value} (hp:R p [va,vb,vc,vd,ve]) (h:YD R 5 ps cs):YD R 5 (p::ps) (va::vb::vc::vd::ve::cs):=YD.front hp rfl h rfl
theorem YD.c6 {α:Type} {R:α→List Value→Prop} {ps:List α} {cs:List Value} {p:α} {va vb vc vd ve vf:Value} (hp:R p [va,vb,vc,vd,ve,vf]) (h:YD R 6 ps cs):YD R 6 (p::ps) (va::vb::vc::vd::ve::vf::cs):=YD.front hp rfl h rfl
theorem YD.c7 {α:Type} {R:α→List Value→Prop} {ps:List α} {cs:List Value} {p:α} {va vb vc vd ve vf vg:Value} (hp:R p [va,vb,vc,vd,ve,vf,vg]) (h:YD R 7 ps cs):YD R 7 (p::ps) (va::vb::vc::vd::ve::vf::vg::cs):=YD.front hp rfl h rfl
theorem YD.c8 {α:Type} {R:α→List Value→Prop} {ps:List α} {cs:List Value} {p:α} {va vb vc vd ve vf vg vh:Value} (hp:R p [va,vb,vc,vd,ve,vf,vg,vh]) (h:YD R 8 ps cs):YD R 8 (p::ps) (va::vb::vc::vd::ve::vf::vg::vh::cs):=YD.front hp rfl h rfl
theorem YD.c9 {α:Type} {R:α→List Value→Prop} {ps:List α} {cs:List Value} {p:α} {va vb vc vd ve vf vg vh vi:Value} (hp:R p [va,vb,vc,vd,ve,vf,vg,vh,vi]) (h:YD R 9 ps cs):YD R 9 (p::ps) (va::vb::vc::vd::ve::vf::vg::vh::vi::cs):=YD.front hp rfl h rfl
theorem YD.c10 {α:Type} {R:α→List Value→Prop} {ps:List α} {cs:List Value} {p:α} {va vb vc vd ve vf vg vh vi vj:Value} (hp:R p [va,vb,vc,vd,ve,vf,vg,vh,vi,vj]) (h:YD R 10 ps cs):YD R 10 (p::ps) (va::vb::vc::vd::ve::vf::vg::vh::vi::vj::cs):=YD.front hp rfl h rfl
end Go.Proofs.YtdcaggoicdfehaaGreatDoorW.PrintWords
