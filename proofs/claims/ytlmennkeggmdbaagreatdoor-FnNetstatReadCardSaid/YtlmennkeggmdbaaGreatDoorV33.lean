/- Part 33 of 34 of the proof of the tied card of FnNetstatRead. -/
import Derived.Test.YtlmennkeggmdbaaGreatDoorVz
import Derived.Test.YtlmennkeggmdbaaGreatDoorV32
import Derived.Test.YtlmennkeggmdbaaGreatDoorV28
set_option linter.unusedVariables false
set_option linter.unusedSimpArgs false
namespace Go.Proofs.YtlmennkeggmdbaaGreatDoor
open Go.RowKit Go.Proofs.YtlmennkeggmdbaaGreatDoorW.PrintWords Go.Proofs.YtlmennkeggmdbaaGreatDoorW.PrintLast Go.Proofs.YtlmennkeggmdbaaGreatDoorW.PrintMore
theorem begins_ok (s:ByteArray) (hs:s.size≤1000000):∃ b,JC.f s ⟨#[45]⟩=some b∧(b=true→1≤s.size):=by
 have h1:(⟨#[45]⟩:ByteArray).size=1:=rfl
 by_cases h:1≤s.size
 · refine ⟨(s.extract 0 ((((⟨#[45]⟩:ByteArray).size:Nat):Int)).toNat).toList == (⟨#[45]⟩:ByteArray).toList,?_,fun _=>h⟩
   unfold JC.f
   rw [if_pos (by rw [h1];omega),if_pos Zo,if_pos (by rw [h1];omega)]
 · refine ⟨false,?_,fun h=>by cases h⟩
   unfold JC.f
   rw [if_neg (by rw [h1];omega)]
theorem ends_ok (s:ByteArray) (hs:s.size≤1000000):∃ b,JN.f s ⟨#[58]⟩=some b∧(b=true→1≤s.size):=by
 have h1:(⟨#[58]⟩:ByteArray).size=1:=rfl
 by_cases h:1≤s.size
 · have hw:wrap64 ((s.size:Int) - ((⟨#[58]⟩:ByteArray).size:Int))=(s.size:Int) - 1:=by rw [h1];unfold wrap64;omega
   refine ⟨(s.extract (wrap64 ((s.size:Int) - ((⟨#[58]⟩:ByteArray).size:Int))).toNat s.size).toList == (⟨#[58]⟩:ByteArray).toList,?_,fun _=>h⟩
   unfold JN.f
   rw [if_pos (by rw [h1];omega),if_pos (by rw [hw];omega),if_pos (by rw [hw];omega)]
 · refine ⟨false,?_,fun h=>by cases h⟩
   unfold JN.f
   rw [if_neg (by rw [h1];omega)]
theorem signed_ev (s:ByteArray) (hs:s.size≤1000000):∃ r:Int × Bool,Ev (fun k=>Yz.f k s) r ∧ -9223372036854775808≤r.1∧r.1≤9223372036854775807:=by
 obtain ⟨b,hb,hb1⟩:=begins_ok s hs
 cases b with
 | true=>
  have h1:=hb1 rfl
  obtain ⟨r,hr,_⟩:=dec_ev (s.extract 1 s.size) (by rw [ByteArray.size_extract];omega)
  by_cases hg:r.1 > 9223372036854775808
  · refine ⟨(0,false),?_,by decide,by decide⟩
    refine Ev.same hr (F:=fun k bt143=>(if bt143.1 > 9223372036854775808 then (some (0,false)) else (some (wrap64 (-(wrap64 (bt143.1))),bt143.2)))) (fun k=>?_) (.congr (fun k=>if_pos hg) (.of _))
    simp only [Yz.f,hb,Option.bind_some]
    rw [if_pos trivial,if_pos Zo]
  · refine ⟨(wrap64 (-(wrap64 (r.1))),r.2),?_,(qf _).1,(qf _).2⟩
    refine Ev.same hr (F:=fun k bt143=>(if bt143.1 > 9223372036854775808 then (some (0,false)) else (some (wrap64 (-(wrap64 (bt143.1))),bt143.2)))) (fun k=>?_) (.congr (fun k=>if_neg hg) (.of _))
    simp only [Yz.f,hb,Option.bind_some]
    rw [if_pos trivial,if_pos Zo]
 | false=>
  obtain ⟨r,hr,_⟩:=dec_ev s hs
  by_cases hg:r.2=true
  · refine ⟨(wrap64 (r.1),decide (r.1<9223372036854775808)),?_,(qf _).1,(qf _).2⟩
    refine Ev.same hr (F:=fun k bt145=>(if bt145.2=true then (some (wrap64 (bt145.1),decide (bt145.1<9223372036854775808))) else (some (wrap64 (bt145.1),false)))) (fun k=>?_) (.congr (fun k=>if_pos hg) (.of _))
    simp only [Yz.f,hb,Option.bind_some]
    rw [if_neg Zd]
  · refine ⟨(wrap64 (r.1),false),?_,(qf _).1,(qf _).2⟩
    refine Ev.same hr (F:=fun k bt145=>(if bt145.2=true then (some (wrap64 (bt145.1),decide (bt145.1<9223372036854775808))) else (some (wrap64 (bt145.1),false)))) (fun k=>?_) (.congr (fun k=>if_neg hg) (.of _))
    simp only [Yz.f,hb,Option.bind_some]
    rw [if_neg Zd]
structure yaK (x0:ByteArray) (res:List S71 × Bool):Prop where
 rb:∀ r ∈ res.1,RowB r
 rl:res.1.length≤40001
 eq:res.2=true→res.1.flatMap ybY=x0.toList
theorem ybX (x0:ByteArray):yaK x0 (([]:List S71),false):=⟨fun r h=>(by cases h),by simp,fun h=>(by cases h)⟩
theorem wrap64_2 {j:Nat} (h:j<9223372036854775000):wrap64 ((j:Int)+2)=((j+2:Nat):Int):=by unfold wrap64;omega
theorem vals_ev {x0:ByteArray} {x4:List ByteArray} {x5:List S71} {i:Nat} {vals ks:List ByteArray} {nm:ByteArray} (hv:vals.length≤40001) (hvs:∀ v ∈ vals,v.size≤40000) (hx5:x5.length≤40001) (hi:i<1000000)
 (IH:∀ N:List Int,N.length=vals.length→∃ res,Ev (fun k=>yh.l0 k x0 x4 (x5++[(⟨nm,N,ks⟩:S71)]) ((i+2:Nat):Int)) res∧yaK x0 res) :
 ∀ (m j:Nat),j+m=vals.length→∀ N:List Int,N.length=j→∃ res,Ev (fun k=>yh.l1 k x0 x4 x5 (i:Int) vals (vals.length:Int) (j:Int) nm N ks) res∧yaK x0 res:=by
 intro m
 induction m with
 | zero=>
  intro j hj N hN
  obtain ⟨res,hr,hR⟩:=IH N Zo
  refine ⟨res,.succ (fun k=>?_) hr,hR⟩
  simp only [yh.l1]
  rw [if_neg Zo,if_pos Zo,wrap64_2 Zo]
 | succ m ih=>
  intro j hj N hN
  obtain ⟨v,hv1⟩:∃ v,vals[j]?=some v:=⟨_,List.getElem?_eq_getElem Zo⟩
  have hvz:=hvs v (List.mem_of_getElem? hv1)
  obtain ⟨r,hr,hr1,hr2⟩:=signed_ev v Zo
  have hG:∀ k,yh.l1 (k+1) x0 x4 x5 (i:Int) vals (vals.length:Int) (j:Int) nm N ks=(Yz.f k v).bind (fun bt195=>(if bt195.2=true then ((yO.f k bt195.1).bind fun t197=>(if t197.toList=v.toList then (if N.length<17592186044416 then (yh.l1 k x0 x4 x5 (i:Int) vals (vals.length:Int) ((j+1:Nat):Int) nm (N++[IntKind.u64.wrap (bt195.1)]) ks) else (none)) else (some (([]:List (S71)),false)))) else (some (([]:List (S71)),false)))):=fun k=>by
   simp only [yh.l1]
   rw [if_pos Zo,if_pos Zo,if_pos Zo,J1 hv1,Yi Zo]
  by_cases h2:r.2=true
  · by_cases h3:(mkB (qE r.1)).toList=v.toList
    · obtain ⟨res,hres,hR⟩:=ih (j+1) Zo (N++[IntKind.u64.wrap r.1]) (by simp [hN])
      refine ⟨res,Ev.step hr (F:=fun k bt195=>(if bt195.2=true then ((yO.f k bt195.1).bind fun t197=>(if t197.toList=v.toList then (if N.length<17592186044416 then (yh.l1 k x0 x4 x5 (i:Int) vals (vals.length:Int) ((j+1:Nat):Int) nm (N++[IntKind.u64.wrap (bt195.1)]) ks) else (none)) else (some (([]:List (S71)),false)))) else (some (([]:List (S71)),false)))) hG (.congr (fun k=>if_pos h2) (Ev.bind (f:=fun k t197=>(if t197.toList=v.toList then (if N.length<17592186044416 then (yh.l1 k x0 x4 x5 (i:Int) vals (vals.length:Int) ((j+1:Nat):Int) nm (N++[IntKind.u64.wrap (r.1)]) ks) else (none)) else (some (([]:List (S71)),false)))) (ydv r.1 hr1 hr2) (.congr (fun k=>?_) hres))),hR⟩
      show (if _ then _ else _)=_
      rw [if_pos h3,if_pos Zo]
    · refine ⟨_,Ev.step hr (F:=fun k bt195=>(if bt195.2=true then ((yO.f k bt195.1).bind fun t197=>(if t197.toList=v.toList then (if N.length<17592186044416 then (yh.l1 k x0 x4 x5 (i:Int) vals (vals.length:Int) ((j+1:Nat):Int) nm (N++[IntKind.u64.wrap (bt195.1)]) ks) else (none)) else (some (([]:List (S71)),false)))) else (some (([]:List (S71)),false)))) hG (.congr (fun k=>if_pos h2) (Ev.bind (f:=fun k t197=>(if t197.toList=v.toList then (if N.length<17592186044416 then (yh.l1 k x0 x4 x5 (i:Int) vals (vals.length:Int) ((j+1:Nat):Int) nm (N++[IntKind.u64.wrap (r.1)]) ks) else (none)) else (some (([]:List (S71)),false)))) (ydv r.1 hr1 hr2) (.congr (fun k=>if_neg h3) (.of _)))),ybX x0⟩
  · exact ⟨_,Ev.step hr (F:=fun k bt195=>(if bt195.2=true then ((yO.f k bt195.1).bind fun t197=>(if t197.toList=v.toList then (if N.length<17592186044416 then (yh.l1 k x0 x4 x5 (i:Int) vals (vals.length:Int) ((j+1:Nat):Int) nm (N++[IntKind.u64.wrap (bt195.1)]) ks) else (none)) else (some (([]:List (S71)),false)))) else (some (([]:List (S71)),false)))) hG (.congr (fun k=>if_neg h2) (.of _)),ybX x0⟩
theorem j2_true (x0:ByteArray) (x4:List ByteArray) (x5:List S71) (i:Int) (a b:List ByteArray):∃ res,Ev (fun k=>yh.j2 k x0 x4 x5 i a b true) res∧yaK x0 res:=
 ⟨_,.succ (h:=fun _=>some (([]:List S71),false)) (fun k=>by simp only [yh.j2];rw [if_pos trivial]) (.of _),ybX x0⟩
theorem rows_ev {x0:ByteArray} {x4:List ByteArray} {H:Nat} (hH:x4.length=2 * H) (hl:x4.length≤40001) (hls:∀ l ∈ x4,l.size≤40000) :
 ∀ (m h:Nat),h+m=H→∀ x5:List S71,x5.length=h→(∀ r ∈ x5,RowB r)→∃ res,Ev (fun k=>yh.l0 k x0 x4 x5 ((2 * h:Nat):Int)) res∧yaK x0 res:=by
 intro m
 induction m with
 | zero=>
  intro h hm x5 hx hrb
  obtain ⟨t,ht,htl⟩:=print_f x5 hrb Zo
  refine ⟨(x5,(t.toList == x0.toList)),Ev.step ht (F:=fun k t201=>(some (x5,(t201.toList == x0.toList)))) (fun k=>?_) (.of _),hrb,by show x5.length≤_;omega,fun h=>?_⟩
  · simp only [yh.l0]
    rw [if_neg Zo]
  · rw [← eq_of_beq h,htl]
 | succ m ih=>
  intro h hm x5 hx hrb
  obtain ⟨a,ha⟩:∃ a,x4[2 * h]?=some a:=⟨_,List.getElem?_eq_getElem Zo⟩
  obtain ⟨b,hb⟩:∃ b,x4[2 * h+1]?=some b:=⟨_,List.getElem?_eq_getElem Zo⟩
  have haz:=hls a (List.mem_of_getElem? ha)
  have hbz:=hls b (List.mem_of_getElem? hb)
  obtain ⟨fa,hfa,hfal,hfas⟩:=fields_f a Zo
  obtain ⟨fb,hfb,hfbl,hfbs⟩:=fields_f b Zo
  have hj2f:2≤fa.length→fa.length=fb.length→1≤(yU ByteArray.empty fa 0).size→∃ res,Ev (fun k=>yh.j2 k x0 x4 x5 ((2 * h:Nat):Int) fa fb false) res∧yaK x0 res:=by
   intro h2 he h1
   obtain ⟨n0,hn0⟩:∃ n0,fa[0]?=some n0:=⟨_,List.getElem?_eq_getElem Zo⟩
   have hn0z:=hfas n0 (List.mem_of_getElem? hn0)
   have hr0:yU ByteArray.empty fa 0=n0:=J1 (i:=0) hn0
   rw [hr0] at h1
   have hw:wrap64 ((n0.size:Int) - 1)=(n0.size:Int) - 1:=by unfold wrap64;omega
   obtain ⟨res,hres,hR⟩:=vals_ev (x0:=x0) (x4:=x4) (x5:=x5) (i:=2 * h) (vals:=fb.drop 1) (ks:=fa.drop 1) (nm:=n0.extract 0 (wrap64 ((n0.size:Int) - 1)).toNat) (by rw [List.length_drop];omega) (fun v hv=>by have:=hfbs v (List.mem_of_mem_drop hv);omega) Zo Zo (fun N hN=>by
    have h2h:2 * h+2=2 * (h+1):=by omega
    rw [h2h]
    refine ih (h+1) Zo _ (by simp [hx]) (fun r hr=>?_)
    rcases List.mem_append.1 hr with hr|hr
    · exact hrb r hr
    · obtain rfl:=List.mem_singleton.1 hr
      rw [List.length_drop] at hN
      exact ⟨by show (n0.extract 0 _).size≤_;rw [ByteArray.size_extract];omega,by show N.length=(fa.drop 1).length;rw [List.length_drop];omega,by show (fa.drop 1).length≤_;rw [List.length_drop];omega,fun x hx=>by have:=hfas x (List.mem_of_mem_drop hx);omega⟩) (fb.drop 1).length 0 Zo [] rfl
   refine ⟨res,.succ (fun k=>?_) hres,hR⟩
   simp only [yh.j2,hr0]
   rw [if_neg Zd,if_pos Zo,if_pos Zo,if_pos Zo,if_pos Zo,if_pos Zo]
   rfl
  have hin:∃ res,Ev (fun k=>(if (fa.length:Int)<2 then (yh.j2 k x0 x4 x5 ((2 * h:Nat):Int) fa fb true) else (if (fa.length:Int)=(fb.length:Int) then (if 0<(fa.length:Int) then (if 0<(fb.length:Int) then (if (yU ByteArray.empty fa 0).toList=(yU ByteArray.empty fb 0).toList then ((JN.f (yU ByteArray.empty fa 0) (⟨#[58]⟩:ByteArray)).bind fun t177=>(yh.j2 k x0 x4 x5 ((2 * h:Nat):Int) fa fb (!t177))) else (yh.j2 k x0 x4 x5 ((2 * h:Nat):Int) fa fb true)) else (none)) else (none)) else (yh.j2 k x0 x4 x5 ((2 * h:Nat):Int) fa fb true)))) res∧yaK x0 res:=by
   obtain ⟨rn,hrn,hRn⟩:=j2_true x0 x4 x5 ((2 * h:Nat):Int) fa fb
   by_cases c1:(fa.length:Int)<2
   · exact ⟨rn,.congr (fun k=>if_pos c1) hrn,hRn⟩
   by_cases c2:(fa.length:Int)=(fb.length:Int)
   · by_cases c3:(yU ByteArray.empty fa 0).toList=(yU ByteArray.empty fb 0).toList
     · obtain ⟨n0,hn0⟩:∃ n0,fa[0]?=some n0:=⟨_,List.getElem?_eq_getElem Zo⟩
       have hn0z:=hfas n0 (List.mem_of_getElem? hn0)
       have hr0:yU ByteArray.empty fa 0=n0:=J1 (i:=0) hn0
       obtain ⟨t,ht,ht1⟩:=ends_ok (yU ByteArray.empty fa 0) (by rw [hr0];omega)
       cases t with
       | true=>
        obtain ⟨res,hres,hR⟩:=hj2f Zo Zo (ht1 rfl)
        refine ⟨res,.congr (fun k=>?_) hres,hR⟩
        rw [if_neg c1,if_pos c2,if_pos Zo,if_pos Zo,if_pos c3,ht];rfl
       | false=>
        refine ⟨rn,.congr (fun k=>?_) hrn,hRn⟩
        rw [if_neg c1,if_pos c2,if_pos Zo,if_pos Zo,if_pos c3,ht];rfl
     · refine ⟨rn,.congr (fun k=>?_) hrn,hRn⟩
       rw [if_neg c1,if_pos c2,if_pos Zo,if_pos Zo,if_neg c3]
   · refine ⟨rn,.congr (fun k=>?_) hrn,hRn⟩
     rw [if_neg c1,if_neg c2]
  obtain ⟨res,hres,hR⟩:=hin
  refine ⟨res,Ev.step hfa (F:=fun k t167=>(yz.f k b).bind fun t171=>(if (t167.length:Int)<2 then (yh.j2 k x0 x4 x5 ((2 * h:Nat):Int) t167 t171 true) else (if (t167.length:Int)=(t171.length:Int) then (if 0<(t167.length:Int) then (if 0<(t171.length:Int) then (if (yU ByteArray.empty t167 0).toList=(yU ByteArray.empty t171 0).toList then ((JN.f (yU ByteArray.empty t167 0) (⟨#[58]⟩:ByteArray)).bind fun t177=>(yh.j2 k x0 x4 x5 ((2 * h:Nat):Int) t167 t171 (!t177))) else (yh.j2 k x0 x4 x5 ((2 * h:Nat):Int) t167 t171 true)) else (none)) else (none)) else (yh.j2 k x0 x4 x5 ((2 * h:Nat):Int) t167 t171 true)))) (fun k=>?_) (Ev.bind (f:=fun k t171=>(if (fa.length:Int)<2 then (yh.j2 k x0 x4 x5 ((2 * h:Nat):Int) fa t171 true) else (if (fa.length:Int)=(t171.length:Int) then (if 0<(fa.length:Int) then (if 0<(t171.length:Int) then (if (yU ByteArray.empty fa 0).toList=(yU ByteArray.empty t171 0).toList then ((JN.f (yU ByteArray.empty fa 0) (⟨#[58]⟩:ByteArray)).bind fun t177=>(yh.j2 k x0 x4 x5 ((2 * h:Nat):Int) fa t171 (!t177))) else (yh.j2 k x0 x4 x5 ((2 * h:Nat):Int) fa t171 true)) else (none)) else (none)) else (yh.j2 k x0 x4 x5 ((2 * h:Nat):Int) fa t171 true)))) hfb hres),hR⟩
  have hw1:wrap64 (((2 * h:Nat):Int)+1)=((2 * h+1:Nat):Int):=Yi Zo
  simp only [yh.l0,hw1]
  rw [if_pos Zo,if_pos Zo,J1 ha]
  congr 1
  funext t167
  rw [if_pos Zo,if_pos Zo,J1 hb]
theorem gread_f (x0:ByteArray) (hN:x0.size≤40000):∃ res,Ev (fun k=>yh.f k x0) res∧yaK x0 res:=by
 obtain ⟨ls,hls,hll,hlz⟩:=lines_f x0 Zo
 obtain ⟨b,hb⟩:=plain_f x0 Zo
 have hno:∃ res,Ev (fun k=>yh.j0 k x0 ls true) res∧yaK x0 res:=⟨_,.succ (h:=fun _=>some (([]:List S71),false)) (fun k=>by simp only [yh.j0];rw [if_pos trivial]) (.of _),ybX x0⟩
 have hj:∀ x,x=(((ls.length:Int) % 2) != 0)→∃ res,Ev (fun k=>yh.j0 k x0 ls x) res∧yaK x0 res:=fun x hx=>by
  cases x with
  | true=>exact hno
  | false=>
   have h2:(ls.length:Int) % 2=0:=by simpa using hx.symm
   obtain ⟨H,hH⟩:∃ H,ls.length=2 * H:=⟨ls.length / 2,by omega⟩
   obtain ⟨res,hres,hR⟩:=rows_ev (x0:=x0) hH Zo (fun l hl=>by have:=hlz l hl;omega) H 0 Zo [] rfl (fun r h=>by cases h)
   exact ⟨res,.succ (fun k=>by simp only [yh.j0];rw [if_neg Zd];rfl) hres,hR⟩
 have hin:∃ res,Ev (fun k=>(if b=true then (yh.j0 k x0 ls (((ls.length:Int) % 2) != 0)) else (yh.j0 k x0 ls true))) res∧yaK x0 res:=by
  by_cases hbt:b=true
  · obtain ⟨res,h,hR⟩:=hj _ rfl
    exact ⟨res,.congr (fun k=>if_pos hbt) h,hR⟩
  · obtain ⟨res,h,hR⟩:=hno
    exact ⟨res,.congr (fun k=>if_neg hbt) h,hR⟩
 obtain ⟨res,hres,hR⟩:=hin
 exact ⟨res,Ev.same hls (F:=fun k t162=>(yQ.f k x0).bind fun t165=>(if t165=true then (yh.j0 k x0 t162 (((t162.length:Int) % 2) != 0)) else (yh.j0 k x0 t162 true))) (fun k=>rfl) (Ev.bind (f:=fun k t165=>(if t165=true then (yh.j0 k x0 ls (((ls.length:Int) % 2) != 0)) else (yh.j0 k x0 ls true))) hb hres),hR⟩
end Go.Proofs.YtlmennkeggmdbaaGreatDoor
namespace Go.Proofs.YtlmennkeggmdbaaGreatDoor
open Go.RowKit Go.Proofs.YtlmennkeggmdbaaGreatDoorW.PrintWords Go.Proofs.YtlmennkeggmdbaaGreatDoorW.PrintLast Go.Proofs.YtlmennkeggmdbaaGreatDoorW.PrintMore
theorem within_ev (xs:List ByteArray) (hx:xs.length≤1000000) (key:ByteArray):∀ (m q:Nat),q+m=xs.length→Ev (fun k=>Yn.l0 k key xs (xs.length:Int) (q:Int)) ((xs.drop q).any fun x=>x.toList == key.toList):=by
 intro m
 induction m with
 | zero=>
  intro q hq
  rw [List.drop_eq_nil_of_le Zo]
  refine .succ (h:=fun _=>some false) (fun k=>?_) (.of _)
  simp only [Yn.l0]
  rw [if_neg Zo]
 | succ m ih=>
  intro q hq
  obtain ⟨x,hxq⟩:∃ x,xs[q]?=some x:=⟨_,List.getElem?_eq_getElem Zo⟩
  have hd:xs.drop q=x::xs.drop (q+1):=by rw [List.drop_eq_getElem_cons Zo];congr 1;exact (List.getElem?_eq_some_iff.1 hxq).2
  rw [hd,List.any_cons]
  by_cases he:x.toList=key.toList
  · rw [show (x.toList == key.toList)=true from beq_iff_eq.2 he,Bool.true_or]
    refine .succ (h:=fun _=>some true) (fun k=>?_) (.of _)
    simp only [Yn.l0]
    rw [if_pos Zo,if_pos Zo,if_pos Zo,J1 hxq,if_pos he]
  · rw [show (x.toList == key.toList)=false from beq_eq_false_iff_ne.2 he,Bool.false_or]
    refine .succ (fun k=>?_) (ih (q+1) Zo)
    simp only [Yn.l0]
    rw [if_pos Zo,if_pos Zo,if_pos Zo,J1 hxq,if_neg he,Yi Zo]
theorem unread_len:J6.length≤1000000:=by decide
theorem unread_ev (key:ByteArray):Ev (fun k=>Yq.f k key) (J6.any fun x=>x.toList == key.toList):=by
 refine Ev.same (within_ev J6 unread_len key J6.length 0 Zo) (F:=fun k t=>some t) (fun k=>?_) (.of _)
 unfold Yq.f Yn.f
 kernel_rfl
theorem distinct_ev (rows:List S71) (hl:rows.length≤1000000):∃ b,Ev (fun k=>yE.f k rows) b:=by
 have key:∀ (m i:Nat),i+m=rows.length→∃ b,Ev (fun k=>yE.l0 k rows (rows.length:Int) (i:Int)) b:=by
  intro m
  induction m with
  | zero=>
   intro i hi
   refine ⟨true,.succ (h:=fun _=>some true) (fun k=>?_) (.of _)⟩
   simp only [yE.l0]
   rw [if_neg Zo]
  | succ m ih=>
   intro i hi
   have hin:∀ (u q:Nat),q+u=i→∃ b,Ev (fun k=>yE.l1 k rows (i:Int) (rows.length:Int) (i:Int) (i:Int) (q:Int)) b:=by
    intro u
    induction u with
    | zero=>
     intro q hq
     obtain ⟨b,hb⟩:=ih (i+1) Zo
     refine ⟨b,.succ (fun k=>?_) hb⟩
     simp only [yE.l1]
     rw [if_neg Zo,Yi Zo]
    | succ u ihu=>
     intro q hq
     by_cases he:((yj rows (i:Int)).f0).toList=((yj rows (q:Int)).f0).toList
     · refine ⟨false,.succ (h:=fun _=>some false) (fun k=>?_) (.of _)⟩
       simp only [yE.l1]
       rw [if_pos Zo,if_pos Zo,if_pos Zo,if_pos Zo,if_pos Zo,if_pos he]
     · obtain ⟨b,hb⟩:=ihu (q+1) Zo
       refine ⟨b,.succ (fun k=>?_) hb⟩
       simp only [yE.l1]
       rw [if_pos Zo,if_pos Zo,if_pos Zo,if_pos Zo,if_pos Zo,if_neg he,Yi Zo]
   obtain ⟨b,hb⟩:=hin i 0 Zo
   refine ⟨b,.succ (fun k=>?_) hb⟩
   simp only [yE.l0]
   rw [if_pos Zo]
   rfl
 obtain ⟨b,hb⟩:=key rows.length 0 Zo
 exact ⟨b,.congr (fun k=>rfl) hb⟩
def JB (tc:Bool):List ByteArray:=if tc then Y9 else Jy
structure KeyOk (tc:Bool) (key:ByteArray) (v:Int):Prop where
 lab:∃ jj,lab (labG tc) key=some jj∧jj<cntG tc
 small:(wrap64 v).natAbs≤9007199254740992
structure qQ (r:S71):Prop where
 ex:∃ tc:Bool,r.f0.toList=Jp tc∧r.f2≠[]∧r.f1.length=r.f2.length∧∀ (j:Nat) (key:ByteArray) (v:Int),r.f2[j]?=some key→r.f1[j]?=some v→KeyOk tc key v
abbrev yX:List ByteArray:=[yac,ipB]
theorem ext_toList {a b:ByteArray} (h:a.toList=b.toList):a=b:=by
 apply ByteArray.ext
 apply Array.toList_inj.1
 rw [← ByteArray.toList_eq,← ByteArray.toList_eq];exact h
theorem snmp_at {nm:ByteArray} {tc:Bool} (h:nm.toList=Jp tc):Y3.f nm=some (JB tc):=by
 have h1:yac.toList=Jp true:=Q2 _
 have h2:ipB.toList=Jp false:=Q2 _
 unfold Y3.f
 cases tc with
 | true=>rw [if_pos (h.trans h1.symm)];rfl
 | false=>rw [if_neg (by rw [h,h1];decide),if_pos (h.trans h2.symm)];rfl
theorem QJ (tc:Bool):(JB tc).length=cntG tc:=by
 cases tc
 · exact ip_len
 · exact ycQ
theorem known_lab {tc:Bool} {key:ByteArray} {q:Nat} {s:ByteArray} (hq:(JB tc)[q]?=some s) (he:s.toList=key.toList) (hu:tc=true→(J6.any fun x=>x.toList == key.toList)=false):∃ jj,lab (labG tc) key=some jj∧jj<cntG tc:=by
 have hlt:q<cntG tc:=by rw [← QJ];exact (List.getElem?_eq_some_iff.1 hq).1
 obtain rfl:=ext_toList he
 refine ⟨q,?_,hlt⟩
 cases tc with
 | true=>
  have h:=List.all_eq_true.1 lab_tcp q (List.mem_range.2 hlt)
  have hq':Y9[q]?=some s:=hq
  rw [hq'] at h
  have hu':=hu rfl
  simp only [ByteArray.toList_eq] at hu'
  simp only [hu',Bool.false_or] at h
  exact eq_of_beq h
 | false=>
  have h:=List.all_eq_true.1 lab_ip q (List.mem_range.2 hlt)
  have hq':Jy[q]?=some s:=hq
  rw [hq'] at h
  exact eq_of_beq h
section
variable {rows:List S71} {i:Nat} {r:S71} {P:Prop} {tc:Bool}
theorem j6_true (x56:List ByteArray) (x57 x58:Int):∃ b,Ev (fun k=>ye.j6 k rows yX rows (rows.length:Int) (i:Int) x56 x57 x58 true r.f0 r.f1 r.f2) b∧(b=true→P):=
 ⟨false,.succ (h:=fun _=>some false) (fun k=>by simp only [ye.j6];rw [if_pos trivial]) (.of _),fun h=>by cases h⟩
theorem l4_ev {j:Nat} {key:ByteArray} {v:Int} (hn:r.f0.toList=Jp tc) (hj:j<r.f1.length) (hv:r.f1[j]?=some v) (hj1:j<1000000)
 (IH:KeyOk tc key v→∃ b,Ev (fun k=>ye.l2 k rows yX rows (rows.length:Int) (i:Int) r.f2 (r.f2.length:Int) ((j+1:Nat):Int) r.f0 r.f1 r.f2) b∧(b=true→P)) (ys:List ByteArray) (hys:ys.length≤1000000) :
 ∀ (m q:Nat),q+m=ys.length→∀ flag:Bool,(flag=true→∃ (q:Nat) (s:ByteArray),(JB tc)[q]?=some s∧s.toList=key.toList) →
  ∃ b,Ev (fun k=>ye.l4 k rows yX (j:Int) key flag rows (rows.length:Int) (i:Int) r.f2 (r.f2.length:Int) (j:Int) ys (ys.length:Int) (q:Int) r.f0 r.f1 r.f2) b∧(b=true→P):=by
 intro m
 induction m with
 | zero=>
  intro q hq flag hf
  have hnt:(r.f0.toList=([84,99,112,69,120,116]:List UInt8))↔tc=true:=by
   rw [hn]; cases tc <;> simp
  have hrd:rd r.f1 (j:Int)=v:=rd_at hv
  cases flag with
  | false=>
   obtain ⟨b,hb,hP⟩:=j6_true (rows:=rows) (i:=i) (r:=r) (P:=P) r.f2 (r.f2.length:Int) (j:Int)
   refine ⟨b,.succ (fun k=>?_) hb,hP⟩
   simp only [ye.l4]
   rw [if_neg Zo,if_pos Zo,if_pos Zo,if_neg Zd]
  | true=>
   obtain ⟨q0,s0,hq0,hs0⟩:=hf rfl
   have hrange:((tc=true→(J6.any fun x=>x.toList == key.toList)=false))→∃ b,Ev (fun k=>(if (wrap64 v) > 9007199254740992 then (ye.j6 k rows yX rows (rows.length:Int) (i:Int) r.f2 (r.f2.length:Int) (j:Int) true r.f0 r.f1 r.f2) else (ye.j6 k rows yX rows (rows.length:Int) (i:Int) r.f2 (r.f2.length:Int) (j:Int) (decide ((wrap64 v)<(-9007199254740992))) r.f0 r.f1 r.f2))) b∧(b=true→P):=by
    intro hu
    obtain ⟨bt,hbt,hPt⟩:=j6_true (rows:=rows) (i:=i) (r:=r) (P:=P) r.f2 (r.f2.length:Int) (j:Int)
    by_cases c1:wrap64 v > 9007199254740992
    · exact ⟨bt,.congr (fun k=>if_pos c1) hbt,hPt⟩
    by_cases c2:wrap64 v < -9007199254740992
    · exact ⟨bt,.congr (fun k=>by rw [if_neg c1,decide_eq_true c2]) hbt,hPt⟩
    obtain ⟨b,hb,hP⟩:=IH ⟨known_lab hq0 hs0 hu,by omega⟩
    refine ⟨b,.congr (fun k=>by rw [if_neg c1,decide_eq_false c2]) (.succ (fun k=>?_) hb),hP⟩
    simp only [ye.j6]
    rw [if_neg Zd,Yi Zo]
   by_cases ht:tc=true
   · have hu:=unread_ev key
     cases hub:(J6.any fun x=>x.toList == key.toList) with
     | true=>
      rw [hub] at hu
      obtain ⟨b,hb,hP⟩:=j6_true (rows:=rows) (i:=i) (r:=r) (P:=P) r.f2 (r.f2.length:Int) (j:Int)
      refine ⟨b,Ev.step hu (F:=fun k t256=>(if t256=true then (ye.j6 k rows yX rows (rows.length:Int) (i:Int) r.f2 (r.f2.length:Int) (j:Int) true r.f0 r.f1 r.f2) else (if (wrap64 v) > 9007199254740992 then (ye.j6 k rows yX rows (rows.length:Int) (i:Int) r.f2 (r.f2.length:Int) (j:Int) true r.f0 r.f1 r.f2) else (ye.j6 k rows yX rows (rows.length:Int) (i:Int) r.f2 (r.f2.length:Int) (j:Int) (decide ((wrap64 v)<(-9007199254740992))) r.f0 r.f1 r.f2)))) (fun k=>?_) (.congr (fun k=>if_pos rfl) hb),hP⟩
      simp only [ye.l4,hrd]
      rw [if_neg Zo,if_pos Zo,if_pos Zo,if_pos trivial,if_pos (hnt.2 ht)]
     | false=>
      rw [hub] at hu
      obtain ⟨b,hb,hP⟩:=hrange (fun _=>hub)
      refine ⟨b,Ev.step hu (F:=fun k t256=>(if t256=true then (ye.j6 k rows yX rows (rows.length:Int) (i:Int) r.f2 (r.f2.length:Int) (j:Int) true r.f0 r.f1 r.f2) else (if (wrap64 v) > 9007199254740992 then (ye.j6 k rows yX rows (rows.length:Int) (i:Int) r.f2 (r.f2.length:Int) (j:Int) true r.f0 r.f1 r.f2) else (ye.j6 k rows yX rows (rows.length:Int) (i:Int) r.f2 (r.f2.length:Int) (j:Int) (decide ((wrap64 v)<(-9007199254740992))) r.f0 r.f1 r.f2)))) (fun k=>?_) (.congr (fun k=>if_neg Zd) hb),hP⟩
      simp only [ye.l4,hrd]
      rw [if_neg Zo,if_pos Zo,if_pos Zo,if_pos trivial,if_pos (hnt.2 ht)]
   · obtain ⟨b,hb,hP⟩:=hrange (fun h=>absurd h ht)
     refine ⟨b,.succ (fun k=>?_) hb,hP⟩
     simp only [ye.l4,hrd]
     rw [if_neg Zo,if_pos Zo,if_pos Zo,if_pos trivial,if_neg (fun h=>ht (hnt.1 h))]
 | succ m ih=>
  intro q hq flag hf
  cases flag with
  | true=>
   obtain ⟨b,hb,hP⟩:=ih (q+1) Zo ((yU ByteArray.empty ys (q:Int)).toList != key.toList) (fun _=>hf rfl)
   refine ⟨b,.succ (fun k=>?_) hb,hP⟩
   simp only [ye.l4]
   rw [if_pos Zo,if_pos Zo,if_pos Zo,if_pos trivial,Yi Zo]
  | false=>
   obtain ⟨b,hb,hP⟩:=ih (q+1) Zo false (fun h=>by cases h)
   refine ⟨b,.succ (fun k=>?_) hb,hP⟩
   simp only [ye.l4]
   rw [if_pos Zo,if_pos Zo,if_pos Zo,if_neg Zd,Yi Zo]
theorem l3_ev {j:Nat} {key:ByteArray} (hj:j≤r.f2.length)
 (C:∀ flag:Bool,(flag=true→∃ (q:Nat) (s:ByteArray),(JB tc)[q]?=some s∧s.toList=key.toList)→∃ b,Ev (fun k=>ye.l4 k rows yX (j:Int) key flag rows (rows.length:Int) (i:Int) r.f2 (r.f2.length:Int) (j:Int) (r.f2.take j) ((r.f2.take j).length:Int) ((0:Nat):Int) r.f0 r.f1 r.f2) b∧(b=true→P)) :
 ∀ (m q:Nat),q+m=(JB tc).length→∀ flag:Bool,(flag=true→∃ (q:Nat) (s:ByteArray),(JB tc)[q]?=some s∧s.toList=key.toList) →
  ∃ b,Ev (fun k=>ye.l3 k rows yX (j:Int) key flag rows (rows.length:Int) (i:Int) r.f2 (r.f2.length:Int) (j:Int) (JB tc) ((JB tc).length:Int) (q:Int) r.f0 r.f1 r.f2) b∧(b=true→P):=by
 intro m
 have hnl:(JB tc).length≤123:=by rw [QJ]; cases tc <;> simp [cntG]
 induction m with
 | zero=>
  intro q hq flag hf
  obtain ⟨b,hb,hP⟩:=C flag hf
  refine ⟨b,.succ (fun k=>?_) hb,hP⟩
  simp only [ye.l3]
  rw [if_neg Zo,if_pos Zo,if_pos Zo,Int.toNat_natCast]
  rfl
 | succ m ih=>
  intro q hq flag hf
  obtain ⟨s,hs⟩:∃ s,(JB tc)[q]?=some s:=⟨_,List.getElem?_eq_getElem Zo⟩
  cases flag with
  | true=>
   obtain ⟨b,hb,hP⟩:=ih (q+1) Zo true (fun _=>hf rfl)
   refine ⟨b,.succ (fun k=>?_) hb,hP⟩
   simp only [ye.l3]
   rw [if_pos Zo,if_pos Zo,if_pos Zo,if_pos trivial,Yi Zo]
  | false=>
   obtain ⟨b,hb,hP⟩:=ih (q+1) Zo (s.toList == key.toList) (fun h=>⟨q,s,hs,eq_of_beq h⟩)
   refine ⟨b,.succ (fun k=>?_) hb,hP⟩
   simp only [ye.l3]
   rw [if_pos Zo,if_pos Zo,if_pos Zo,if_neg Zd,Yi Zo,J1 hs]
theorem l2_ev (hn:r.f0.toList=Jp tc) (hlen:r.f1.length=r.f2.length) (hcnt:r.f2.length≤40001) (hi:i<1000000)
 (IH:(∀ (j:Nat) (key:ByteArray) (v:Int),r.f2[j]?=some key→r.f1[j]?=some v→KeyOk tc key v)→∃ b,Ev (fun k=>ye.l0 k rows yX rows (rows.length:Int) ((i+1:Nat):Int)) b∧(b=true→P)) :
 ∀ (m j:Nat),j+m=r.f2.length→(∀ (q:Nat) (key:ByteArray) (v:Int),q<j→r.f2[q]?=some key→r.f1[q]?=some v→KeyOk tc key v) →
  ∃ b,Ev (fun k=>ye.l2 k rows yX rows (rows.length:Int) (i:Int) r.f2 (r.f2.length:Int) (j:Int) r.f0 r.f1 r.f2) b∧(b=true→P):=by
 intro m
 induction m with
 | zero=>
  intro j hj hk
  obtain ⟨b,hb,hP⟩:=IH (fun q key v h1 h2=>hk q key v (by have:=(List.getElem?_eq_some_iff.1 h1).1;omega) h1 h2)
  refine ⟨b,.succ (fun k=>?_) hb,hP⟩
  simp only [ye.l2]
  rw [if_neg Zo,Yi Zo]
 | succ m ih=>
  intro j hj hk
  obtain ⟨key,hkey⟩:∃ key,r.f2[j]?=some key:=⟨_,List.getElem?_eq_getElem Zo⟩
  obtain ⟨v,hv⟩:∃ v,r.f1[j]?=some v:=⟨_,List.getElem?_eq_getElem Zo⟩
  obtain ⟨b,hb,hP⟩:=l3_ev (rows:=rows) (i:=i) (r:=r) (P:=P) (tc:=tc) (j:=j) (key:=key) Zo (fun flag hf=>l4_ev (v:=v) hn Zo hv Zo (fun hok=>ih (j+1) Zo (fun q key' v' hq h1 h2=>by
   by_cases e:q=j
   · subst e
     rw [hkey] at h1;rw [hv] at h2
     obtain rfl:=Option.some.inj h1
     obtain rfl:=Option.some.inj h2
     exact hok
   · exact hk q key' v' Zo h1 h2)) (r.f2.take j) (by rw [List.length_take];omega) (r.f2.take j).length 0 Zo flag hf) (JB tc).length 0 Zo false (fun h=>by cases h)
  refine ⟨b,.succ (fun k=>?_) hb,hP⟩
  simp only [ye.l2]
  rw [if_pos Zo,if_pos Zo,if_pos Zo,snmp_at hn,Option.bind_some,J1 hkey]
  rfl
theorem j2f_true (r:S71):∃ b,Ev (fun k=>ye.j2 k rows yX rows (rows.length:Int) (i:Int) true r.f0 r.f1 r.f2) b∧(b=true→P):=
 ⟨false,.succ (h:=fun _=>some false) (fun k=>by simp only [ye.j2];rw [if_pos trivial]) (.of _),fun h=>by cases h⟩
theorem l1_ev (C:∀ tc,r.f0.toList=Jp tc→r.f2≠[]→r.f2.length=r.f1.length→∃ b,Ev (fun k=>ye.l2 k rows yX rows (rows.length:Int) (i:Int) r.f2 (r.f2.length:Int) ((0:Nat):Int) r.f0 r.f1 r.f2) b∧(b=true→P)) :
 ∀ (m q:Nat),q+m=yX.length→∀ flag:Bool,(flag=true→∃ tc,r.f0.toList=Jp tc) →
  ∃ b,Ev (fun k=>ye.l1 k rows yX flag rows (rows.length:Int) (i:Int) yX (yX.length:Int) (q:Int) r.f0 r.f1 r.f2) b∧(b=true→P):=by
 intro m
 have hgl:yX.length=2:=rfl
 induction m with
 | zero=>
  intro q hq flag hf
  obtain ⟨bt,hbt,hPt⟩:=j2f_true (rows:=rows) (i:=i) (P:=P) r
  cases flag with
  | false=>
   refine ⟨bt,.succ (fun k=>?_) hbt,hPt⟩
   simp only [ye.l1]
   rw [if_neg Zo,if_neg Zd]
  | true=>
   obtain ⟨tc,hn⟩:=hf rfl
   by_cases c0:(r.f2.length:Int)=0
   · refine ⟨bt,.succ (fun k=>?_) hbt,hPt⟩
     simp only [ye.l1]
     rw [if_neg Zo,if_pos trivial,if_pos c0]
   by_cases c1:r.f2.length=r.f1.length
   · obtain ⟨b,hb,hP⟩:=C tc hn (fun e=>c0 (by rw [e];rfl)) c1
     refine ⟨b,.succ (fun k=>?_) (.succ (g:=fun k=>ye.j2 k rows yX rows (rows.length:Int) (i:Int) false r.f0 r.f1 r.f2) (fun k=>?_) hb),hP⟩
     · simp only [ye.l1]
       rw [if_neg Zo,if_pos trivial,if_neg c0,show ((r.f2.length:Int) != (r.f1.length:Int))=false by simp [c1]]
     · simp only [ye.j2]
       rw [if_neg Zd]
       rfl
   · refine ⟨bt,.succ (fun k=>?_) hbt,hPt⟩
     simp only [ye.l1]
     rw [if_neg Zo,if_pos trivial,if_neg c0,show ((r.f2.length:Int) != (r.f1.length:Int))=true by simp;omega]
 | succ m ih=>
  intro q hq flag hf
  obtain ⟨s,hs⟩:∃ s,yX[q]?=some s:=⟨_,List.getElem?_eq_getElem Zo⟩
  cases flag with
  | true=>
   obtain ⟨b,hb,hP⟩:=ih (q+1) Zo true (fun _=>hf rfl)
   refine ⟨b,.succ (fun k=>?_) hb,hP⟩
   simp only [ye.l1]
   rw [if_pos Zo,if_pos Zo,if_pos Zo,if_pos trivial,Yi Zo]
  | false=>
   obtain ⟨b,hb,hP⟩:=ih (q+1) Zo (s.toList == r.f0.toList) (fun h=>by
    have he:=eq_of_beq h
    have hm:s ∈ yX:=List.mem_of_getElem? hs
    simp only [yX,List.mem_cons,List.not_mem_nil,or_false] at hm
    rcases hm with rfl|rfl
    · exact ⟨true,he.symm.trans (Q2 _)⟩
    · exact ⟨false,he.symm.trans (Q2 _)⟩)
   refine ⟨b,.succ (fun k=>?_) hb,hP⟩
   simp only [ye.l1]
   rw [if_pos Zo,if_pos Zo,if_pos Zo,if_neg Zd,Yi Zo,J1 hs]
end
theorem fine_ev (rows:List S71) (hl:rows.length≤40001) (hrb:∀ r ∈ rows,RowB r):∃ b,Ev (fun k=>ye.f k rows yX) b∧(b=true→∀ r ∈ rows,qQ r):=by
 have key:∀ (m i:Nat),i+m=rows.length→(∀ (q:Nat) (r:S71),q<i→rows[q]?=some r→qQ r)→∃ b,Ev (fun k=>ye.l0 k rows yX rows (rows.length:Int) (i:Int)) b∧(b=true→∀ r ∈ rows,qQ r):=by
  intro m
  induction m with
  | zero=>
   intro i hi hf
   obtain ⟨b,hb⟩:=distinct_ev rows Zo
   refine ⟨b,Ev.step hb (F:=fun k t257=>some t257) (fun k=>?_) (.of _),fun _ r hr=>?_⟩
   · simp only [ye.l0]
     rw [if_neg Zo]
   · obtain ⟨q,hq⟩:=List.getElem?_of_mem hr
     exact hf q r (by have:=(List.getElem?_eq_some_iff.1 hq).1;omega) hq
  | succ m ih=>
   intro i hi hf
   obtain ⟨r,hr⟩:∃ r,rows[i]?=some r:=⟨_,List.getElem?_eq_getElem Zo⟩
   have hb:=hrb r (List.mem_of_getElem? hr)
   obtain ⟨b,hb,hP⟩:=l1_ev (rows:=rows) (i:=i) (r:=r) (P:=∀ r ∈ rows,qQ r) (fun tc hn hne hlen=>l2_ev hn hb.len hb.cnt Zo (fun hk=>ih (i+1) Zo (fun q r' hq hr'=>by
    by_cases e:q=i
    · subst e
      rw [hr] at hr'
      obtain rfl:=Option.some.inj hr'
      exact ⟨tc,hn,hne,hb.len,hk⟩
    · exact hf q r' Zo hr')) r.f2.length 0 Zo (fun q _ _ hq=>by omega)) yX.length 0 Zo false (fun h=>by cases h)
   refine ⟨b,.succ (fun k=>?_) hb,hP⟩
   simp only [ye.l0]
   rw [if_pos Zo,if_pos Zo,if_pos Zo,rd_row hr]
   rfl
 obtain ⟨b,hb,hP⟩:=key rows.length 0 Zo (fun q _ hq=>by omega)
 exact ⟨b,.congr (fun k=>rfl) hb,hP⟩
end Go.Proofs.YtlmennkeggmdbaaGreatDoor
