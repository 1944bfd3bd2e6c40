/- Part 43 of 44 of the proof of the tied card of FnXfsRead. -/
import Derived.Test.YtdcaggoicdfehaaGreatDoorVz
import Derived.Test.YtdcaggoicdfehaaGreatDoorV42
import Derived.Test.YtdcaggoicdfehaaGreatDoorV28
import Derived.Test.YtdcaggoicdfehaaGreatDoorV30
import Derived.Test.YtdcaggoicdfehaaGreatDoorV16
set_option linter.unusedVariables false
set_option linter.unusedSimpArgs false
namespace Go.Proofs.YtdcaggoicdfehaaGreatDoor
open Go.RowKit Go.Proofs.YtdcaggoicdfehaaGreatDoorW.PrintWords Go.Proofs.YtdcaggoicdfehaaGreatDoorW.PrintLast Go.Proofs.YtdcaggoicdfehaaGreatDoorW.PrintMore
theorem rd_get (l:List Int) (j:Nat) (h:j<l.length):rd l (j:Int)=l[j]:=by simp [rd,List.getD_eq_getElem?_getD,h]
theorem ycS (l:List ByteArray) (j:Nat) (h:j<l.length):YJ ByteArray.empty l (j:Int)=l[j]:=by simp [YJ,List.getD_eq_getElem?_getD,h]
theorem qx (l:List S56) (j:Nat) (h:j<l.length):yo l (j:Int)=l[j]:=by simp [yo,List.getD_eq_getElem?_getD,h]
theorem ycQ (l:List S53) (j:Nat) (h:j<l.length):yU l (j:Int)=l[j]:=by simp [yU,List.getD_eq_getElem?_getD,h]
theorem toList_eq {s t:ByteArray} (h:s.toList=t.toList):s=t:=by
 rw [ByteArray.toList_eq,ByteArray.toList_eq] at h
 exact ByteArray.ext (Array.toList_inj.1 h)
def jtail (l:List ByteArray):List UInt8:=l.flatMap fun s=>32::s.data.toList
theorem join_ev (l:List ByteArray) (hl:l.length≤1000) (hs:∀ s ∈ l,s.size≤20):∀ (m j:Nat),j+m=l.length→0<j→∀ acc:ByteArray,acc.size≤21 * j →
 Ev (fun k=>Yv.l0 k ⟨#[32]⟩ acc l (l.length:Int) (j:Int)) ⟨(acc.data.toList++jtail (l.drop j)).toArray⟩:=by
 intro m
 induction m with
 | zero=>
  intro j hj hp acc ha
  refine .succ (h:=fun _=>some _) (fun k=>?_) (.of _)
  simp only [Yv.l0]
  rw [if_neg Zo,List.drop_eq_nil_of_le Zo]
  simp [jtail]
 | succ m ih=>
  intro j hj hp acc ha
  have hjl:j<l.length:=by omega
  have hsz:=hs _ (List.getElem_mem hjl)
  have h1:((⟨#[32]⟩:ByteArray)).size=1:=rfl
  have hacc:((acc++(⟨#[32]⟩:ByteArray))++l[j]).size=acc.size+1+l[j].size:=by simp [ByteArray.size_append,h1]
  have:=ih (j+1) Zo Zo ((acc++(⟨#[32]⟩:ByteArray))++l[j]) (by rw [hacc];omega)
  have he:(((acc++(⟨#[32]⟩:ByteArray))++l[j]).data.toList++jtail (l.drop (j+1)))=acc.data.toList++jtail (l.drop j):=by
   simp only [jtail,ByteArray.data_append,Array.toList_append,List.append_assoc]
   rw [List.drop_eq_getElem_cons hjl,List.flatMap_cons]
   rfl
  rw [he] at this
  refine .succ (fun k=>?_) this
  simp only [Yv.l0]
  rw [if_pos Zo,if_pos Zo,if_pos Zo,if_pos Zo,if_pos (by rw [h1];omega),ycS l j hjl,if_pos (by rw [h1];omega),YH Zo]
def joinL:List ByteArray→List UInt8
 | []=>[]
 | s::r=>s.data.toList++jtail r
theorem join_f (l:List ByteArray) (hl:l.length≤1000) (hs:∀ s ∈ l,s.size≤20):Ev (fun k=>Yv.f k l ⟨#[32]⟩) ⟨(joinL l).toArray⟩:=by
 cases l with
 | nil=>exact .succ (h:=fun _=>some _) (fun k=>by simp only [Yv.f,Yv.l0];rfl) (.of _)
 | cons s r=>
  have h0:=hs s (List.mem_cons_self ..)
  have:=join_ev (s::r) hl hs r.length 1 (by simp;omega) Zo ((⟨#[]⟩:ByteArray)++s) (by rw [ByteArray.size_append];show 0+s.size≤21 * 1;omega)
  have he:(((⟨#[]⟩:ByteArray)++s).data.toList++jtail ((s::r).drop 1))=joinL (s::r):=by simp [joinL]
  rw [he] at this
  refine .succ (fun k=>?_) this
  simp only [Yv.f,Yv.l0]
  have hz:((⟨#[]⟩:ByteArray)).size=0:=rfl
  rw [if_pos (by simp),if_pos Zo,if_pos (by simp),if_neg Zo]
  have hr:=ycS (s::r) 0 (by simp)
  have hr':YJ ByteArray.empty (s::r) 0=s:=hr
  have hw:wrap64 (0+1)=((1:Nat):Int):=by unfold wrap64;omega
  rw [hr',if_pos (by rw [hz];omega),hw]
def numT:List Int→List UInt8
 | []=>[]
 | a::r=>dig a.toNat++r.flatMap fun x=>32::dig x.toNat
theorem numT_join (l:List Int):joinL (l.map fun x=>decT x.toNat)=numT l:=by
 cases l with
 | nil=>rfl
 | cons a r=>
  simp only [List.map_cons,joinL,numT,jtail,List.flatMap_map]
  rfl
theorem decT_size {x:Int} (h:0≤x∧x<18446744073709551616):(decT x.toNat).size≤20:=by
 have:=yah (a:=x.toNat) Zo
 simpa [decT,ByteArray.size] using this
theorem numbers_ev (l:List Int) (hl:l.length≤1000) (hU:InU l):∀ (m j:Nat),j+m=l.length→Ev (fun k=>Yb.l0 k ⟨#[32]⟩ ((l.take j).map fun x=>decT x.toNat) l (l.length:Int) (j:Int)) ⟨(numT l).toArray⟩:=by
 intro m
 induction m with
 | zero=>
  intro j hj
  have hjf:=join_f (l.map fun x=>decT x.toNat) (by simpa using hl) (fun s hs=>by
   obtain ⟨x,hx,rfl⟩:=List.mem_map.1 hs
   exact decT_size (hU x hx))
  rw [numT_join] at hjf
  apply Ev.step hjf
  · intro k
    simp only [Yb.l0]
    rw [if_neg Zo,List.take_of_length_le Zo]
  · exact .of _
 | succ m ih=>
  intro j hj
  have hjl:j<l.length:=by omega
  have hx:=hU _ (List.getElem_mem hjl)
  have ht:=text_ev l[j].toNat Zo
  rw [show ((l[j].toNat:Nat):Int)=l[j] by omega] at ht
  have:=ih (j+1) Zo
  rw [List.take_succ_eq_append_getElem hjl,List.map_append] at this
  apply Ev.step ht
  · intro k
    simp only [Yb.l0]
    rw [if_pos Zo,if_pos Zo,if_pos Zo,rd_get l j hjl]
  · refine .congr (fun k=>?_) this
    rw [if_pos (by simp;omega),YH Zo]
    rfl
theorem numbers_f (l:List Int) (hl:l.length≤1000) (hU:InU l):Ev (fun k=>Yb.f k l ⟨#[32]⟩) ⟨(numT l).toArray⟩:=.congr (fun k=>rfl) (numbers_ev l hl hU l.length 0 Zo)
theorem lineOf_ev (nm:ByteArray):∀ (m j:Nat),j+m=yZ.length→∃ r:ByteArray × ByteArray × List ByteArray × Bool,Ev (fun k=>Ya.l0 k nm yZ (yZ.length:Int) (j:Int)) r∧(r.2.2.2=true→∃ (i:Nat) (g:S53),yZ[i]?=some g∧g.f0=nm∧r.2.2.1=g.f2):=by
 intro m
 have hG:yZ.length=34:=by kernel_rfl
 induction m with
 | zero=>
  intro j hj
  exact ⟨(⟨#[]⟩,⟨#[]⟩,[],false),.succ (h:=fun _=>some _) (fun k=>by simp only [Ya.l0];rw [if_neg Zo]) (.of _),fun h=>by cases h⟩
 | succ m ih=>
  intro j hj
  have hjl:j<yZ.length:=by omega
  by_cases c:yZ[j].f0.toList=nm.toList
  · refine ⟨(yZ[j].f0,yZ[j].f1,yZ[j].f2,true),.succ (h:=fun _=>some _) (fun k=>?_) (.of _),fun _=>⟨j,yZ[j],List.getElem?_eq_getElem hjl,toList_eq c,rfl⟩⟩
    simp only [Ya.l0]
    rw [if_pos Zo,if_pos Zo,if_pos Zo,ycQ _ j hjl,if_pos c]
  · obtain ⟨r,hr,h⟩:=ih (j+1) Zo
    refine ⟨r,.succ (fun k=>?_) hr,h⟩
    simp only [Ya.l0]
    rw [if_pos Zo,if_pos Zo,if_pos Zo,ycQ _ j hjl,if_neg c,YH Zo]
theorem lineOf_f (nm:ByteArray):∃ r:ByteArray × ByteArray × List ByteArray × Bool,Ev (fun k=>Ya.f k yZ nm) r∧(r.2.2.2=true→∃ (i:Nat) (g:S53),yZ[i]?=some g∧g.f0=nm∧r.2.2.1=g.f2):=by
 obtain ⟨r,hr,h⟩:=lineOf_ev nm yZ.length 0 Zo
 exact ⟨r,.congr (fun k=>rfl) hr,h⟩
theorem small_ev (x0:Int) (l:List Int) (hl:l.length≤17592186044416):∀ (m j:Nat),j+m=l.length→∃ b,Ev (fun k=>Yf.l0 k x0 l (l.length:Int) (j:Int)) b∧(b=true→∀ i,j≤i→∀ h:i<l.length,l[i]<x0):=by
 intro m
 induction m with
 | zero=>
  intro j hj
  exact ⟨true,.succ (h:=fun _=>some true) (fun k=>by simp only [Yf.l0];rw [if_neg Zo]) (.of _),fun _ i hi h=>by omega⟩
 | succ m ih=>
  intro j hj
  have hjl:j<l.length:=by omega
  by_cases c:l[j]≥x0
  · refine ⟨false,.succ (h:=fun _=>some false) (fun k=>?_) (.of _),fun h=>by cases h⟩
    simp only [Yf.l0]
    rw [if_pos Zo,if_pos Zo,if_pos Zo,rd_get l j hjl,if_pos c]
  · obtain ⟨b,hb,h⟩:=ih (j+1) Zo
    refine ⟨b,.succ (fun k=>?_) hb,fun hb' i hi hl'=>?_⟩
    · simp only [Yf.l0]
      rw [if_pos Zo,if_pos Zo,if_pos Zo,rd_get l j hjl,if_neg c,YH Zo]
    · by_cases e:i=j
      · subst e;omega
      · exact h hb' i Zo hl'
theorem small_f (x0:Int) (l:List Int) (hl:l.length≤17592186044416):∃ b,Ev (fun k=>Yf.f k x0 l) b∧(b=true→∀ x ∈ l,x<x0):=by
 obtain ⟨b,hb,h⟩:=small_ev x0 l hl l.length 0 Zo
 refine ⟨b,.congr (fun k=>rfl) hb,fun hb' x hx=>?_⟩
 obtain ⟨i,hi,rfl⟩:=List.mem_iff_getElem.1 hx
 exact h hb' i Zo hi
theorem distinct_ev (l:List S56) (hl:l.length≤2199023255552):∀ (m j:Nat),j+m=l.length→∃ b,Ev (fun k=>yL.l0 k l (l.length:Int) (j:Int)) b∧(b=true→∀ i,j≤i→∀ (h:i<l.length) (q:Nat) (hq:q<i),l[i].f0≠l[q].f0):=by
 intro m
 induction m with
 | zero=>
  intro j hj
  exact ⟨true,.succ (h:=fun _=>some true) (fun k=>by simp only [yL.l0];rw [if_neg Zo]) (.of _),fun _ i hi h=>by omega⟩
 | succ m ih=>
  intro j hj
  have hjl:j<l.length:=by omega
  obtain ⟨b,hb,h⟩:=ih (j+1) Zo
  have hin:∀ (n i:Nat),i+n=j→∃ b',Ev (fun k=>yL.l1 k l (j:Int) (l.length:Int) (j:Int) (j:Int) (i:Int)) b'∧(b'=true→b=true∧∀ q,i≤q→∀ hq:q<j,l[j].f0≠l[q].f0):=by
   intro n
   induction n with
   | zero=>
    intro i hi
    refine ⟨b,.succ (fun k=>?_) hb,fun hb'=>⟨hb',fun q h1 h2=>by omega⟩⟩
    simp only [yL.l1]
    rw [if_neg Zo,YH Zo]
   | succ n ih2=>
    intro i hi
    have hil:i<l.length:=by omega
    by_cases c:l[j].f0.toList=l[i].f0.toList
    · refine ⟨false,.succ (h:=fun _=>some false) (fun k=>?_) (.of _),fun h=>by cases h⟩
      simp only [yL.l1]
      rw [if_pos Zo,if_pos Zo,if_pos Zo,if_pos Zo,if_pos Zo,qx l j hjl,qx l i hil,if_pos c]
    · obtain ⟨b',hb',h'⟩:=ih2 (i+1) Zo
      refine ⟨b',.succ (fun k=>?_) hb',fun ht=>⟨(h' ht).1,fun q h1 h2=>?_⟩⟩
      · simp only [yL.l1]
        rw [if_pos Zo,if_pos Zo,if_pos Zo,if_pos Zo,if_pos Zo,qx l j hjl,qx l i hil,if_neg c,YH Zo]
      · by_cases e:q=i
        · subst e;exact fun he=>c (by rw [he])
        · exact (h' ht).2 q Zo h2
  obtain ⟨b',hb',h'⟩:=hin j 0 Zo
  refine ⟨b',.succ (fun k=>?_) hb',fun ht i hi hil q hq=>?_⟩
  · simp only [yL.l0]
    rw [if_pos Zo]
    rfl
  · by_cases e:i=j
    · subst e;exact (h' ht).2 q Zo hq
    · exact h (h' ht).1 i Zo hil q hq
theorem distinct_f (l:List S56) (hl:l.length≤2199023255552):∃ b,Ev (fun k=>yL.f k l) b∧(b=true→∀ i (h:i<l.length) (q:Nat) (hq:q<i),l[i].f0≠l[q].f0):=by
 obtain ⟨b,hb,h⟩:=distinct_ev l hl l.length 0 Zo
 exact ⟨b,.congr (fun k=>rfl) hb,fun ht i hi q hq=>h ht i Zo hi q hq⟩
end Go.Proofs.YtdcaggoicdfehaaGreatDoor
namespace Go.Proofs.YtdcaggoicdfehaaGreatDoor
open Go.RowKit Go.Proofs.YtdcaggoicdfehaaGreatDoorW.PrintWords Go.Proofs.YtdcaggoicdfehaaGreatDoorW.PrintLast Go.Proofs.YtdcaggoicdfehaaGreatDoorW.PrintMore
theorem groups_all:yZ.all (fun g=>decide (g.f0.data.toList.length≤20) && decide (g.f2.length≤20) && decide (0<g.f2.length) && decide (0<g.f0.data.toList.length) && g.f0.data.toList.all fun b=>decide (32<b.toNat) && decide (b.toNat<127))=true:=by kernel_rfl
theorem qo {g:S53} (hg:g ∈ yZ):g.f0.data.toList.length≤20∧g.f2.length≤20∧0<g.f2.length∧0<g.f0.data.toList.length∧∀ b ∈ g.f0.data.toList,32<b.toNat∧b.toNat<127:=by
 have h:=List.all_eq_true.1 groups_all g hg
 simp only [Bool.and_eq_true,decide_eq_true_eq,List.all_eq_true] at h
 exact ⟨h.1.1.1.1,h.1.1.1.2,h.1.1.2,h.1.2,h.2⟩
theorem ycE:((List.range 34).all fun i=>(List.range 34).all fun j=>match yZ[i]?,yZ[j]? with|some g,some g'=>g.f0.data.toList != g'.f0.data.toList || i == j|_,_=>true)=true:=by kernel_rfl
theorem QI:yZ.length=34:=by kernel_rfl
theorem Q2 {i j:Nat} {g g':S53} (hi:yZ[i]?=some g) (hj:yZ[j]?=some g') (h:g.f0=g'.f0):i=j:=by
 have h1:i<34:=by rw [← QI];exact (List.getElem?_eq_some_iff.1 hi).1
 have h2:j<34:=by rw [← QI];exact (List.getElem?_eq_some_iff.1 hj).1
 have h3:=List.all_eq_true.1 (List.all_eq_true.1 ycE i (List.mem_range.2 h1)) j (List.mem_range.2 h2)
 rw [hi,hj] at h3
 simpa [h] using h3
theorem gc_at:∃ g,yZ[33]?=some g∧g.f0=⟨#[103,99]⟩:=⟨_,rfl,rfl⟩
theorem xpc_at:∃ g,yZ[13]?=some g∧g.f0=⟨#[120,112,99]⟩:=⟨_,rfl,rfl⟩
theorem defer_at:∃ g,yZ[32]?=some g∧g.f0=⟨#[100,101,102,101,114,95,114,101,108,111,103]⟩:=⟨_,rfl,rfl⟩
def qn (r:S56):Prop:=∃ (i:Nat) (g:S53),i<33∧yZ[i]?=some g∧g.f0=r.f0∧r.f1.length=g.f2.length∧((i≠13∧i≠32)→∀ x ∈ r.f1,x<4294967296)
def Fine (l:List S56):Prop:=(∀ r ∈ l,qn r)∧∀ i (h:i<l.length) (q:Nat) (hq:q<i),l[i].f0≠l[q].f0
theorem fine_ev (l:List S56) (hl:l.length≤1000001):∀ (m j:Nat),j+m=l.length→∃ b,Ev (fun k=>yp.l0 k l l (l.length:Int) (j:Int)) b∧(b=true→(∀ i,j≤i→∀ h:i<l.length,qn l[i])∧∀ i (h:i<l.length) (q:Nat) (hq:q<i),l[i].f0≠l[q].f0):=by
 intro m
 induction m with
 | zero=>
  intro j hj
  obtain ⟨b,hb,h⟩:=distinct_f l Zo
  refine ⟨b,?_,fun hb'=>⟨fun i hi h=>by omega,h hb'⟩⟩
  apply Ev.step hb
  · intro k
    simp only [yp.l0]
    rw [if_neg Zo]
  · exact .of _
 | succ m ih=>
  intro j hj
  have hjl:j<l.length:=by omega
  obtain ⟨b,hb,h⟩:=ih (j+1) Zo
  have hj1:∀ x,∃ b',Ev (fun k=>yp.j1 k l l (l.length:Int) (j:Int) x) b'∧(b'=true→x=false∧b=true):=fun x=>by
   cases x with
   | true=>exact ⟨false,.succ (h:=fun _=>some false) (fun k=>by simp only [yp.j1];rfl) (.of _),fun h=>by cases h⟩
   | false=>exact ⟨b,.succ (fun k=>by simp only [yp.j1];rw [if_neg Zd,YH Zo]) hb,fun h=>⟨rfl,h⟩⟩
  have fin:∀ b':Bool,(b'=true→qn l[j]∧b=true)→(b'=true→(∀ i,j≤i→∀ h:i<l.length,qn l[i])∧∀ i (h:i<l.length) (q:Nat) (hq:q<i),l[i].f0≠l[q].f0):=fun b' hf ht=>by
   obtain ⟨h1,h2⟩:=hf ht
   refine ⟨fun i hi hil=>?_,(h h2).2⟩
   by_cases e:i=j
   · subst e;exact h1
   · exact (h h2).1 i Zo hil
  obtain ⟨r,hr,hrg⟩:=lineOf_f l[j].f0
  have key:∃ b',Ev (fun k=>(if r.2.2.2=true then (if ((yo l (j:Int)).f0).toList=([103,99]:List UInt8) then (yp.j1 k l l (l.length:Int) (j:Int) true) else ((Jd.f ((yo l (j:Int)).f0) ((yo l (j:Int)).f1) ((yo l (j:Int)).f2) (r.2.2.1.length:Int) 0).bind fun t321=>(if t321=true then (if ((yo l (j:Int)).f0).toList=([120,112,99]:List UInt8) then (yp.j1 k l l (l.length:Int) (j:Int) false) else (if ((yo l (j:Int)).f0).toList=([100,101,102,101,114,95,114,101,108,111,103]:List UInt8) then (yp.j1 k l l (l.length:Int) (j:Int) false) else ((Yf.f k 4294967296 ((yo l (j:Int)).f1)).bind fun t322=>(yp.j1 k l l (l.length:Int) (j:Int) (!t322))))) else (yp.j1 k l l (l.length:Int) (j:Int) true)))) else (yp.j1 k l l (l.length:Int) (j:Int) true))) b'∧(b'=true→qn l[j]∧b=true):=by
   rw [qx l j hjl]
   have bad:∀ {G:Nat→Option Bool},(∀ k,G k=yp.j1 k l l (l.length:Int) (j:Int) true)→∃ b',Ev G b'∧(b'=true→qn l[j]∧b=true):=fun hG=>by
    obtain ⟨b',hb',h'⟩:=hj1 true
    exact ⟨b',.congr hG hb',fun ht=>by have:=(h' ht).1;cases this⟩
   by_cases c1:r.2.2.2=true
   · obtain ⟨i,g,hig,hgn,hgf⟩:=hrg c1
     have hi34:i<34:=by rw [← QI];exact (List.getElem?_eq_some_iff.1 hig).1
     by_cases c2:l[j].f0.toList=([103,99]:List UInt8)
     · exact bad (fun k=>by rw [if_pos c1,if_pos c2])
     · have hi33:i<33:=by
        by_cases e:i=33
        · subst e
          obtain ⟨g',hg',hg0⟩:=gc_at
          rw [hig] at hg'
          obtain rfl:=Option.some.inj hg'
          exact absurd (by rw [← hgn,hg0,ByteArray.toList_eq]) c2
        · omega
       by_cases c3:(l[j].f1.length:Int)=(r.2.2.1.length:Int)
       · by_cases c4:((l[j].f2.length:Int) == 0)=true
         · have hlen:l[j].f1.length=g.f2.length:=by rw [← hgf];omega
           have hs:∀ k:Nat,Jd.f l[j].f0 l[j].f1 l[j].f2 (r.2.2.1.length:Int) 0=some true:=fun k=>by
            simp only [Jd.f];rw [if_pos c3,c4]
           by_cases c5:l[j].f0.toList=([120,112,99]:List UInt8)
           · obtain ⟨b',hb',h'⟩:=hj1 false
             have hi13:i=13:=by
              obtain ⟨g',hg',hg0⟩:=xpc_at
              refine Q2 hig hg' ?_
              rw [hgn,hg0]
              exact toList_eq (by rw [c5,ByteArray.toList_eq])
             exact ⟨b',.congr (fun k=>by rw [if_pos c1,if_neg c2,hs k,Option.bind_some,if_pos rfl,if_pos c5]) hb',fun ht=>⟨⟨i,g,hi33,hig,hgn,hlen,fun hne=>absurd hi13 hne.1⟩,(h' ht).2⟩⟩
           · by_cases c6:l[j].f0.toList=([100,101,102,101,114,95,114,101,108,111,103]:List UInt8)
             · obtain ⟨b',hb',h'⟩:=hj1 false
               have hi32:i=32:=by
                obtain ⟨g',hg',hg0⟩:=defer_at
                refine Q2 hig hg' ?_
                rw [hgn,hg0]
                exact toList_eq (by rw [c6,ByteArray.toList_eq])
               exact ⟨b',.congr (fun k=>by rw [if_pos c1,if_neg c2,hs k,Option.bind_some,if_pos rfl,if_neg c5,if_pos c6]) hb',fun ht=>⟨⟨i,g,hi33,hig,hgn,hlen,fun hne=>absurd hi32 hne.2⟩,(h' ht).2⟩⟩
             · have hgl:=(qo (List.mem_of_getElem? hig)).2.1
               obtain ⟨sb,hsb,hsm⟩:=small_f 4294967296 l[j].f1 Zo
               obtain ⟨b',hb',h'⟩:=hj1 (!sb)
               refine ⟨b',?_,fun ht=>?_⟩
               · apply Ev.same hsb
                 · intro k
                   rw [if_pos c1,if_neg c2,hs k,Option.bind_some,if_pos rfl,if_neg c5,if_neg c6]
                 · exact hb'
               · have h1:=h' ht
                 exact ⟨⟨i,g,hi33,hig,hgn,hlen,fun _=>hsm (by simpa using h1.1)⟩,h1.2⟩
         · exact bad (fun k=>by
            have hs:Jd.f l[j].f0 l[j].f1 l[j].f2 (r.2.2.1.length:Int) 0=some false:=by
             simp only [Jd.f];rw [if_pos c3];simpa using c4
            rw [if_pos c1,if_neg c2,hs,Option.bind_some,if_neg Zd])
       · exact bad (fun k=>by
          have hs:Jd.f l[j].f0 l[j].f1 l[j].f2 (r.2.2.1.length:Int) 0=some false:=by
           simp only [Jd.f];rw [if_neg c3]
          rw [if_pos c1,if_neg c2,hs,Option.bind_some,if_neg Zd])
   · exact bad (fun k=>if_neg c1)
  obtain ⟨b',hb',hk⟩:=key
  refine ⟨b',?_,fin b' hk⟩
  apply Ev.step hr
  · intro k
    simp only [yp.l0,Y6.f,Option.bind_some]
    rw [if_pos Zo,if_pos Zo,if_pos Zo]
    rw [qx l j hjl]
  · rw [qx l j hjl] at hb'
    exact hb'
theorem fine_f (l:List S56) (hl:l.length≤1000001):∃ b,Ev (fun k=>yp.f k l) b∧(b=true→Fine l):=by
 obtain ⟨b,hb,h⟩:=fine_ev l hl l.length 0 Zo
 refine ⟨b,.congr (fun k=>rfl) hb,fun ht=>⟨fun r hr=>?_,(h ht).2⟩⟩
 obtain ⟨i,hi,rfl⟩:=List.mem_iff_getElem.1 hr
 exact (h ht).1 i Zo hi
def qS (r:S56):List UInt8:=r.f0.data.toList++32::numT r.f1
theorem numT_len:∀ l:List Int,InU l→(numT l).length≤21 * l.length
 | [],_=>by simp [numT]
 | a::r,h=>by
  have h0:=yah (a:=a.toNat) (by have:=h a (List.mem_cons_self ..);omega)
  have h1:∀ r:List Int,InU r→(r.flatMap fun x=>32::dig x.toNat).length≤21 * r.length:=by
   intro r
   induction r with
   | nil=>intro _;simp
   | cons x r ih=>
    intro hr
    have hx:=yah (a:=x.toNat) (by have:=hr x (List.mem_cons_self ..);omega)
    have:=ih (fun y hy=>hr y (List.mem_cons_of_mem _ hy))
    simp only [List.flatMap_cons,List.length_append,List.length_cons]
    omega
  have:=h1 r (fun y hy=>h y (List.mem_cons_of_mem _ hy))
  simp only [numT,List.length_append,List.length_cons]
  omega
theorem print_ev (l:List S56) (hl:l.length≤1000001) (hf:∀ r ∈ l,qn r) (hU:RowsIn l):∀ (m j:Nat),j+m=l.length→∀ acc:ByteArray,acc.size≤500 * j →
 Ev (fun k=>yN.l0 k acc l (l.length:Int) (j:Int)) (⟨(acc.data.toList++(l.drop j).flatMap fun r=>qS r++[10]).toArray⟩,1):=by
 intro m
 induction m with
 | zero=>
  intro j hj acc ha
  refine .succ (h:=fun _=>some _) (fun k=>?_) (.of _)
  simp only [yN.l0]
  rw [if_neg Zo,List.drop_eq_nil_of_le Zo]
  simp
 | succ m ih=>
  intro j hj acc ha
  have hjl:j<l.length:=by omega
  obtain ⟨i,g,hi,hig,hgn,hlen,_⟩:=hf _ (List.getElem_mem hjl)
  have hgf:=qo (List.mem_of_getElem? hig)
  have hUj:=hU _ (List.getElem_mem hjl)
  have hn:=numbers_f l[j].f1 Zo hUj
  have hnl:=numT_len l[j].f1 hUj
  have hns:(⟨(numT l[j].f1).toArray⟩:ByteArray).size≤420:=by
   show (numT l[j].f1).toArray.size≤420
   rw [List.size_toArray];omega
  have hnm:l[j].f0.size≤20:=by
   rw [← hgn]
   show g.f0.data.size≤20
   rw [← Array.length_toList]
   exact hgf.1
  have h1:(⟨#[32]⟩:ByteArray).size=1:=rfl
  have h2:(⟨#[10]⟩:ByteArray).size=1:=rfl
  have hacc:(acc++(((l[j].f0++(⟨#[32]⟩:ByteArray))++⟨(numT l[j].f1).toArray⟩)++(⟨#[10]⟩:ByteArray))).size≤500 * (j+1):=by
   simp only [ByteArray.size_append,h1,h2];omega
  have:=ih (j+1) Zo _ hacc
  have he:(acc++(((l[j].f0++(⟨#[32]⟩:ByteArray))++⟨(numT l[j].f1).toArray⟩)++(⟨#[10]⟩:ByteArray))).data.toList++((l.drop (j+1)).flatMap fun r=>qS r++[10])=acc.data.toList++(l.drop j).flatMap fun r=>qS r++[10]:=by
   rw [List.drop_eq_getElem_cons hjl,List.flatMap_cons]
   simp only [qS,ByteArray.data_append,Array.toList_append,List.append_assoc,List.cons_append,List.nil_append]
  rw [he] at this
  apply Ev.step hn
  · intro k
    simp only [yN.l0]
    rw [if_pos Zo,if_pos Zo,if_pos Zo,qx l j hjl,if_pos Zo]
  · refine .congr (fun k=>?_) this
    rw [if_pos Zo,if_pos Zo,if_pos Zo,YH Zo]
theorem print_f (l:List S56) (hl:l.length≤1000001) (hU:RowsIn l):∃ (fb:Bool) (s:ByteArray) (told:Int),Ev (fun k=>yp.f k l) fb∧Ev (fun k=>yN.f k l) (s,told)∧(told=1→fb=true∧Fine l∧s=⟨(l.flatMap fun r=>qS r++[10]).toArray⟩):=by
 obtain ⟨fb,hfb,hf⟩:=fine_f l hl
 cases fb with
 | false=>
  refine ⟨false,⟨#[]⟩,2,hfb,?_,fun h=>by cases h⟩
  apply Ev.same hfb
  · intro k
    simp only [yN.f]
    rfl
  · exact .congr (fun k=>by rw [if_neg Zd]) (.of _)
 | true=>
  have hF:=hf rfl
  have hp:=print_ev l hl hF.1 hU l.length 0 Zo ⟨#[]⟩ Zd
  refine ⟨true,⟨(l.flatMap fun r=>qS r++[10]).toArray⟩,1,hfb,?_,fun _=>⟨rfl,hF,rfl⟩⟩
  apply Ev.same hfb
  · intro k
    simp only [yN.f]
    rfl
  · refine .congr (fun k=>?_) hp
    rw [if_pos rfl]
    rfl
end Go.Proofs.YtdcaggoicdfehaaGreatDoor
namespace Go.Proofs.YtdcaggoicdfehaaGreatDoor
open Go.RowKit Go.Proofs.YtdcaggoicdfehaaGreatDoorW.PrintWords Go.Proofs.YtdcaggoicdfehaaGreatDoorW.PrintLast Go.Proofs.YtdcaggoicdfehaaGreatDoorW.PrintMore
def NoSp (l:List UInt8):Prop:=∀ b ∈ l,Lib.isSp b=false
theorem noSp_of {l:List UInt8} (h:∀ b ∈ l,32<b.toNat):NoSp l:=fun b hb=>by
 have h1:=h b hb
 have ne:∀ c:UInt8,c.toNat≤32→(b == c)=false:=fun c hc=>by
  rw [beq_eq_false_iff_ne]
  intro e;subst e;omega
 simp only [Lib.isSp,ne 9 Zd,ne 10 Zd,ne 11 Zd,ne 12 Zd,ne 13 Zd,ne 32 Zd,Bool.or_self]
theorem yad:∀ (w cur rest:List UInt8),NoSp w→Lib.fieldsGo cur (w++rest)=Lib.fieldsGo (cur++w) rest
 | [],cur,rest,_=>by simp
 | b::w,cur,rest,h=>by
  have hb:=h b (List.mem_cons_self ..)
  simp only [List.cons_append,Lib.fieldsGo,hb,if_false,Bool.false_eq_true]
  rw [yad w (cur++[b]) rest (fun c hc=>h c (List.mem_cons_of_mem _ hc))]
  simp
theorem fieldsGo_sp (cur rest:List UInt8) (h:cur≠[]):Lib.fieldsGo cur (32::rest)=cur::Lib.fieldsGo [] rest:=by
 have h1:Lib.isSp 32=true:=by decide
 have h2:cur.isEmpty=false:=by cases cur <;> simp_all
 simp [Lib.fieldsGo,h1,h2]
theorem fieldsGo_end (cur:List UInt8) (h:cur≠[]):Lib.fieldsGo cur []=[cur]:=by
 have h2:cur.isEmpty=false:=by cases cur <;> simp_all
 simp [Lib.fieldsGo,h2]
theorem yaQ:∀ (ws:List (List UInt8)) (w:List UInt8),w≠[]→(∀ x ∈ ws,x≠[]∧NoSp x)→Lib.fieldsGo w (ws.flatMap fun x=>32::x)=w::ws
 | [],w,hw,_=>fieldsGo_end w hw
 | x::ws,w,hw,h=>by
  have hx:=h x (List.mem_cons_self ..)
  rw [List.flatMap_cons,List.cons_append,fieldsGo_sp _ _ hw,yad x [] _ hx.2,List.nil_append,yaQ ws x hx.1 (fun y hy=>h y (List.mem_cons_of_mem _ hy))]
theorem parse_app (M:Nat):∀ (l r:List UInt8) (acc v:Nat),Lib.parseUintM M acc l=.ok v→Lib.parseUintM M acc (l++r)=Lib.parseUintM M v r
 | [],r,acc,v,h=>by
  simp only [Lib.parseUintM] at h
  injection h with h
  subst h;rfl
 | c::l,r,acc,v,h=>by
  simp only [List.cons_append,Lib.parseUintM] at h ⊢
  split at h
  · rename_i h1
    rw [if_pos h1]
    split at h
    · cases h
    · rename_i h2
      rw [if_neg h2]
      split at h
      · cases h
      · rename_i h3
        rw [if_neg h3]
        exact parse_app M l r _ v h
  · cases h
theorem yca (M v d:Nat) (hd:d<10) (h1:v<1844674407370955162) (h2:v * 10+d≤M):Lib.parseUintM M v [UInt8.ofNat (48+d)]=.ok (v * 10+d):=by
 have e:(UInt8.ofNat (48+d)).toNat=48+d:=by simp;omega
 simp only [Lib.parseUintM,e]
 rw [if_pos Zo,if_neg Zo,if_neg Zo]
 congr 1
 omega
theorem parse_dig (M:Nat):∀ (n a:Nat),a<10 ^ (n+1)→a≤M→a<18446744073709551616→Lib.parseUintM M 0 (dig a)=.ok a:=by
 intro n
 induction n with
 | zero=>
  intro a h hM _
  have h':a<10:=by omega
  rw [qp h']
  have:=yca M 0 a h' Zo Zo
  simpa using this
 | succ n ih=>
  intro a h hM h64
  by_cases h10:a<10
  · rw [qp h10]
    have:=yca M 0 a h10 Zo Zo
    simpa using this
  · have hp:10 ^ (n+1+1)=10 ^ (n+1) * 10:=by rw [Nat.pow_succ]
    rw [ybK h10,parse_app M _ _ 0 (a / 10) (ih (a / 10) Zo Zo Zo),yca M (a / 10) (a % 10) Zo Zo Zo]
    congr 1
    omega
theorem parse_B (B a:Nat) (h:a<2 ^ B) (h64:a<18446744073709551616):Lib.parseUintB B (dig a)=.ok a:=by
 unfold Lib.parseUintB
 rw [if_neg (dig_ne a)]
 exact parse_dig _ 19 a Zo Zo h64
open Classical in
noncomputable def gi (nm:ByteArray):Nat:=if h:∃ (i:Nat) (g:S53),i<33∧yZ[i]?=some g∧g.f0=nm then h.choose else 0
theorem gi_eq {i:Nat} {g:S53} {nm:ByteArray} (hi:i<33) (hg:yZ[i]?=some g) (hn:g.f0=nm):gi nm=i:=by
 have h:∃ (i:Nat) (g:S53),i<33∧yZ[i]?=some g∧g.f0=nm:=⟨i,g,hi,hg,hn⟩
 unfold gi
 rw [dif_pos h]
 obtain ⟨g',h1,h2,h3⟩:=h.choose_spec
 exact Q2 h2 hg (h3.trans hn.symm)
noncomputable def conv (r:S56):List UInt8 × Nat × (Nat→Nat):=(qS r,gi r.f0,fun j=>(r.f1.getD j 0).toNat)
theorem numT_bytes:∀ l:List Int,InU l→∀ b ∈ numT l,b.toNat=32∨(48≤b.toNat∧b.toNat≤57)
 | [],_,b,hb=>by simp [numT] at hb
 | a::r,h,b,hb=>by
  simp only [numT,List.mem_append,List.mem_flatMap,List.mem_cons] at hb
  rcases hb with hb|⟨x,hx,rfl|hb⟩
  · exact .inr (ya3 (by have:=h a (List.mem_cons_self ..);omega) b hb)
  · exact .inl rfl
  · exact .inr (ya3 (by have:=h x (List.mem_cons_of_mem _ hx);omega) b hb)
theorem lineT_fields (r:S56) (hn:∀ b ∈ r.f0.data.toList,32<b.toNat) (h0:r.f0.data.toList≠[]) (hU:InU r.f1) (hp:r.f1≠[]):Lib.fields (qS r)=r.f0.data.toList::r.f1.map fun x=>dig x.toNat:=by
 have hd:∀ x ∈ r.f1,dig x.toNat≠[]∧NoSp (dig x.toNat):=fun x hx=>⟨dig_ne _,noSp_of fun b hb=>by
  have:=ya3 (a:=x.toNat) (by have:=hU x hx;omega) b hb
  omega⟩
 have hw:qS r=r.f0.data.toList++((r.f1.map fun x=>dig x.toNat).flatMap fun x=>32::x):=by
  unfold qS
  congr 1
  cases hr:r.f1 with
  | nil=>exact absurd hr hp
  | cons a t=>simp [numT,List.flatMap_map]
 rw [hw]
 unfold Lib.fields
 rw [yad _ [] _ (noSp_of hn),List.nil_append]
 exact yaQ _ _ h0 (fun x hx=>by
  obtain ⟨y,hy,rfl⟩:=List.mem_map.1 hx
  exact hd y hy)
theorem rowOk_conv (r:S56) (hf:qn r) (hU:InU r.f1):RowOk (conv r).1 (conv r).2.1 (conv r).2.2:=by
 obtain ⟨i,g,hi,hig,hgn,hlen,hsm⟩:=hf
 have hgi:=gi_eq hi hig hgn
 have hgf:=qo (List.mem_of_getElem? hig)
 rw [hgn] at hgf
 have h0:r.f0.data.toList≠[]:=fun e=>by rw [e] at hgf;have:=hgf.2.2.2.1;simp at this
 have hp:r.f1≠[]:=fun e=>by rw [e] at hlen;have:=hgf.2.2.1;simp at hlen;omega
 have hbytes:∀ b ∈ qS r,32≤b.toNat∧b.toNat<127:=fun b hb=>by
  simp only [qS,List.mem_append,List.mem_cons] at hb
  rcases hb with hb|rfl|hb
  · have:=hgf.2.2.2.2 b hb;omega
  · decide
  · have:=numT_bytes r.f1 hU b hb;omega
 have hfl:=lineT_fields r (fun b hb=>(hgf.2.2.2.2 b hb).1) h0 hU hp
 have hnl:=numT_len r.f1 hU
 have hw:∀ j,(r.f1.getD j 0).toNat<(if i=13∨i=32 then 18446744073709551616 else 4294967296):=fun j=>by
  by_cases hj:j<r.f1.length
  · have e:r.f1.getD j 0=r.f1[j]:=by simp [List.getD_eq_getElem?_getD,hj]
    rw [e]
    have h1:=hU _ (List.getElem_mem hj)
    by_cases c:i=13∨i=32
    · rw [if_pos c];omega
    · rw [if_neg c]
      have:=hsm ⟨fun h=>c (.inl h),fun h=>c (.inr h)⟩ _ (List.getElem_mem hj)
      omega
  · have e:r.f1.getD j 0=0:=by simp [List.getD_eq_getElem?_getD,hj]
    rw [e]
    split <;> decide
 refine ⟨fun x hx e=>?_,?_,fun x hx e=>?_,?_,fun x hx=>?_,?_,⟨g,r.f1.map fun x=>dig x.toNat,?_,?_,?_,fun j t ht=>?_⟩,fun j=>?_⟩
 · have:=hbytes x hx;subst e;simp at this
 · show qS r≠[];simp [qS]
 · have:=hbytes x (List.mem_of_getLast? hx);subst e;simp at this
 · show (qS r).length<65536
   simp only [qS,List.length_append,List.length_cons]
   have:=hgf.1;have:=hgf.2.1;omega
 · have:=hbytes x hx;omega
 · show gi r.f0<33;rw [hgi];exact hi
 · show yZ[gi r.f0]?=some g;rw [hgi];exact hig
 · show Lib.fields (qS r)=_;rw [hfl,hgn]
 · simpa using hlen
 · show t.length≤65536∧Lib.parseUintB (if gi r.f0=13∨gi r.f0=32 then 64 else 32) t=.ok ((r.f1.getD j 0).toNat)
   rw [hgi]
   rw [List.getElem?_map] at ht
   cases hj:r.f1[j]? with
   | none=>rw [hj] at ht;cases ht
   | some x=>
    rw [hj] at ht
    obtain rfl:=Option.some.inj ht
    have hxU:=hU x (List.mem_of_getElem? hj)
    have e:r.f1.getD j 0=x:=by simp [List.getD_eq_getElem?_getD,hj]
    have hwj:=hw j
    rw [e] at hwj ⊢
    have hl:=yah (a:=x.toNat) Zo
    refine ⟨(show (dig x.toNat).length≤65536 by omega),?_⟩
    by_cases c:i=13∨i=32
    · rw [if_pos c];exact parse_B 64 _ Zo Zo
    · rw [if_neg c] at hwj ⊢;exact parse_B 32 _ Zo Zo
 · show (r.f1.getD j 0).toNat<if gi r.f0=13∨gi r.f0=32 then 18446744073709551616 else 4294967296
   rw [hgi];exact hw j
theorem ydK (l:List S56):Y5 (l.map conv)=l.flatMap fun r=>qS r++[10]:=by
 simp only [Y5,List.flatMap_map]
 rfl
theorem ya0:∀ (R:List (List UInt8 × Nat × (Nat→Nat))) (n:Nat→Nat→Int),(∀ i j,0≤n i j∧n i j<18446744073709551616)→(∀ r ∈ R,∀ j,r.2.2 j<18446744073709551616)→∀ i j,0≤YZ n R i j∧YZ n R i j<18446744073709551616
 | [],n,hn,_,i,j=>hn i j
 | r::R,n,hn,hR,i,j=>by
  refine ya0 R _ (fun a b=>?_) (fun x hx=>hR x (List.mem_cons_of_mem _ hx)) i j
  unfold upd
  split
  · have:=hR r (List.mem_cons_self ..) b
    show 0≤((r.2.2 b:Nat):Int)∧((r.2.2 b:Nat):Int)<18446744073709551616
    omega
  · exact hn a b
end Go.Proofs.YtdcaggoicdfehaaGreatDoor
