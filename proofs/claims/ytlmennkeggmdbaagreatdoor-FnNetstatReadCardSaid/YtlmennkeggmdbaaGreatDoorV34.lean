/- The tied card of laws.FnNetstatRead holds: for every input the law returns true and the input reads as it did. No conditions. -/
import Derived.Test.YtlmennkeggmdbaaGreatDoorVz
import Derived.Test.YtlmennkeggmdbaaGreatDoorV33
import Derived.Test.YtlmennkeggmdbaaGreatDoorV17
import Derived.Test.YtlmennkeggmdbaaGreatDoorV31
import Derived.Test.YtlmennkeggmdbaaGreatDoorV30
import Derived.Test.YtlmennkeggmdbaaGreatDoorV32
import Derived.Test.YtlmennkeggmdbaaGreatDoorV23
import Derived.WalkKit
import Derived.ProofKit
import Derived.ShutString
import Derived.SevenTiedAt
import Derived.Stop.Joined
import Derived.Test.YtlmennkeggmdbaaGreatDoorTie
import Derived.Test.YtlmennkeggmdbaaGreatDoorCards
set_option linter.unusedVariables false
set_option linter.unusedSimpArgs false
namespace Go.Proofs.YtlmennkeggmdbaaGreatDoor
open Go.RowKit Go.Proofs.YtlmennkeggmdbaaGreatDoorW.PrintWords Go.Proofs.YtlmennkeggmdbaaGreatDoorW.PrintLast Go.Proofs.YtlmennkeggmdbaaGreatDoorW.PrintMore
abbrev tup38 (x:S38):ByteArray × Int × Bool × Int × Int × Nat × ByteArray × List S38:=(x.f0,x.f1,x.f2,x.f3,x.f4,x.f5,x.f6,x.f7)
theorem node_ev (l:List S34) (cv:S34→S38) (hl:l.length≤1000) (hc:∀ x ∈ l,Ev (fun k=>yS.f k x.f0 x.f1 x.f2 x.f3 x.f4 x.f5 x.f6 x.f7) (tup38 (cv x))) (a0:ByteArray) (a1:Int) (a2:Bool) (a3 a4:Int) (a5:Nat) (a6:ByteArray) :
 Ev (fun k=>yS.f k a0 a1 a2 a3 a4 a5 a6 l) (a0,a1,a2,a3,a4,a5,a6,l.map cv):=by
 have key:∀ (m j:Nat),j+m=l.length→Ev (fun k=>yS.l0 k l (l.length:Int) (j:Int) a0 a1 a2 a3 a4 a5 a6 ((l.map cv).take j)) (a0,a1,a2,a3,a4,a5,a6,l.map cv):=by
  intro m
  induction m with
  | zero=>
   intro j hj
   refine .succ (h:=fun _=>some _) (fun k=>?_) (.of _)
   simp only [yS.l0]
   rw [if_neg Zo,List.take_of_length_le (by simp;omega)]
  | succ m ih=>
   intro j hj
   have hjl:j<l.length:=by omega
   have hih:=ih (j+1) Zo
   rw [List.take_succ_eq_append_getElem (by simpa using hjl),List.getElem_map] at hih
   have hrd:yC l (j:Int)=l[j]:=by simp [yC,List.getD_eq_getElem?_getD,hjl]
   apply Ev.step (hc _ (List.getElem_mem hjl))
   · intro k
     simp only [yS.l0]
     rw [if_pos Zo,if_pos Zo,if_pos Zo,hrd]
   · refine .congr (fun k=>?_) hih
     rw [if_pos (by rw [List.length_take];omega),Yi Zo]
     generalize cv l[j]=y
     cases y
     rfl
 refine .succ (fun k=>?_) (key l.length 0 Zo)
 simp only [yS.f]
 rfl
def c0 (x:S34):S38:=⟨x.f0,x.f1,x.f2,x.f3,x.f4,x.f5,x.f6,[]⟩
def c1 (x:S34):S38:=⟨x.f0,x.f1,x.f2,x.f3,x.f4,x.f5,x.f6,x.f7.map c0⟩
theorem leaf_ev (x:S34) (h:x.f7=[]):Ev (fun k=>yS.f k x.f0 x.f1 x.f2 x.f3 x.f4 x.f5 x.f6 x.f7) (tup38 (c0 x)):=by
 rw [h]
 exact node_ev [] c0 (by simp) (fun x hx=>by cases hx) _ _ _ _ _ _ _
theorem rec_ev (x:S34) (hl:x.f7.length≤1000) (h:∀ y ∈ x.f7,y.f7=[]):Ev (fun k=>yS.f k x.f0 x.f1 x.f2 x.f3 x.f4 x.f5 x.f6 x.f7) (tup38 (c1 x)):=
 node_ev x.f7 c0 hl (fun y hy=>leaf_ev y (h y hy)) _ _ _ _ _ _ _
theorem ydd (n:Nat→Option Nat):∀ (i:Nat) (xs:List ByteArray),∀ y ∈ Js n i xs,y.f7=[]
 | _,[],y,h=>by cases h
 | i,nm::r,y,h=>by
  simp only [Js,List.mem_cons] at h
  rcases h with rfl|h
  · cases n i <;> rfl
  · exact ydd n (i+1) r y h
theorem ycg (n:Nat→Option Nat):∀ (i:Nat) (xs:List ByteArray),(Js n i xs).length=xs.length
 | _,[]=>rfl
 | i,nm::r=>by simp only [Js,List.length_cons,ycg n (i+1) r]
theorem netnode_ev (n:Nat→Option Nat):Ev (fun k=>yS.f k ⟨#[]⟩ 8 false 0 0 0 ⟨#[]⟩ (JW n)) ((⟨#[]⟩:ByteArray),8,false,0,0,0,(⟨#[]⟩:ByteArray),(JW n).map c1):=by
 refine node_ev _ c1 (by simp [JW]) (fun x hx=>?_) _ _ _ _ _ _ _
 simp only [JW,List.mem_cons,List.not_mem_nil,or_false] at hx
 rcases hx with rfl|rfl|rfl
 · exact rec_ev _ (by simp) (fun y hy=>by cases hy)
 · exact rec_ev _ (by show (Js n 0 Y9).length≤1000;rw [ycg,ycQ];decide) (fun y hy=>ydd _ _ _ y hy)
 · exact rec_ev _ (by show (Js _ 0 Jy).length≤1000;rw [ycg,ip_len];decide) (fun y hy=>ydd _ _ _ y hy)
def kindO:Option Nat→Int
 | none=>0
 | some _=>4
def valO:Option Nat→Nat
 | none=>0
 | some x=>x
def sNode (nm:ByteArray) (o:Option Nat):S38:=⟨nm,kindO o,false,0,0,valO o,⟨#[]⟩,[]⟩
def qp (nm:ByteArray) (kids:List S38):S38:=⟨nm,8,false,0,0,0,⟨#[]⟩,kids⟩
def yaF (g nm:ByteArray) (r:S71) (o:Option Nat) (z:ByteArray × Int):Option Nat:=if r.f0.toList=g.toList then (if z.1.toList=nm.toList then some (floatOfInt .f64 (wrap64 z.2)) else o) else o
def ycJ (g nm:ByteArray) (o:Option Nat) (r:S71):Option Nat:=(r.f2.zip r.f1).foldl (yaF g nm r) o
def QM (g nm:ByteArray) (rows:List S71) (o:Option Nat):Option Nat:=rows.foldl (ycJ g nm) o
abbrev TT:Type:=ByteArray × Int × Bool × Int × Int × Nat × ByteArray × (List (S38))
section
variable {R:TT} {rows:List S71} {x5 kids:List S38} {g nm:ByteArray} {gi q p:Nat} {names:List ByteArray}
theorem t3_ev {r:S71} (hlen:r.f1.length=r.f2.length) (hcnt:r.f2.length≤40001) (hp:p<1000000):∀ (m j:Nat) (o:Option Nat),j+m=r.f2.length →
 Ev (fun k=>yo.l2 k rows x5 g kids nm yX (yX.length:Int) (gi:Int) names (names.length:Int) (q:Int) rows (rows.length:Int) ((p+1:Nat):Int) nm (kindO (((r.f2.zip r.f1).drop j).foldl (yaF g nm r) o)) false 0 0 (valO (((r.f2.zip r.f1).drop j).foldl (yaF g nm r) o)) ⟨#[]⟩ []) R →
 Ev (fun k=>yo.l3 k rows x5 g kids nm yX (yX.length:Int) (gi:Int) names (names.length:Int) (q:Int) rows (rows.length:Int) (p:Int) r.f2 (r.f2.length:Int) (j:Int) nm (kindO o) false 0 0 (valO o) ⟨#[]⟩ [] r.f0 r.f1 r.f2) R:=by
 intro m
 induction m with
 | zero=>
  intro j o hj h
  rw [List.drop_eq_nil_of_le (by rw [List.length_zip];omega)] at h
  refine .succ (fun k=>?_) h
  simp only [yo.l3]
  rw [if_neg Zo,Yi Zo]
  rfl
 | succ m ih=>
  intro j o hj h
  obtain ⟨key,hkey⟩:∃ key,r.f2[j]?=some key:=⟨_,List.getElem?_eq_getElem Zo⟩
  obtain ⟨v,hv⟩:∃ v,r.f1[j]?=some v:=⟨_,List.getElem?_eq_getElem Zo⟩
  have hz:(r.f2.zip r.f1)[j]?=some (key,v):=by rw [List.getElem?_zip_eq_some];exact ⟨hkey,hv⟩
  have hd:(r.f2.zip r.f1).drop j=(key,v)::(r.f2.zip r.f1).drop (j+1):=by
   rw [List.drop_eq_getElem_cons (by rw [List.length_zip];omega)];congr 1;exact (List.getElem?_eq_some_iff.1 hz).2
  rw [hd,List.foldl_cons] at h
  have hih:=ih (j+1) _ Zo h
  by_cases c1:r.f0.toList=g.toList
  · by_cases c2:key.toList=nm.toList
    · have hs:yaF g nm r o (key,v)=some (floatOfInt .f64 (wrap64 v)):=by simp [yaF,c1,c2]
      rw [hs] at hih
      refine .succ (fun k=>?_) hih
      simp only [yo.l3]
      rw [if_pos Zo,if_pos Zo,if_pos Zo,if_pos c1,J1 hkey,if_pos c2,if_pos Zo,rd_at hv,Yi Zo]
      rfl
    · have hs:yaF g nm r o (key,v)=o:=by simp [yaF,c1,c2]
      rw [hs] at hih
      refine .succ (fun k=>?_) hih
      simp only [yo.l3]
      rw [if_pos Zo,if_pos Zo,if_pos Zo,if_pos c1,J1 hkey,if_neg c2,Yi Zo]
  · have hs:yaF g nm r o (key,v)=o:=by simp [yaF,c1]
    rw [hs] at hih
    refine .succ (fun k=>?_) hih
    simp only [yo.l3]
    rw [if_pos Zo,if_pos Zo,if_pos Zo,if_neg c1,Yi Zo]
theorem t2_ev (hrb:∀ r ∈ rows,RowB r) (hl:rows.length≤40001) (hk:kids.length≤1000) (hq:q<1000000):∀ (m p:Nat) (o:Option Nat),p+m=rows.length →
 Ev (fun k=>yo.l1 k rows x5 g (kids++[sNode nm (QM g nm (rows.drop p) o)]) yX (yX.length:Int) (gi:Int) names (names.length:Int) ((q+1:Nat):Int)) R →
 Ev (fun k=>yo.l2 k rows x5 g kids nm yX (yX.length:Int) (gi:Int) names (names.length:Int) (q:Int) rows (rows.length:Int) (p:Int) nm (kindO o) false 0 0 (valO o) ⟨#[]⟩ []) R:=by
 intro m
 induction m with
 | zero=>
  intro p o hp h
  rw [List.drop_eq_nil_of_le Zo] at h
  refine .succ (fun k=>?_) h
  simp only [yo.l2]
  rw [if_neg Zo,if_pos Zo,Yi Zo]
  rfl
 | succ m ih=>
  intro p o hp h
  obtain ⟨r,hr⟩:∃ r,rows[p]?=some r:=⟨_,List.getElem?_eq_getElem Zo⟩
  have hb:=hrb r (List.mem_of_getElem? hr)
  have hd:rows.drop p=r::rows.drop (p+1):=by rw [List.drop_eq_getElem_cons Zo];congr 1;exact (List.getElem?_eq_some_iff.1 hr).2
  rw [hd] at h
  have hih:=ih (p+1) (ycJ g nm o r) Zo h
  refine .succ (fun k=>?_) (t3_ev (j:=0) (o:=o) hb.len hb.cnt Zo r.f2.length Zo hih)
  simp only [yo.l2]
  rw [if_pos Zo,if_pos Zo,if_pos Zo,rd_row hr]
  rfl
theorem t1_ev (hrb:∀ r ∈ rows,RowB r) (hl:rows.length≤40001) (hn:names.length≤500) (hx:x5.length≤1000) (hgi:gi<1000):∀ (m q:Nat) (kids:List S38),q+m=names.length→kids.length=q →
 Ev (fun k=>yo.l0 k rows (x5++[qp g (kids++(names.drop q).map fun nm=>sNode nm (QM g nm rows none))]) yX (yX.length:Int) ((gi+1:Nat):Int)) R →
 Ev (fun k=>yo.l1 k rows x5 g kids yX (yX.length:Int) (gi:Int) names (names.length:Int) (q:Int)) R:=by
 intro m
 induction m with
 | zero=>
  intro q kids hq hkl h
  rw [List.drop_eq_nil_of_le Zo,List.map_nil,List.append_nil] at h
  refine .succ (fun k=>?_) h
  simp only [yo.l1]
  rw [if_neg Zo]
  simp only [JI.f,Option.bind_some]
  rw [if_pos Zo,Yi Zo]
  rfl
 | succ m ih=>
  intro q kids hq hkl h
  obtain ⟨nm,hnm⟩:∃ nm,names[q]?=some nm:=⟨_,List.getElem?_eq_getElem Zo⟩
  have hd:names.drop q=nm::names.drop (q+1):=by rw [List.drop_eq_getElem_cons Zo];congr 1;exact (List.getElem?_eq_some_iff.1 hnm).2
  rw [hd,List.map_cons] at h
  have hih:=ih (q+1) (kids++[sNode nm (QM g nm rows none)]) Zo (by simp [hkl]) (by rw [List.append_assoc];exact h)
  refine .succ (fun k=>?_) (t2_ev (p:=0) (q:=q) (o:=none) (nm:=nm) (kids:=kids) (x5:=x5) (g:=g) (gi:=gi) (names:=names) hrb hl Zo Zo rows.length Zo (by rw [List.drop_zero];exact hih))
  simp only [yo.l1]
  rw [if_pos Zo,if_pos Zo,if_pos Zo,J1 hnm]
  simp only [qF.f,Option.bind_some]
  rfl
end
def Qd (tc:Bool) (rows:List S71):List S38:=(JB tc).map fun nm=>sNode nm (QM (mkB (Jp tc)) nm rows none)
def pidN:S38:=⟨⟨#[80,73,68]⟩,2,false,0,0,0,⟨#[]⟩,[]⟩
theorem gtree_ev (rows:List S71) (hl:rows.length≤40001) (hrb:∀ r ∈ rows,RowB r) :
 Ev (fun k=>yo.f k rows yX) ((⟨#[]⟩:ByteArray),8,false,0,0,0,(⟨#[]⟩:ByteArray),[pidN,qp yac (Qd true rows),qp ipB (Qd false rows)]):=by
 have hgl:yX.length=2:=rfl
 have e2:Ev (fun k=>yo.l0 k rows [pidN,qp yac (Qd true rows),qp ipB (Qd false rows)] yX (yX.length:Int) ((2:Nat):Int)) ((⟨#[]⟩:ByteArray),8,false,0,0,0,(⟨#[]⟩:ByteArray),[pidN,qp yac (Qd true rows),qp ipB (Qd false rows)]):=by
  refine .succ (h:=fun _=>some _) (fun k=>?_) (.of _)
  simp only [yo.l0]
  rw [if_neg Zo]
  rfl
 have s2:Y3.f ipB=some (JB false):=snmp_at (Q2 _)
 have s1:Y3.f yac=some (JB true):=snmp_at (Q2 _)
 have e1:Ev (fun k=>yo.l0 k rows [pidN,qp yac (Qd true rows)] yX (yX.length:Int) ((1:Nat):Int)) ((⟨#[]⟩:ByteArray),8,false,0,0,0,(⟨#[]⟩:ByteArray),[pidN,qp yac (Qd true rows),qp ipB (Qd false rows)]):=by
  refine .succ (fun k=>?_) (t1_ev (g:=ipB) (gi:=1) (names:=JB false) (x5:=[pidN,qp yac (Qd true rows)]) hrb hl (by rw [QJ];decide) (by simp) Zd (JB false).length 0 [] Zo rfl e2)
  simp only [yo.l0]
  rw [if_pos Zo,if_pos Zo,if_pos Zo,J1 (r:=ipB) rfl,s2]
  rfl
 have e0:Ev (fun k=>yo.l0 k rows [pidN] yX (yX.length:Int) ((0:Nat):Int)) ((⟨#[]⟩:ByteArray),8,false,0,0,0,(⟨#[]⟩:ByteArray),[pidN,qp yac (Qd true rows),qp ipB (Qd false rows)]):=by
  refine .succ (fun k=>?_) (t1_ev (g:=yac) (gi:=0) (names:=JB true) (x5:=[pidN]) hrb hl (by rw [QJ];decide) (by simp) Zd (JB true).length 0 [] Zo rfl e1)
  simp only [yo.l0]
  rw [if_pos Zo,if_pos Zo,if_pos Zo,J1 (r:=yac) rfl,s1]
  rfl
 exact .congr (fun k=>rfl) e0
theorem ntree_ev (rows:List S71) (hl:rows.length≤40001) (hrb:∀ r ∈ rows,RowB r) (hf:Ev (fun k=>ye.f k rows yX) true) :
 Ev (fun k=>Y6.f k rows) ((⟨#[]⟩:ByteArray),8,false,0,0,0,(⟨#[]⟩:ByteArray),[pidN,qp yac (Qd true rows),qp ipB (Qd false rows)],1):=by
 refine Ev.same hf (F:=fun k t349=>(if t349=true then ((Yf.f).bind fun t350=>((yo.f k rows t350).bind fun bt353=>(some (bt353.1,bt353.2.1,bt353.2.2.1,bt353.2.2.2.1,bt353.2.2.2.2.1,bt353.2.2.2.2.2.1,bt353.2.2.2.2.2.2.1,bt353.2.2.2.2.2.2.2,1)))) else (some ((⟨#[]⟩:ByteArray),0,false,0,0,0,(⟨#[]⟩:ByteArray),([]:List (S38)),2)))) (fun k=>rfl) ?_
 refine .congr (fun k=>if_pos rfl) ?_
 refine Ev.same (gtree_ev rows hl hrb) (F:=fun k bt353=>(some (bt353.1,bt353.2.1,bt353.2.2.1,bt353.2.2.2.1,bt353.2.2.2.2.1,bt353.2.2.2.2.2.1,bt353.2.2.2.2.2.2.1,bt353.2.2.2.2.2.2.2,1))) (fun k=>rfl) (.of _)
end Go.Proofs.YtlmennkeggmdbaaGreatDoor
namespace Go.Proofs.YtlmennkeggmdbaaGreatDoor
open Go.RowKit Go.Proofs.YtlmennkeggmdbaaGreatDoorW.PrintWords Go.Proofs.YtlmennkeggmdbaaGreatDoorW.PrintLast Go.Proofs.YtlmennkeggmdbaaGreatDoorW.PrintMore
def tcOf (r:S71):Bool:=decide (r.f0.toList=Jp true)
def zF (z:ByteArray × Int):List UInt8 × Int:=(z.1.toList,wrap64 z.2)
def qU (r:S71):Grp:=⟨tcOf r,(r.f2.zip r.f1).map zF⟩
theorem tc_of {r:S71} {tc:Bool} (h:r.f0.toList=Jp tc):tcOf r=tc:=by
 unfold tcOf
 rw [h]
 cases tc <;> decide
theorem mk_tl (b:ByteArray):mkB b.toList=b:=ext_toList (Q2 _)
theorem lab_mem:∀ {ls:List (ByteArray × Nat)} {s:ByteArray} {j:Nat},lab ls s=some j→∃ c,(c,j) ∈ ls∧s.data.toList=c.data.toList
 | [],_,_,h=>by cases h
 | (c,i)::r,s,j,h=>by
  unfold lab at h
  split at h
  · rename_i he
    obtain rfl:=Option.some.inj h
    exact ⟨c,by simp,eq_of_beq he⟩
  · obtain ⟨c',h1,h2⟩:=lab_mem h
    exact ⟨c',by simp [h1],h2⟩
theorem tcp_names:(qw.all fun c=>match Y9[c.2]? with
 | some s=>s.data.toList == c.1.data.toList
 | none=>false)=true:=by kernel_rfl
theorem ip_names:(QN.all fun c=>match Jy[c.2]? with
 | some s=>s.data.toList == c.1.data.toList
 | none=>false)=true:=by kernel_rfl
theorem tcp_self:((List.range 123).all fun q=>match Y9[q]? with
 | some s=>(lab qw s == some q) || (lab qw s).isNone
 | none=>false)=true:=by kernel_rfl
theorem labels_plain:((qw++QN).all fun c=>c.1.data.toList.all fun b=>b != 32 && b != 10 && b != 13)=true:=by kernel_rfl
theorem ybL {a b:ByteArray} (h:a.data.toList=b.data.toList):a=b:=ext_toList (by rw [ByteArray.toList_eq,ByteArray.toList_eq];exact h)
theorem lab_name {tc:Bool} {key:ByteArray} {j:Nat} (h:lab (labG tc) key=some j):(JB tc)[j]?=some key:=by
 obtain ⟨c,hc,he⟩:=lab_mem h
 obtain rfl:=ybL he
 cases tc with
 | true=>
  have h1:=List.all_eq_true.1 tcp_names _ hc
  show Y9[j]?=some key
  simp only at h1
  cases hn:Y9[j]? with
  | none=>rw [hn] at h1;cases h1
  | some s=>rw [hn] at h1;rw [ybL (eq_of_beq h1)]
 | false=>
  have h1:=List.all_eq_true.1 ip_names _ hc
  show Jy[j]?=some key
  simp only at h1
  cases hn:Jy[j]? with
  | none=>rw [hn] at h1;cases h1
  | some s=>rw [hn] at h1;rw [ybL (eq_of_beq h1)]
theorem lab_self {tc:Bool} {nm:ByteArray} {q j:Nat} (hq:(JB tc)[q]?=some nm) (h:lab (labG tc) nm=some j):j=q:=by
 have hlt:q<cntG tc:=by rw [← QJ];exact (List.getElem?_eq_some_iff.1 hq).1
 cases tc with
 | true=>
  have h1:=List.all_eq_true.1 tcp_self q (List.mem_range.2 hlt)
  have hq':Y9[q]?=some nm:=hq
  have h':lab qw nm=some j:=h
  rw [hq'] at h1
  simp only [h'] at h1
  simpa using h1
 | false=>
  have h1:=List.all_eq_true.1 lab_ip q (List.mem_range.2 hlt)
  have hq':Jy[q]?=some nm:=hq
  have h':lab QN nm=some j:=h
  rw [hq'] at h1
  simp only [h'] at h1
  simpa using h1
theorem lab_plain {tc:Bool} {key:ByteArray} {j:Nat} (h:lab (labG tc) key=some j):∀ b ∈ key.toList,b≠32∧b≠10∧b≠13:=by
 obtain ⟨c,hc,he⟩:=lab_mem h
 obtain rfl:=ybL he
 have hm:(key,j) ∈ qw++QN:=by
  cases tc with
  | true=>exact List.mem_append_left _ hc
  | false=>exact List.mem_append_right _ hc
 have h1:=List.all_eq_true.1 labels_plain _ hm
 intro b hb
 rw [ByteArray.toList_eq] at hb
 have h2:=List.all_eq_true.1 h1 b hb
 simpa [and_assoc] using h2
theorem step_at {tc tcr:Bool} {nm:ByteArray} {q:Nat} {r:S71} {z:ByteArray × Int} (hr:r.f0.toList=Jp tcr) (hk:KeyOk tcr z.1 z.2) (hnm:(JB tc)[q]?=some nm) (n:Nat→Option Nat) :
 ybj tcr n (zF z) (QT tc+q)=yaF (mkB (Jp tc)) nm r (n (QT tc+q)) z:=by
 obtain ⟨jj,hlab,hjj⟩:=hk.lab
 have hlt:q<cntG tc:=by rw [← QJ];exact (List.getElem?_eq_some_iff.1 hnm).1
 have e1:ybj tcr n (zF z)=upd n (QT tcr+jj) (FloatKind.f64.nearest (wrap64 z.2)):=by
  unfold ybj zF
  simp only [mk_tl,hlab]
 rw [e1]
 unfold upd yaF
 rw [hr,Q2]
 by_cases ht:tcr=tc
 · subst ht
   rw [if_pos rfl]
   by_cases hz:z.1.toList=nm.toList
   · have hzn:=ext_toList hz
     have hj:jj=q:=lab_self hnm (hzn ▸ hlab)
     rw [if_pos hz,if_pos Zo]
     rfl
   · have hj:jj≠q:=fun e=>by
      subst e
      have:=lab_name hlab
      rw [hnm] at this
      exact hz (by rw [Option.some.inj this])
     rw [if_neg hz,if_neg Zo]
 · have hne:Jp tcr≠Jp tc:=by
    cases tcr <;> cases tc <;> first|exact absurd rfl ht|decide
   rw [if_neg hne,if_neg]
   revert hjj hlt ht
   cases tcr <;> cases tc <;> simp [QT,cntG] <;> omega
theorem fine_ok {r:S71} (hf:qQ r):∃ tc:Bool,r.f0.toList=Jp tc∧r.f2≠[]∧r.f1.length=r.f2.length∧∀ z ∈ r.f2.zip r.f1,KeyOk tc z.1 z.2:=by
 obtain ⟨tc,h1,h2,h3,h4⟩:=hf.ex
 refine ⟨tc,h1,h2,h3,fun z hz=>?_⟩
 obtain ⟨j,hj⟩:=List.getElem?_of_mem hz
 have:=List.getElem?_zip_eq_some.1 hj
 exact h4 j z.1 z.2 this.1 this.2
theorem fold_at {tc tcr:Bool} {nm:ByteArray} {q:Nat} {r:S71} (hr:r.f0.toList=Jp tcr) (hnm:(JB tc)[q]?=some nm):∀ (zs:List (ByteArray × Int)),(∀ z ∈ zs,KeyOk tcr z.1 z.2)→∀ n:Nat→Option Nat,
 ((zs.map zF).foldl (ybj tcr) n) (QT tc+q)=zs.foldl (yaF (mkB (Jp tc)) nm r) (n (QT tc+q))
 | [],_,n=>rfl
 | z::zs,hk,n=>by
  rw [List.map_cons,List.foldl_cons,List.foldl_cons,fold_at hr hnm zs (fun y hy=>hk y (by simp [hy])),step_at hr (hk z (by simp)) hnm]
theorem run_at {tc:Bool} {nm:ByteArray} {q:Nat} (hnm:(JB tc)[q]?=some nm):∀ (rows:List S71),(∀ r ∈ rows,qQ r)→∀ n:Nat→Option Nat,
 JR n (rows.map qU) (QT tc+q)=QM (mkB (Jp tc)) nm rows (n (QT tc+q))
 | [],_,n=>rfl
 | r::rows,hf,n=>by
  obtain ⟨tcr,hr,_,_,hk⟩:=fine_ok (hf r (by simp))
  have h:=run_at hnm rows (fun y hy=>hf y (by simp [hy])) (runG n (qU r))
  show JR (runG n (qU r)) (rows.map qU) (QT tc+q)=QM (mkB (Jp tc)) nm rows (ycJ (mkB (Jp tc)) nm (n (QT tc+q)) r)
  rw [h]
  congr 1
  unfold runG qU ycJ
  rw [tc_of hr]
  exact fold_at hr hnm _ hk n
theorem ycw (n:Nat→Option Nat):∀ (xs:List ByteArray) (i q:Nat),(Js n i xs)[q]?=(xs[q]?).map fun nm=>yaA nm (n (i+q))
 | [],i,q=>by simp [Js]
 | x::xs,i,0=>by simp [Js]
 | x::xs,i,q+1=>by
  simp only [Js,List.getElem?_cons_succ]
  rw [ycw n xs (i+1) q,show i+1+q=i+(q+1) by omega]
theorem c0_pt (nm:ByteArray) (o:Option Nat):c0 (yaA nm o)=sNode nm o:=by cases o <;> rfl
theorem kids_eq (rows:List S71) (hf:∀ r ∈ rows,qQ r) (tc:Bool):(Js (fun i=>JR J5 (rows.map qU) (QT tc+i)) 0 (JB tc)).map c0=Qd tc rows:=by
 apply List.ext_getElem?
 intro q
 rw [List.getElem?_map,ycw]
 unfold Qd
 rw [List.getElem?_map]
 cases hnm:(JB tc)[q]? with
 | none=>rfl
 | some nm=>
  show some (c0 (yaA nm (JR J5 (rows.map qU) (QT tc+(0+q)))))=some (sNode nm (QM (mkB (Jp tc)) nm rows none))
  rw [c0_pt,Nat.zero_add,run_at hnm rows hf]
theorem net_eq (rows:List S71) (hf:∀ r ∈ rows,qQ r):(JW (JR J5 (rows.map qU))).map c1=[pidN,qp yac (Qd true rows),qp ipB (Qd false rows)]:=by
 rw [← kids_eq rows hf true,← kids_eq rows hf false]
 have e:(fun i=>JR J5 (rows.map qU) (QT true+i))=JR J5 (rows.map qU):=by funext i;rw [show QT true+i=i by simp [QT]]
 rw [e]
 rfl
theorem ybr (x:List UInt8):∀ ws:List (List UInt8),Ju (x::ws)=x++ws.flatMap (fun w=>32::w)
 | []=>by simp [Ju]
 | y::r=>by rw [Qh,ybr y r];simp
theorem good_of {r:S71} (hf:qQ r):ybB (qU r):=by
 obtain ⟨tc,hn,hne,hlen,hk⟩:=fine_ok hf
 have ht:tcOf r=tc:=tc_of hn
 refine ⟨?_,?_⟩
 · show (r.f2.zip r.f1).map zF≠[]
   intro h
   have h0:=congrArg List.length h
   simp only [List.length_map,List.length_zip,List.length_nil] at h0
   have:0<r.f2.length:=List.length_pos_iff.2 hne
   omega
 · intro k hkm
   have hkm':k ∈ (r.f2.zip r.f1).map zF:=hkm
   obtain ⟨z,hz,rfl⟩:=List.mem_map.1 hkm'
   have hok:=hk z hz
   show GoodK (tcOf r) (zF z)
   rw [ht]
   obtain ⟨jj,hlab,hjj⟩:=hok.lab
   refine ⟨⟨jj,?_,hjj⟩,hok.small,lab_plain hlab⟩
   show lab (labG tc) (mkB z.1.toList)=some jj
   rw [mk_tl];exact hlab
theorem row_tx {r:S71} (hf:qQ r):ybY r=Ju (qB (qU r))++10::(Ju (valL (qU r))++[10]):=by
 obtain ⟨tc,hn,hne,hlen,hk⟩:=fine_ok hf
 have ht:tcOf r=tc:=tc_of hn
 have hk1:(qU r).ks.map (·.1)=r.f2.map ByteArray.toList:=by
  show ((r.f2.zip r.f1).map zF).map (·.1)=_
  rw [List.map_map]
  have:(fun x=>x.1) ∘ zF=ByteArray.toList ∘ Prod.fst:=rfl
  rw [show ((fun x:List UInt8 × Int=>x.1) ∘ zF)=ByteArray.toList ∘ Prod.fst from rfl,← List.map_map,List.map_fst_zip Zo]
 have hk2:(qU r).ks.map (fun k=>qE k.2)=r.f1.map (fun v=>qE (wrap64 v)):=by
  show ((r.f2.zip r.f1).map zF).map (fun k=>qE k.2)=_
  rw [List.map_map,show ((fun k:List UInt8 × Int=>qE k.2) ∘ zF)=(fun v=>qE (wrap64 v)) ∘ Prod.snd from rfl,← List.map_map,List.map_snd_zip Zo]
 have hg:(qU r).tc=tc:=ht
 unfold qB valL
 rw [hk1,hk2,hg,ybr,ybr]
 unfold ybY kts vts
 rw [hn]
 simp [List.flatMap_map]
theorem text_eq':∀ (rows:List S71),(∀ r ∈ rows,qQ r)→rows.flatMap ybY=Jw (rows.map qU)
 | [],_=>rfl
 | r::rows,hf=>by
  rw [List.flatMap_cons,List.map_cons,row_tx (hf r (by simp)),text_eq' rows (fun y hy=>hf y (by simp [hy]))]
  show _=Ju _++10::(Ju _++10::Jw _)
  simp
theorem plainly (text:ByteArray) (hlen:text.size≤40000):Plainly text:=by
 obtain ⟨res,hres,hR⟩:=gread_f text hlen
 obtain ⟨b,hb,hfine⟩:=fine_ev res.1 hR.rl hR.rb
 cases h2:res.2 with
 | false=>
  refine ⟨res.1,false,2,Ev.ex (Ev.same hres (F:=fun k bt261=>(if bt261.2=true then ((Yf.f).bind fun t265=>((ye.f k bt261.1 t265).bind fun t268=>((Y7.f t268).bind fun t269=>(some (bt261.1,bt261.2,t269))))) else ((Y7.f false).bind fun t270=>(some (bt261.1,bt261.2,t270))))) (fun k=>rfl) (.congr (fun k=>?_) (.of _))),fun h=>absurd h Zd⟩
  rw [if_neg (by rw [h2];decide),h2]
  rfl
 | true=>
  have hread:Ev (fun k=>Y5.f k text) (res.1,true,if b=true then 1 else 2):=by
   refine Ev.same hres (F:=fun k bt261=>(if bt261.2=true then ((Yf.f).bind fun t265=>((ye.f k bt261.1 t265).bind fun t268=>((Y7.f t268).bind fun t269=>(some (bt261.1,bt261.2,t269))))) else ((Y7.f false).bind fun t270=>(some (bt261.1,bt261.2,t270))))) (fun k=>rfl) ?_
   refine .congr (fun k=>if_pos h2) ?_
   refine Ev.same hb (F:=fun k t268=>((Y7.f t268).bind fun t269=>(some (res.1,res.2,t269)))) (fun k=>rfl) ?_
   refine .congr (fun k=>?_) (.of _)
   rw [h2]
   cases b <;> rfl
  refine ⟨res.1,true,_,hread.ex,fun h1=>⟨rfl,?_⟩⟩
  cases b with
  | false=>exact absurd h1 Zd
  | true=>
   have hf:=hfine rfl
   refine ⟨res.1.map qU,fun g hg=>?_,?_,?_⟩
   · obtain ⟨r,hr,rfl⟩:=List.mem_map.1 hg
     exact good_of (hf r hr)
   · apply ext_toList
     rw [← text_eq' res.1 hf,hR.eq h2]
     exact (Q2 _).symm
   · refine ⟨_,_,_,_,_,_,_,_,(ntree_ev res.1 hR.rl hR.rb hb).ex,?_⟩
     rw [← net_eq res.1 hf]
     exact (netnode_ev (JR J5 (res.1.map qU))).ex
end Go.Proofs.YtlmennkeggmdbaaGreatDoor
namespace Go.Proofs.YtlmennkeggmdbaaGreatDoor
open Go.ChangeShapes Go.WideShapes Go.ChangeAt Go.RowKit
open Go.ChangeMaps (open_string shut_string)
theorem own:ownKnob Tryz.prog.godebug=none:=by kernel_rfl
theorem witness_met (os:Os):laidMetH Tryz.prog Rows.fnNetstatReadRow.laid ((World.laidAll Tryz.prog os Rows.fnNetstatReadRow.laid).forCall (fun _ _=>0) ⟨#[],#[.string ByteArray.empty],[]⟩).memory:=by
 rw [MakeChecks.laidMetH_plain _ _ _ Zk]
 exact laidMet_laidAll _ Zk Zk
set_option maxRecDepth 100000 in
theorem lifted (os:Os) (started:os.Started) (H:Type) (enc:TypeId × Value→H) :
 ReturnsInHanded {} Tryz.checked os 3 .any (fun w args=>(Rows.fnNetstatReadSpec.pre enc Tryz.prog Tryz.f3 [] false w args∧laidMetH Tryz.prog Rows.fnNetstatReadRow.laid w)∧sizedMet enc Tryz.prog Tryz.f3 (OpenSpec.ofChange Rows.fnNetstatReadSpec) false w args)
  (Rows.fnNetstatReadSpec.post enc Tryz.prog Tryz.f3 false true false false):=by
 refine returnsInHanded_of_change_and (C:=Tryz.checked) (X:=fun w _=>laidMetH Tryz.prog Rows.fnNetstatReadRow.laid w) (fun _ _ _ hh h=>h.of_heap hh) own started Zk Tryz.func3
  (ChangeSpec.witness_shaped (enc:=enc) (C:=Tryz.checked) (os:=os) (X:=fun w _=>laidMetH Tryz.prog Rows.fnNetstatReadRow.laid w) false (World.laidAll Tryz.prog os Rows.fnNetstatReadRow.laid) #[.string ByteArray.empty] 8 (World.laidAll_os _ _ _)
   (World.shaped_of_ZipB Zk Zk) Zk Zk Zk (witness_met os)) ?_
 intro W base args ds gs before hval0 hW _ _ hL _
 have hval:∀ (j:Nat) t v,Tryz.f3.params[j]?=some t→args[j]?=some v→Value.okWide Tryz.prog W .any base t v:=hval0
 have hW':=hW
 obtain ⟨p,q,hA0,hV,rfl,_,_⟩:=hW
 have hA:DataW.TrodAll enc Tryz.prog W 0 (fun _=>true) true Tryz.f3.params.toList args.toList ds p:=hA0
 rw [Tryz.params3] at hA hval
 obtain ⟨v0,d0,rfl,rfl,h0⟩:=trodAll_one hA
 obtain ⟨rfl,rfl⟩:=trodVars_none hV
 obtain ⟨s,rfl,rfl,rfl,hs⟩:=open_string (Tryz.underlying9) (hval 0 9 v0 rfl rfl) h0
 simp only [List.append_nil] at hW'
 obtain ⟨tb,c,hl⟩:=lives_of hL
 refine (fn_walk s (fun h=>plainly s h) W tb c hl).mono fun e W' ⟨he,hb⟩=>?_
 subst he
 exact ⟨_,rfl,_,_,_,[],[],[],hW',trodAll_mk1 (shut_bool Tryz.underlying4 _),trodAll_mk1 (shut_string Tryz.underlying9 hs),rfl,hb.frame _,fun h=>by cases h⟩
theorem row_holds:Rows.FnNetstatReadSaid:=
 OpenClaim.holds_of_wide 3 Tryz.f3 rfl rfl rfl rfl rfl rfl rfl ⟨rfl,rfl,rfl,rfl,rfl⟩ rfl rfl rfl rfl rfl Zk Tryz.func3 Zk
  (of_decide_eq_true Zk) (by unfold Func.isWrapper;first|(rw [if_pos (by decide +kernel)];kernel_rfl)|(rw [if_neg (by decide +kernel)];exact ⟨rfl,rfl⟩))
  (fun os started H enc _=>lifted os started H enc)
end Go.Proofs.YtlmennkeggmdbaaGreatDoor
namespace Go.Proofs.YtlmennkeggmdbaaGreatDoor
open Go
set_option maxRecDepth 100000
theorem fnNetstatRead_card:Rows.FnNetstatReadCardSaid:=
 Claim7.holds_tied_plain_at .later [] [.data,.data,.widerDeep,.widerDeep,.data,.data,.data,.data,.data,.sentinel,.sentinel,.listed,.data,.pinned,.pinned] true (true, "a875a5ce52bbc8b02b0d5d54403297b05033ce5e101d51bd53d4a20d4f9e11a1") true
  row_holds (fun _ h=>by cases h) Zk (fun _ h=>by cases h) fnNetstatRead_row_tie rfl ⟨rfl,rfl⟩ Zk rfl
  (fun f fn hf hfn=>by
   obtain rfl:f=3:=Option.some.inj ((show Tryz.prog.funcNamed "pub-frontispiece/laws.FnNetstatRead" = some 3 by kernel_rfl).symm.trans hf) |>.symm
   obtain rfl:fn=Tryz.f3:=(Option.some.inj (Tryz.func3.symm.trans hfn)).symm
   exact ⟨by kernel_rfl,fun j t ht=>by
    rw [Tryz.params3] at ht
    have hm:t ∈ [9]:=by simpa using Array.mem_of_getElem? ht
    have hall:([9].all fun u=>!Tryz.prog.wantsStandIn u)=true:=by kernel_rfl
    exact (show Tryz.prog.wantsStandIn t=false by simpa using List.all_eq_true.1 hall t hm)⟩)
  Zk
end Go.Proofs.YtlmennkeggmdbaaGreatDoor
