/- The tied card of laws.FnXfsRead holds: for every input the law returns true and the input reads as it did. No conditions. -/
import Derived.Test.YtdcaggoicdfehaaGreatDoorVz
import Derived.Test.YtdcaggoicdfehaaGreatDoorV43
import Derived.Test.YtdcaggoicdfehaaGreatDoorV12
import Derived.Test.YtdcaggoicdfehaaGreatDoorV33
import Derived.Test.YtdcaggoicdfehaaGreatDoorV40
import Derived.Test.YtdcaggoicdfehaaGreatDoorV42
import Derived.Test.YtdcaggoicdfehaaGreatDoorV25
import Derived.WalkKit
import Derived.ProofKit
import Derived.ShutString
import Derived.SevenTiedAt
import Derived.Stop.Joined
import Derived.Test.YtdcaggoicdfehaaGreatDoorTie
import Derived.Test.YtdcaggoicdfehaaGreatDoorCards
set_option linter.unusedVariables false
set_option linter.unusedSimpArgs false
namespace Go.Proofs.YtdcaggoicdfehaaGreatDoor
open Go.RowKit Go.Proofs.YtdcaggoicdfehaaGreatDoorW.PrintWords Go.Proofs.YtdcaggoicdfehaaGreatDoorW.PrintLast Go.Proofs.YtdcaggoicdfehaaGreatDoorW.PrintMore
abbrev uK (nm:ByteArray) (x:Int):S38:=⟨nm,3,false,0,x,0,⟨#[]⟩,[]⟩
def yaG (fields:List ByteArray) (N:List Int):List S38:=fields.zipIdx.map fun x=>uK x.1 (N.getD x.2 0)
theorem fillK_len (fields:List ByteArray) (N:List Int):(yaG fields N).length=fields.length:=by simp [yaG]
theorem fillK_take (fields:List ByteArray) (N:List Int) (j:Nat) (h:j<fields.length):(yaG fields N).take (j+1)=(yaG fields N).take j++[uK fields[j] (N.getD j 0)]:=by
 rw [List.take_succ_eq_append_getElem (by rw [fillK_len];exact h)]
 simp [yaG]
theorem fill_ev (nm:ByteArray) (fields:List ByteArray) (N:List Int) (hl:fields.length≤1000) (hN:N.length≤1000000):∀ (m j:Nat),j+m=fields.length→Ev (fun k=>Ye.l0 k nm N ((yaG fields N).take j) fields (fields.length:Int) (j:Int)) (nm,8,false,0,0,0,⟨#[]⟩,yaG fields N):=by
 intro m
 induction m with
 | zero=>
  intro j hj
  refine .succ (h:=fun _=>some _) (fun k=>?_) (.of _)
  simp only [Ye.l0]
  rw [if_neg Zo,List.take_of_length_le (by rw [fillK_len];omega)]
  rfl
 | succ m ih=>
  intro j hj
  have hjl:j<fields.length:=by omega
  have hih:=ih (j+1) Zo
  rw [fillK_take fields N j hjl] at hih
  have hj1:Ev (fun k=>Ye.j1 k nm N ((yaG fields N).take j) fields[j] (N.getD j 0) fields (fields.length:Int) (j:Int)) (nm,8,false,0,0,0,⟨#[]⟩,yaG fields N):=by
   refine .succ (fun k=>?_) hih
   simp only [Ye.j1,qy.f,Option.bind_some]
   rw [if_pos (by rw [List.length_take];omega),YH Zo]
  refine .succ (fun k=>?_) hj1
  simp only [Ye.l0]
  rw [if_pos Zo,if_pos Zo,if_pos Zo,ycS fields j hjl]
  by_cases c:j<N.length
  · rw [if_pos Zo];rfl
  · rw [if_neg Zo]
    have:N.getD j 0=0:=by simp [List.getD_eq_getElem?_getD,c]
    rw [this]
theorem fill_f (nm:ByteArray) (fields:List ByteArray) (N:List Int) (hl:fields.length≤1000) (hN:N.length≤1000000):Ev (fun k=>Ye.f k nm fields N) (nm,8,false,0,0,0,⟨#[]⟩,yaG fields N):=.congr (fun k=>rfl) (fill_ev nm fields N hl hN fields.length 0 Zo)
def Qb:List S56→ByteArray→List Int
 | [],_=>[]
 | r::rs,nm=>if r.f0=nm then r.f1 else Qb rs nm
theorem named_ev (l:List S56) (nm:ByteArray) (hl:l.length≤1000001):∀ (m j:Nat),j+m=l.length→∃ t:ByteArray × List Int × List ByteArray × Bool,Ev (fun k=>Yr.l0 k nm l (l.length:Int) (j:Int)) t∧t.2.1=Qb (l.drop j) nm:=by
 intro m
 induction m with
 | zero=>
  intro j hj
  refine ⟨(⟨#[]⟩,[],[],false),.succ (h:=fun _=>some _) (fun k=>by simp only [Yr.l0];rw [if_neg Zo]) (.of _),?_⟩
  rw [List.drop_eq_nil_of_le Zo];rfl
 | succ m ih=>
  intro j hj
  have hjl:j<l.length:=by omega
  rw [List.drop_eq_getElem_cons hjl]
  by_cases c:l[j].f0.toList=nm.toList
  · refine ⟨(l[j].f0,l[j].f1,l[j].f2,true),.succ (h:=fun _=>some _) (fun k=>?_) (.of _),?_⟩
    · simp only [Yr.l0]
      rw [if_pos Zo,if_pos Zo,if_pos Zo,qx l j hjl,if_pos c]
    · simp only [Qb];rw [if_pos (toList_eq c)]
  · obtain ⟨t,ht,h⟩:=ih (j+1) Zo
    refine ⟨t,.succ (fun k=>?_) ht,?_⟩
    · simp only [Yr.l0]
      rw [if_pos Zo,if_pos Zo,if_pos Zo,qx l j hjl,if_neg c,YH Zo]
    · simp only [Qb];rw [if_neg (fun e=>c (by rw [e]))];exact h
theorem named_f (l:List S56) (nm:ByteArray) (hl:l.length≤1000001):∃ t:ByteArray × List Int × List ByteArray × Bool,Ev (fun k=>Yr.f k l nm) t∧t.2.1=Qb l nm:=by
 obtain ⟨t,ht,h⟩:=named_ev l nm hl l.length 0 Zo
 exact ⟨t,.congr (fun k=>rfl) ht,h⟩
theorem ydp:∀ (l:List S56) (nm:ByteArray),(∀ r ∈ l,qn r)→(Qb l nm).length≤20
 | [],nm,_=>by simp [Qb]
 | r::rs,nm,h=>by
  unfold Qb
  split
  · obtain ⟨i,g,hi,hig,hgn,hlen,_⟩:=h r (List.mem_cons_self ..)
    rw [hlen];exact (qo (List.mem_of_getElem? hig)).2.1
  · exact ydp rs nm (fun x hx=>h x (List.mem_cons_of_mem _ hx))
def gK (rows:List S56) (g:S53):S38:=⟨g.f1,8,false,0,0,0,⟨#[]⟩,yaG g.f2 (Qb rows g.f0)⟩
abbrev nameK:S38:=⟨⟨#[78,97,109,101]⟩,5,false,0,0,0,⟨#[]⟩,[]⟩
theorem tree_ev (l:List S56) (hl:l.length≤1000001) (hf:∀ r ∈ l,qn r):∀ (m j:Nat),j+m=yZ.length→∀ x4:List S38,x4.length≤j+1→Ev (fun k=>yY.l0 k l x4 yZ (yZ.length:Int) (j:Int)) ((⟨#[]⟩:ByteArray),8,false,0,0,0,(⟨#[]⟩:ByteArray),x4++(yZ.drop j).map (gK l),1):=by
 intro m
 have hG:=QI
 induction m with
 | zero=>
  intro j hj x4 h4
  refine .succ (h:=fun _=>some _) (fun k=>?_) (.of _)
  simp only [yY.l0]
  rw [if_neg Zo,List.drop_eq_nil_of_le Zo,List.map_nil,List.append_nil]
  rfl
 | succ m ih=>
  intro j hj x4 h4
  have hjl:j<yZ.length:=by omega
  obtain ⟨t,ht,htn⟩:=named_f l yZ[j].f0 hl
  have hgf:=qo (List.getElem_mem hjl)
  have hfl:=fill_f yZ[j].f1 yZ[j].f2 t.2.1 Zo (by rw [htn];have:=ydp l yZ[j].f0 hf;omega)
  have hih:=ih (j+1) Zo (x4++[gK l yZ[j]]) (by simp;omega)
  have he:(x4++[gK l yZ[j]])++(yZ.drop (j+1)).map (gK l)=x4++(yZ.drop j).map (gK l):=by
   rw [List.drop_eq_getElem_cons hjl,List.map_cons,List.append_assoc];rfl
  rw [he] at hih
  apply Ev.step ht
  · intro k
    simp only [yY.l0]
    rw [if_pos Zo,if_pos Zo,if_pos Zo,ycQ _ j hjl]
  · apply Ev.same hfl
    · intro k
      rfl
    · refine .congr (fun k=>?_) hih
      rw [if_pos Zo,YH Zo]
      simp only [gK,htn]
theorem tree_f (l:List S56) (hl:l.length≤1000001) (hf:∀ r ∈ l,qn r) (hb:Ev (fun k=>yp.f k l) true):Ev (fun k=>yY.f k l) ((⟨#[]⟩:ByteArray),8,false,0,0,0,(⟨#[]⟩:ByteArray),nameK::yZ.map (gK l),1):=by
 have h:=tree_ev l hl hf yZ.length 0 Zo [nameK] (by simp)
 apply Ev.same hb
 · intro k
   simp only [yY.f]
   rfl
 · refine .congr (fun k=>?_) h
   rw [if_pos rfl]
   rfl
abbrev tup38 (x:S38):ByteArray × Int × Bool × Int × Int × Nat × ByteArray × List S38:=(x.f0,x.f1,x.f2,x.f3,x.f4,x.f5,x.f6,x.f7)
theorem node_ev (l:List S34) (cv:S34→S38) (hl:l.length≤1000) (hc:∀ x ∈ l,Ev (fun k=>yR.f k x.f0 x.f1 x.f2 x.f3 x.f4 x.f5 x.f6 x.f7) (tup38 (cv x))) (a0:ByteArray) (a1:Int) (a2:Bool) (a3 a4:Int) (a5:Nat) (a6:ByteArray) :
 Ev (fun k=>yR.f k a0 a1 a2 a3 a4 a5 a6 l) (a0,a1,a2,a3,a4,a5,a6,l.map cv):=by
 have key:∀ (m j:Nat),j+m=l.length→Ev (fun k=>yR.l0 k l (l.length:Int) (j:Int) a0 a1 a2 a3 a4 a5 a6 ((l.map cv).take j)) (a0,a1,a2,a3,a4,a5,a6,l.map cv):=by
  intro m
  induction m with
  | zero=>
   intro j hj
   refine .succ (h:=fun _=>some _) (fun k=>?_) (.of _)
   simp only [yR.l0]
   rw [if_neg Zo,List.take_of_length_le (by simp;omega)]
  | succ m ih=>
   intro j hj
   have hjl:j<l.length:=by omega
   have hih:=ih (j+1) Zo
   rw [List.take_succ_eq_append_getElem (by simpa using hjl),List.getElem_map] at hih
   have hrd:yH l (j:Int)=l[j]:=by simp [yH,List.getD_eq_getElem?_getD,hjl]
   apply Ev.step (hc _ (List.getElem_mem hjl))
   · intro k
     simp only [yR.l0]
     rw [if_pos Zo,if_pos Zo,if_pos Zo,hrd]
   · refine .congr (fun k=>?_) hih
     rw [if_pos (by rw [List.length_take];omega),YH Zo]
     generalize cv l[j]=y
     cases y
     rfl
 refine .succ (fun k=>?_) (key l.length 0 Zo)
 simp only [yR.f]
 rfl
def c0 (x:S34):S38:=⟨x.f0,x.f1,x.f2,x.f3,x.f4,x.f5,x.f6,[]⟩
def c1 (x:S34):S38:=⟨x.f0,x.f1,x.f2,x.f3,x.f4,x.f5,x.f6,x.f7.map c0⟩
theorem leaf_ev (x:S34) (h:x.f7=[]):Ev (fun k=>yR.f k x.f0 x.f1 x.f2 x.f3 x.f4 x.f5 x.f6 x.f7) (tup38 (c0 x)):=by
 rw [h]
 exact node_ev [] c0 (by simp) (fun x hx=>by cases hx) _ _ _ _ _ _ _
theorem rec_ev (x:S34) (hl:x.f7.length≤1000) (h:∀ y ∈ x.f7,y.f7=[]):Ev (fun k=>yR.f k x.f0 x.f1 x.f2 x.f3 x.f4 x.f5 x.f6 x.f7) (tup38 (c1 x)):=
 node_ev x.f7 c0 hl (fun y hy=>leaf_ev y (h y hy)) _ _ _ _ _ _ _
theorem stats_ev (n:Nat→Nat→Int):Ev (fun k=>yR.f k ⟨#[]⟩ 8 false 0 0 0 ⟨#[]⟩ (JB ⟨#[]⟩ n)) ((⟨#[]⟩:ByteArray),8,false,0,0,0,(⟨#[]⟩:ByteArray),(JB ⟨#[]⟩ n).map c1):=by
 refine node_ev _ c1 (by simp [JB,QI]) (fun x hx=>?_) _ _ _ _ _ _ _
 simp only [JB,List.mem_cons,List.mem_map] at hx
 rcases hx with rfl|⟨g,hg,rfl⟩
 · exact rec_ev _ (by simp) (fun y hy=>by cases hy)
 · have hgm:g.1 ∈ yZ:=by
    have:=List.mem_zipIdx hg
    obtain ⟨_,h1,h2⟩:=this
    rw [h2];exact List.getElem_mem _
   refine rec_ev _ ?_ (fun y hy=>?_)
   · show ((g.1.f2.zipIdx.map fun x=>yz x.1 (n g.2 x.2))).length≤1000
     have:=(qo hgm).2.1
     simp;omega
   · have hy':y ∈ (g.1.f2.zipIdx.map fun x=>yz x.1 (n g.2 x.2)):=hy
     obtain ⟨x,_,rfl⟩:=List.mem_map.1 hy'
     rfl
theorem trees_eq (rows:List S56) (n:Nat→Nat→Int) (h:∀ (i:Nat) (g:S53),yZ[i]?=some g→∀ j,j<g.f2.length→n i j=(Qb rows g.f0).getD j 0):(JB ⟨#[]⟩ n).map c1=nameK::yZ.map (gK rows):=by
 simp only [JB,List.map_cons,List.map_map]
 congr 1
 apply List.ext_getElem?
 intro i
 simp only [List.getElem?_map,List.getElem?_zipIdx]
 cases hg:yZ[i]? with
 | none=>rfl
 | some g=>
  simp only [Option.map_some,Function.comp_apply,c1,gK,Nat.zero_add]
  congr 1
  congr 1
  simp only [yaG,List.map_map]
  apply List.map_congr_left
  intro x hx
  obtain ⟨_,h1,h2⟩:=List.mem_zipIdx hx
  simp only [Function.comp_apply,c0,uK]
  rw [h i g hg x.2 Zo]
theorem upd_same {n:Nat→Nat→Int} {k:Nat} {x:Nat→Int} {i j:Nat} (h:i=k):upd n k x i j=x j:=if_pos h
theorem upd_ne {n:Nat→Nat→Int} {k:Nat} {x:Nat→Int} {i j:Nat} (h:i≠k):upd n k x i j=n i j:=if_neg h
theorem nums_none (g:S53) (i:Nat) (hg:yZ[i]?=some g):∀ (l:List S56) (n:Nat→Nat→Int) (j:Nat),(∀ r ∈ l,qn r)→(∀ r ∈ l,r.f0≠g.f0)→YZ n (l.map conv) i j=n i j
 | [],n,j,_,_=>rfl
 | r::l,n,j,hf,hne=>by
  obtain ⟨i',g',hi',hig',hgn',_⟩:=hf r (List.mem_cons_self ..)
  simp only [List.map_cons,YZ]
  rw [nums_none g i hg l _ j (fun x hx=>hf x (List.mem_cons_of_mem _ hx)) (fun x hx=>hne x (List.mem_cons_of_mem _ hx))]
  refine upd_ne (fun e=>?_)
  have e:i=i':=e.trans (gi_eq hi' hig' hgn')
  subst e
  rw [hg] at hig'
  obtain rfl:=Option.some.inj hig'
  exact hne r (List.mem_cons_self ..) hgn'.symm
theorem ydk (g:S53) (i:Nat) (hg:yZ[i]?=some g):∀ (l:List S56) (n:Nat→Nat→Int) (j:Nat),(∀ r ∈ l,qn r)→RowsIn l→l.Pairwise (fun a b=>b.f0≠a.f0)→n i j=0→YZ n (l.map conv) i j=(Qb l g.f0).getD j 0
 | [],n,j,_,_,_,h0=>by simp only [List.map_nil,YZ,Qb];rw [h0];rfl
 | r::l,n,j,hf,hU,hp,h0=>by
  obtain ⟨i',g',hi',hig',hgn',_⟩:=hf r (List.mem_cons_self ..)
  have hgi:=gi_eq hi' hig' hgn'
  rw [List.pairwise_cons] at hp
  simp only [List.map_cons,YZ,Qb]
  by_cases c:r.f0=g.f0
  · rw [if_pos c]
    have hii:i'=i:=Q2 hig' hg (hgn'.trans c)
    rw [nums_none g i hg l _ j (fun x hx=>hf x (List.mem_cons_of_mem _ hx)) (fun x hx=>by rw [← c];exact hp.1 x hx)]
    refine (upd_same (hii.symm.trans hgi.symm)).trans ?_
    show ((r.f1.getD j 0).toNat:Int)=r.f1.getD j 0
    have hnn:0≤r.f1.getD j 0:=by
     by_cases hj:j<r.f1.length
     · have e:r.f1.getD j 0=r.f1[j]:=by simp [List.getD_eq_getElem?_getD,hj]
       rw [e];exact (hU r (List.mem_cons_self ..) _ (List.getElem_mem hj)).1
     · have e:r.f1.getD j 0=0:=by simp [List.getD_eq_getElem?_getD,hj]
       rw [e];exact Int.le_refl 0
    omega
  · rw [if_neg c]
    refine ydk g i hg l _ j (fun x hx=>hf x (List.mem_cons_of_mem _ hx)) (fun x hx=>hU x (List.mem_cons_of_mem _ hx)) hp.2 ?_
    refine (upd_ne (fun e=>?_)).trans h0
    have e:i=i':=e.trans hgi
    subst e
    rw [hg] at hig'
    obtain rfl:=Option.some.inj hig'
    exact c hgn'.symm
end Go.Proofs.YtdcaggoicdfehaaGreatDoor
namespace Go.Proofs.YtdcaggoicdfehaaGreatDoor
open Go.RowKit Go.Proofs.YtdcaggoicdfehaaGreatDoorW.PrintWords Go.Proofs.YtdcaggoicdfehaaGreatDoorW.PrintLast Go.Proofs.YtdcaggoicdfehaaGreatDoorW.PrintMore
theorem plainly (text:ByteArray) (hlen:text.size≤40000):Plainly text:=by
 obtain ⟨ls,hL,hl1,hl2⟩:=lines_f text Zo
 obtain ⟨⟨rows,ok⟩,hT,hU,hrl⟩:=table_f ls Zo (fun s hs=>by have:=hl2 s hs;omega)
 obtain ⟨b,hp⟩:=plain_f text Zo
 have hrl':rows.length≤1000001:=by have:rows.length≤ls.length:=hrl;omega
 have hU':RowsIn rows:=hU
 obtain ⟨fb,s,told,hfb,hx,hgood⟩:=print_f rows hrl' hU'
 refine ⟨ls,rows,ok,b,told,s,hL.ex,hT.ex,hp.ex,hx.ex,fun hg=>?_⟩
 simp only [Bool.and_eq_true,beq_iff_eq] at hg
 obtain ⟨⟨⟨_,_⟩,ht⟩,hst⟩:=hg
 obtain ⟨rfl,hF,rfl⟩:=hgood ht
 have hst':=toList_eq hst
 have htx:text=⟨(Y5 (rows.map conv)).toArray⟩:=by rw [ydK];exact hst'.symm
 have hpair:rows.Pairwise (fun a b=>b.f0≠a.f0):=by
  rw [List.pairwise_iff_getElem]
  exact fun i j hi hj hij=>hF.2 j hj i hij
 have hR:∀ r ∈ rows.map conv,RowOk r.1 r.2.1 r.2.2:=fun r hr=>by
  obtain ⟨x,hx,rfl⟩:=List.mem_map.1 hr
  exact rowOk_conv x (hF.1 x hx) (hU' x hx)
 have hrange:=ya0 (rows.map conv) (fun _ _=>0) (fun _ _=>by decide) (fun r hr j=>by
  have h1:=(hR r hr).lt j
  by_cases c:r.2.1=13∨r.2.1=32
  · rw [if_pos c] at h1;exact h1
  · rw [if_neg c] at h1;omega)
 refine ⟨rows.map conv,hR,htx,fun i j=>wrap_u64 (hrange i j).1 (hrange i j).2,_,_,_,_,_,_,_,_,(tree_f rows hrl' hF.1 hfb).ex,?_⟩
 have hst2:=stats_ev (YZ (fun _ _=>0) (rows.map conv))
 rw [trees_eq rows _ (fun i g hg j hj=>ydk g i hg rows (fun _ _=>0) j hF.1 hU' hpair rfl)] at hst2
 exact hst2.ex
end Go.Proofs.YtdcaggoicdfehaaGreatDoor
namespace Go.Proofs.YtdcaggoicdfehaaGreatDoor
open Go.ChangeShapes Go.WideShapes Go.ChangeAt Go.RowKit
open Go.ChangeMaps (open_string shut_string)
theorem own:ownKnob Tryz.prog.godebug=none:=by kernel_rfl
theorem witness_met (os:Os):laidMetH Tryz.prog Rows.fnXfsReadRow.laid ((World.laidAll Tryz.prog os Rows.fnXfsReadRow.laid).forCall (fun _ _=>0) ⟨#[],#[.string ByteArray.empty],[]⟩).memory:=by
 rw [MakeChecks.laidMetH_plain _ _ _ Zk]
 exact laidMet_laidAll _ Zk Zk
set_option maxRecDepth 100000 in
theorem lifted (os:Os) (started:os.Started) (H:Type) (enc:TypeId × Value→H) :
 ReturnsInHanded {} Tryz.checked os 3 .any (fun w args=>(Rows.fnXfsReadSpec.pre enc Tryz.prog Tryz.f3 [] false w args∧laidMetH Tryz.prog Rows.fnXfsReadRow.laid w)∧sizedMet enc Tryz.prog Tryz.f3 (OpenSpec.ofChange Rows.fnXfsReadSpec) false w args)
  (Rows.fnXfsReadSpec.post enc Tryz.prog Tryz.f3 false true false false):=by
 refine returnsInHanded_of_change_and (C:=Tryz.checked) (X:=fun w _=>laidMetH Tryz.prog Rows.fnXfsReadRow.laid w) (fun _ _ _ hh h=>h.of_heap hh) own started Zk Tryz.func3
  (ChangeSpec.witness_shaped (enc:=enc) (C:=Tryz.checked) (os:=os) (X:=fun w _=>laidMetH Tryz.prog Rows.fnXfsReadRow.laid w) false (World.laidAll Tryz.prog os Rows.fnXfsReadRow.laid) #[.string ByteArray.empty] 8 (World.laidAll_os _ _ _)
   (World.shaped_of_ZipB Zk Zk) Zk Zk Zk (witness_met os)) ?_
 intro W base args ds gs before hval0 hW _ _ hL _
 have hval:∀ (j:Nat) t v,Tryz.f3.params[j]?=some t→args[j]?=some v→Value.okWide Tryz.prog W .any base t v:=hval0
 have hW':=hW
 obtain ⟨p,q,hA0,hV,rfl,_,_⟩:=hW
 have hA:DataW.TrodAll enc Tryz.prog W 0 (fun _=>true) true Tryz.f3.params.toList args.toList ds p:=hA0
 rw [Tryz.params3] at hA hval
 obtain ⟨v0,d0,rfl,rfl,h0⟩:=trodAll_one hA
 obtain ⟨rfl,rfl⟩:=trodVars_none hV
 obtain ⟨s,rfl,rfl,rfl,hs⟩:=open_string (Tryz.underlying9) (hval 0 9 v0 rfl rfl) h0
 simp only [List.append_nil] at hW'
 obtain ⟨tb,c,hl⟩:=lives_of hL
 refine (fn_walk s (fun h=>plainly s h) W tb c hl).mono fun e W' ⟨he,hb⟩=>?_
 subst he
 exact ⟨_,rfl,_,_,_,[],[],[],hW',trodAll_mk1 (shut_bool Tryz.underlying4 _),trodAll_mk1 (shut_string Tryz.underlying9 hs),rfl,hb.frame _,fun h=>by cases h⟩
theorem row_holds:Rows.FnXfsReadSaid:=
 OpenClaim.holds_of_wide 3 Tryz.f3 rfl rfl rfl rfl rfl rfl rfl ⟨rfl,rfl,rfl,rfl,rfl⟩ rfl rfl rfl rfl rfl Zk Tryz.func3 Zk
  (of_decide_eq_true Zk) (by unfold Func.isWrapper;first|(rw [if_pos (by decide +kernel)];kernel_rfl)|(rw [if_neg (by decide +kernel)];exact ⟨rfl,rfl⟩))
  (fun os started H enc _=>lifted os started H enc)
end Go.Proofs.YtdcaggoicdfehaaGreatDoor
namespace Go.Proofs.YtdcaggoicdfehaaGreatDoor
open Go
set_option maxRecDepth 100000
theorem fnXfsRead_card:Rows.FnXfsReadCardSaid:=
 Claim7.holds_tied_plain_at .later [] [.data,.data,.widerDeep,.widerDeep,.data,.data,.data,.data,.data,.sentinel,.sentinel,.listed,.data,.pinned,.pinned] true (true, "2ba448753c3aaf0202b289d428bcfba36b0a0f91a0365e53947e61e565138096") true
  row_holds (fun _ h=>by cases h) Zk (fun _ h=>by cases h) fnXfsRead_row_tie rfl ⟨rfl,rfl⟩ Zk rfl
  (fun f fn hf hfn=>by
   obtain rfl:f=3:=Option.some.inj ((show Tryz.prog.funcNamed "pub-frontispiece/laws.FnXfsRead" = some 3 by kernel_rfl).symm.trans hf) |>.symm
   obtain rfl:fn=Tryz.f3:=(Option.some.inj (Tryz.func3.symm.trans hfn)).symm
   exact ⟨by kernel_rfl,fun j t ht=>by
    rw [Tryz.params3] at ht
    have hm:t ∈ [9]:=by simpa using Array.mem_of_getElem? ht
    have hall:([9].all fun u=>!Tryz.prog.wantsStandIn u)=true:=by kernel_rfl
    exact (show Tryz.prog.wantsStandIn t=false by simpa using List.all_eq_true.1 hall t hm)⟩)
  Zk
end Go.Proofs.YtdcaggoicdfehaaGreatDoor
