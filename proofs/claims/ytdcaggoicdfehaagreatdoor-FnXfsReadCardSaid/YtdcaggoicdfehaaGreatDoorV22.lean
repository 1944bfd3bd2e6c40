/- Part 22 of 44 of the proof of the tied card of FnXfsRead. -/
import Derived.Test.YtdcaggoicdfehaaGreatDoorVz
import Derived.Test.YtdcaggoicdfehaaGreatDoorV21
import Derived.Test.YtdcaggoicdfehaaGreatDoorV19
set_option linter.unusedVariables false
set_option linter.unusedSimpArgs false
namespace Go.Proofs.YtdcaggoicdfehaaGreatDoor
open Go.RowKit Go.Proofs.YtdcaggoicdfehaaGreatDoorW.PrintWords Go.Proofs.YtdcaggoicdfehaaGreatDoorW.PrintLast Go.Proofs.YtdcaggoicdfehaaGreatDoorW.PrintMore
def envOf:Nat→List Value→Env
 | _,[]=>[]
 | i,v::r=>(i,v)::envOf (i+1) r
def resE:List ResultVar→Env→Option (List Value)
 | [],_=>some []
 | .tmp u::rs,E=>match resE rs E with
  | some vs=>some (lk E u::vs)
  | none=>none
 | _::_,_=>none
def tup:List Value→Value
 | [v]=>v
 | vs=>.tuple vs.toArray
def ycg (P:Program) (fuel:Nat):Nat→CallE
 | 0,_,_,_,_=>none
 | d+1,f,args,w,O=>match P.funcs[f]? with
  | some fn=>match fn.body with
   | some c=>bif qE fn.ntmps c && Nat.ble args.size fn.ntmps then
    match evC P (ycg P fuel d) fn.ntmps fuel c (envOf 0 args.toList) w O with
    | some ((.ret,E),w',O',L)=>match resE fn.results.toList E with
     | some vs=>some (tup vs,w',O',L)
     | none=>none
    | some ((.normal,E),w',O',L)=>match resE fn.results.toList E with
     | some vs=>some (tup vs,w',O',L)
     | none=>none
    | _=>none
    else none
   | none=>none
  | none=>none
theorem lk_env:∀ (l:List Value) (i j:Nat),lk (envOf i l) j=if i≤j then l.getD (j - i) undef else undef
 | [],i,j=>by simp [envOf,lk]
 | v::r,i,j=>by
  simp only [envOf,lk]
  rw [lk_env r (i+1) j]
  by_cases e:j=i
  · subst e;simp
  · have hb:Nat.beq j i=false:=by
     cases hb:Nat.beq j i with
     | false=>rfl
     | true=>exact absurd (Nat.eq_of_beq_eq_true hb) e
    rw [hb]
    simp only [cond_false]
    by_cases h:i+1≤j
    · rw [if_pos h,if_pos Zo]
      obtain ⟨k,rfl⟩:∃ k,j=i+1+k:=⟨j - (i+1),by omega⟩
      rw [show i+1+k - (i+1)=k by omega,show i+1+k - i=k+1 by omega]
      simp
    · rw [if_neg h,if_neg Zo]
theorem ydi {args:Array Value} {sz:Nat} (h:args.size≤sz):RepE sz (envOf 0 args.toList) { tmps:=args++Array.replicate (sz - args.size) undef,defers:=[] }:=by
 refine ⟨by simp;omega,fun j=>?_⟩
 rw [lk_env]
 show (args++Array.replicate (sz - args.size) undef).getD j undef=_
 simp only [Nat.zero_le,if_true,Nat.sub_zero,Array.getD_eq_getD_getElem?,List.getD_eq_getElem?_getD,Array.getElem?_toList]
 by_cases hj:j<args.size
 · rw [Array.getElem?_append_left hj]
 · rw [Array.getElem?_append_right Zo]
   have:args[j]?=none:=by simp;omega
   rw [this]
   by_cases hk:j - args.size<sz - args.size
   · simp [hk]
   · simp [hk]
theorem resE_vals {P:Program} {a:Act} {sz:Nat} {E:Env} {w:World} (hr:RepE sz E a):∀ (rs:List ResultVar) (vs:List Value),resE rs E=some vs→Vals P a.tmps w rs vs
 | [],vs,h=>by simp only [resE,Option.some.injEq] at h;subst h;exact .nil
 | .tmp u::rs,vs,h=>by
  simp only [resE] at h
  cases h1:resE rs E with
  | none=>rw [h1] at h;cases h
  | some vs1=>
   rw [h1] at h
   simp only [Option.some.injEq] at h
   subst h
   have:=hr.at_ u
   rw [← this]
   exact .tmp (resE_vals hr rs vs1 h1)
 | .cell p t::rs,vs,h=>by simp [resE] at h
theorem tup_run {P:Program} {fn:Func} {a:Act} {sz:Nat} {E:Env} {w:World} (hr:RepE sz E a) {vs:List Value} (h:resE fn.results.toList E=some vs):(results fn a.tmps).run P w=.ok (tup vs) w:=by
 have hv:=resE_vals (P:=P) (w:=w) hr _ _ h
 match vs,hv with
 | [v],hv=>
  have h1:fn.results.toList.length=1:=by
   generalize fn.results.toList=rs at hv
   cases hv with
   | tmp h=>cases h;rfl
   | cell _ _ _ _ _ _ _ _ _ _ h=>cases h;rfl
  obtain ⟨r,hr1⟩:=List.length_eq_one_iff.1 h1
  rw [hr1] at hv
  exact ydv (by rw [← Array.toArray_toList (xs:=fn.results),hr1]) hv
 | [],hv=>exact J0 (rs:=fn.results.toList) (by simp) (by simp) hv
 | v::u::r,hv=>exact J0 (rs:=fn.results.toList) (by simp) (by simp) hv
theorem ych {P:Program} {fuel:Nat}:∀ (d:Nat),CallOk P (ycg P fuel d)
 | 0,f,args,w,O,v,w',O',L,h,hL=>by simp [ycg] at h
 | d+1,f,args,w,O,v,w',O',L,h,hL=>by
  simp only [ycg] at h
  cases hf:P.funcs[f]? with
  | none=>rw [hf] at h;cases h
  | some fn=>
   rw [hf] at h
   simp only at h
   cases hb:fn.body with
   | none=>rw [hb] at h;cases h
   | some c=>
    rw [hb] at h
    simp only at h
    cases hs:qE fn.ntmps c && Nat.ble args.size fn.ntmps with
    | false=>rw [hs] at h;cases h
    | true=>
     rw [hs] at h
     simp only [cond_true] at h
     rw [Bool.and_eq_true] at hs
     refine calls_of_wp hf hb ?_
     cases hx:evC P (ycg P fuel d) fn.ntmps fuel c (envOf 0 args.toList) w O with
     | none=>rw [hx] at h;cases h
     | some p=>
      obtain ⟨⟨e,E⟩,w1,O1,L1⟩:=p
      rw [hx] at h
      cases e with
      | ret=>
       simp only at h
       cases hv:resE fn.results.toList E with
       | none=>rw [hv] at h;cases h
       | some vs=>
        rw [hv] at h
        simp only [Option.some.injEq,Prod.mk.injEq] at h
        obtain ⟨rfl,rfl,rfl,rfl⟩:=h
        exact evC_ok (ych d) fuel c _ w O _ E w1 O1 L1 hs.1 hx hL _ (ydi (Nat.le_of_ble_eq_true hs.2)) _ (fun a' hr hd=>bodyPost_ret (tup_run hr hv) hd ⟨rfl,rfl⟩)
      | normal=>
       simp only at h
       cases hv:resE fn.results.toList E with
       | none=>rw [hv] at h;cases h
       | some vs=>
        rw [hv] at h
        simp only [Option.some.injEq,Prod.mk.injEq] at h
        obtain ⟨rfl,rfl,rfl,rfl⟩:=h
        exact evC_ok (ych d) fuel c _ w O _ E w1 O1 L1 hs.1 hx hL _ (ydi (Nat.le_of_ble_eq_true hs.2)) _ (fun a' hr hd=>⟨hd,_,tup_run hr hv,⟨rfl,rfl⟩⟩)
      | _=>cases h
theorem ydl {P:Program} {f:FuncId} {args:Array Value} {w:World} {v:Value} (fuel d:Nat) (O:List Value) (L:Log) (h:ycg P fuel d f args w O=some (v,w,[],L)) (hL:yae P L):Calls P f args w fun e w'=>e=.returned v∧w'=w:=ych d f args w O v w [] L h hL
end Go.Proofs.YtdcaggoicdfehaaGreatDoor
namespace Go.Proofs.YtdcaggoicdfehaaGreatDoor
set_option maxRecDepth 100000
structure QG (w:World) (tb:Addr) (c:Nat):Prop where
 opt:(Instr.loadAt 4 (.pointer (some ⟨6,0,none⟩))).run Tryz.prog w=.ok (.bool true) w
 info:(Instr.loadAt 307 (.pointer (some ⟨7,0,none⟩))).run Tryz.prog w=.ok (.int .u64 52) w
 pow:(Instr.loadAt 290 (.pointer (some ⟨10,0,none⟩))).run Tryz.prog w=.ok (.slice (some tb) 23 c) w
 p1:(Instr.loadAt 31 (.pointer (some ⟨tb.block,tb.off+1,none⟩))).run Tryz.prog w=.ok (.float .f64 4621819117588971520) w
 p2:(Instr.loadAt 31 (.pointer (some ⟨tb.block,tb.off+2,none⟩))).run Tryz.prog w=.ok (.float .f64 4636737291354636288) w
theorem parseFloat_5 (w:World) (tb:Addr) (c:Nat) (h:QG w tb c):Calls Tryz.prog 138 #[.string ⟨#[48,46,53]⟩,.int .i64 64] w fun e w'=>e=.returned (.tuple #[.float .f64 4602678819172646912,.nilIface])∧w'=w:=
 ydl 200 7 [.bool true,.int .u64 52,.slice (some tb) 23 c,.float .f64 4621819117588971520] [(4,.pointer (some ⟨6,0,none⟩),.bool true,w),(307,.pointer (some ⟨7,0,none⟩),.int .u64 52,w),(290,.pointer (some ⟨10,0,none⟩),.slice (some tb) 23 c,w),(31,.pointer (some ⟨tb.block,tb.off+1,none⟩),.float .f64 4621819117588971520,w)] Zk
  (fun x hx=>by
   simp only [List.mem_cons,List.not_mem_nil,or_false] at hx
   rcases hx with rfl|rfl|rfl|rfl
   · exact h.opt
   · exact h.info
   · exact h.pow
   · exact h.p1)
theorem ydL (w:World) (tb:Addr) (c:Nat) (h:QG w tb c):Calls Tryz.prog 138 #[.string ⟨#[48,46,50,53]⟩,.int .i64 64] w fun e w'=>e=.returned (.tuple #[.float .f64 4598175219545276416,.nilIface])∧w'=w:=
 ydl 200 7 [.bool true,.int .u64 52,.slice (some tb) 23 c,.float .f64 4636737291354636288] [(4,.pointer (some ⟨6,0,none⟩),.bool true,w),(307,.pointer (some ⟨7,0,none⟩),.int .u64 52,w),(290,.pointer (some ⟨10,0,none⟩),.slice (some tb) 23 c,w),(31,.pointer (some ⟨tb.block,tb.off+2,none⟩),.float .f64 4636737291354636288,w)] Zk
  (fun x hx=>by
   simp only [List.mem_cons,List.not_mem_nil,or_false] at hx
   rcases hx with rfl|rfl|rfl|rfl
   · exact h.opt
   · exact h.info
   · exact h.pow
   · exact h.p2)
theorem ydG (w:World) (tb:Addr) (c:Nat) (h:QG w tb c):Calls Tryz.prog 138 #[.string ⟨#[48,46,55,53]⟩,.int .i64 64] w fun e w'=>e=.returned (.tuple #[.float .f64 4604930618986332160,.nilIface])∧w'=w:=
 ydl 200 7 [.bool true,.int .u64 52,.slice (some tb) 23 c,.float .f64 4636737291354636288] [(4,.pointer (some ⟨6,0,none⟩),.bool true,w),(307,.pointer (some ⟨7,0,none⟩),.int .u64 52,w),(290,.pointer (some ⟨10,0,none⟩),.slice (some tb) 23 c,w),(31,.pointer (some ⟨tb.block,tb.off+2,none⟩),.float .f64 4636737291354636288,w)] Zk
  (fun x hx=>by
   simp only [List.mem_cons,List.not_mem_nil,or_false] at hx
   rcases hx with rfl|rfl|rfl|rfl
   · exact h.opt
   · exact h.info
   · exact h.pow
   · exact h.p2)
end Go.Proofs.YtdcaggoicdfehaaGreatDoor
namespace Go.Proofs.YtdcaggoicdfehaaGreatDoor
open Go.RowKit Go.Proofs.YtdcaggoicdfehaaGreatDoorW.PrintWords Go.Proofs.YtdcaggoicdfehaaGreatDoorW.PrintLast Go.Proofs.YtdcaggoicdfehaaGreatDoorW.PrintMore
theorem yco {P:Program} {id k n:Nat} {ops:Array Oper} {B E L:List Nat} {Y:Nat→Value} {Q:Exit→Act→World→Prop} {a:Act} {w:World} (J:Nat→Act→World→Prop) (F:Act→World→Prop) (hmix:P.follows .mixedOrders=true) (hn:ops.size=n) (hW:JP (Ju .any ops).2 B=true) (hO:qv (Ju .any ops).2 (List.range n)=true)
 (hEL:((List.range n).all fun i=>E.contains i || L.contains i)=true) (hE:(E.all fun i=>decide (i<n) && !L.contains i && ((List.range n).all fun j=>!(B.getD i 0).testBit j || E.contains j))=true)
 (hL:((List.range L.length).all fun p=>decide (L.getD p 0<n) && ((List.range p).all fun q=>(B.getD (L.getD p 0) 0).testBit (L.getD q 0)))=true)
 (hlast:(E.all fun i=>(B.getD (L.getD (L.length - 1) 0) 0).testBit i)=true) (hpos:0<L.length)
 (hB:((List.range n).all fun d=>(B.getD d 0)<2 ^ d)=true)
 (hd:(E.all fun i=>match ops[i]? with|some o=>o.dst == some (k+i)|none=>false)=true)
 (hgd:∀ (i:Nat) (o:Oper),i ∈ E→ops[i]?=some o→o.guard=none∨∃ j bb,o.guard=some (j,bb)∧(B.getD i 0).testBit j=true∧Y j=.bool bb)
 (hF:∀ p a' w',p<L.length→J p a' w'→F a' w'∧∀ i,i ∈ E→k+i<a'.tmps.size)
 (hy:∀ (i:Nat) (o:Oper),i ∈ E→ops[i]?=some o→∀ a' W,(∀ j,(B.getD i 0).testBit j=true→a'.eval (.tmp (k+j))=Y j)→F a' W→(execOp a'.eval o).run P W=.ok (.value (Y i)) W)
 (hput:∀ p i a' w',p<L.length→i ∈ E→J p a' w'→J p (a'.put (some (k+i)) (Y i)) w')
 (hstep:∀ p,p<L.length→∃ o,ops[L.getD p 0]?=some o∧∀ a' w',J p a' w'→(∀ i,i ∈ E→(B.getD (L.getD p 0) 0).testBit i=true→a'.eval (.tmp (k+i))=Y i)→Region.wanted o (yielded ops a'.tmps)=true ∧
  ∀ K:Act→World→Prop,(∀ a2 w2,J (p+1) a2 w2→(∀ i,i ∈ E→a2.eval (.tmp (k+i))=a'.eval (.tmp (k+i)))→K a2 w2)→o.wp P a' w' K Q)
 (h0:J 0 a w.drew) (hend:∀ a' w',J L.length a' w'→(∀ i,i ∈ E→a'.eval (.tmp (k+i))=Y i)→Q .normal a' w') :
 (Code.region id ops true).wp P Q a w:=by
 have hE1:∀ i,i ∈ E→i<n∧i ∉ L∧∀ j,j<n→(B.getD i 0).testBit j=true→j ∈ E:=fun i hi=>by
  have h1:=List.all_eq_true.1 hE i hi
  simp only [Bool.and_eq_true,decide_eq_true_eq,Bool.not_eq_true',List.all_eq_true,List.mem_range,Bool.or_eq_true] at h1
  refine ⟨h1.1.1,?_,fun j hj hb=>?_⟩
  · intro hc;have:=h1.1.2;simp [hc] at this
  · rcases h1.2 j hj with h|h
    · rw [hb] at h;cases h
    · simpa using h
 have hL1:∀ p,p<L.length→L.getD p 0<n∧∀ q,q<p→(B.getD (L.getD p 0) 0).testBit (L.getD q 0)=true:=fun p hp=>by
  have h1:=List.all_eq_true.1 hL p (List.mem_range.2 hp)
  simp only [Bool.and_eq_true,decide_eq_true_eq,List.all_eq_true,List.mem_range] at h1
  exact h1
 have hbd:∀ i j,i<n→(B.getD i 0).testBit j=true→j<i:=fun i j hi hj=>by
  have h1:=List.all_eq_true.1 hB i (List.mem_range.2 hi)
  simp only [decide_eq_true_eq] at h1
  by_cases hji:j<i
  · exact hji
  · have:=Nat.testBit_lt_two_pow (Nat.lt_of_lt_of_le h1 (Nat.pow_le_pow_right Zd (Nat.not_lt.1 hji)))
    rw [this] at hj;cases hj
 have hbits:∀ i,i ∈ E→∀ j,(B.getD i 0).testBit j=true→j<n:=fun i hi j hj=>Nat.lt_trans (hbd i j (hE1 i hi).1 hj) (hE1 i hi).1
 have hself:∀ p,p<L.length→¬ (B.getD (L.getD p 0) 0).testBit (L.getD p 0)=true:=fun p hp h=>Nat.lt_irrefl _ (hbd _ _ (hL1 p hp).1 h)
 have hLm:∀ p,p<L.length→L.getD p 0 ∈ L:=fun p hp=>by
  rw [List.getD_eq_getElem?_getD,List.getElem?_eq_getElem hp];exact List.getElem_mem hp
 have hlast1:∀ i,i ∈ E→(B.getD (L.getD (L.length - 1) 0) 0).testBit i=true:=fun i hi=>List.all_eq_true.1 hlast i hi
 have hdd:∀ i,i ∈ E→∃ o,ops[i]?=some o∧o.dst=some (k+i):=fun i hi=>by
  have:=List.all_eq_true.1 hd i hi
  cases ho:ops[i]? with
  | none=>rw [ho] at this;simp at this
  | some o=>rw [ho] at this;exact ⟨o,rfl,by simpa using this⟩
 refine Q8 (n:=n) (S:=fun _=>True) (ds:=[]) _ hmix hn rfl trivial (fun _=>?_)
 let I:(Nat→Bool)→Act→World→Prop:=fun b a' w'=>(∃ p,p≤L.length∧(∀ q,q<L.length→(b (L.getD q 0)=true↔q<p))∧J p a' w')∧∀ i,i ∈ E→b i=true→a'.eval (.tmp (k+i))=Y i
 refine inv_ (B:=B) (List.range n) I rfl hW hO ?_ ?_ ?_ ?_
 · have:(Ju Region.Mode.any ops).2.length=n:=by simp [Ju,hn]
   rw [this]
   have e1:lof n (List.range n) (fun _=>false)=(Array.replicate n false).toList:=by
    apply List.ext_getElem?
    intro i
    by_cases hi:i<n
    · simp [lof,hi]
    · simp [lof,hi]
   rw [e1]
   simp
 · exact ⟨⟨0,Nat.zero_le _,fun q _=>by simp,h0⟩,fun i _ hb=>by cases hb⟩
 · intro i hi b a' w' hI hb hpre hpost
   have hin:i<n:=List.mem_range.1 hi
   have hpre':∀ j,j<n→(B.getD i 0).testBit j=true→b j=true:=fun j hj hbit=>hpre j (by
    rw [Bool.and_eq_true]
    exact ⟨by simpa using hj,hbit⟩)
   obtain ⟨⟨p,hp,hiff,hJ⟩,hearly⟩:=hI
   have hor:i ∈ E∨i ∈ L:=by
    have:=List.all_eq_true.1 hEL i hi
    simpa using this
   by_cases hiE:i ∈ E
   · have hplt:p<L.length:=by
      have hl1:=hL1 (L.length - 1) Zo
      have hbl:=hpost (L.getD (L.length - 1) 0) (by
       rw [Bool.and_eq_true]
       exact ⟨by simpa using hl1.1,hlast1 i hiE⟩)
      have:=hiff (L.length - 1) Zo
      rw [hbl] at this
      have h2:¬ (L.length - 1<p):=fun h=>by have:=this.2 h;cases this
      omega
     obtain ⟨hFa,hsz⟩:=hF p a' w' hplt hJ
     obtain ⟨o,ho,hdst⟩:=hdd i hiE
     have hgot:∀ j,(B.getD i 0).testBit j=true→a'.eval (.tmp (k+j))=Y j:=fun j hj=>by
      have hjn:=hbits i hiE j hj
      exact hearly j ((hE1 i hiE).2.2 j hjn hj) (hpre' j hjn hj)
     refine ⟨o,ho,fun K hK=>?_⟩
     have hw:Region.wanted o (yielded ops a'.tmps)=true:=by
      rcases hgd i o hiE ho with hg|⟨j,bb,hg,hj,hyj⟩
      · simp [Region.wanted,hg]
      · have hjn:=hbits i hiE j hj
        obtain ⟨oj,hoj,hdj⟩:=hdd j ((hE1 i hiE).2.2 j hjn hj)
        exact Yc hg hoj hdj (hsz j ((hE1 i hiE).2.2 j hjn hj)) ((hgot j hj).trans hyj)
     rw [hdst]
     refine qq hw hdst (hy i o hiE ho a' w' hgot hFa) (hK.out _ _ ⟨⟨p,hp,fun q hq=>?_,hput p i a' w' hplt hiE hJ⟩,fun j hj hbj=>?_⟩)
     · have hne:L.getD q 0≠i:=fun e=>(hE1 i hiE).2.1 (by rw [← e];exact hLm q hq)
       rw [J6 hne]
       exact hiff q hq
     · by_cases e:j=i
       · subst e;exact ya _ (hsz j hj)
       · rw [J6 e] at hbj
         rw [yb _ Zo]
         exact hearly j hj hbj
   · have hiL:i ∈ L:=hor.resolve_left hiE
     obtain ⟨p',hp',hpe⟩:∃ p',p'<L.length∧L.getD p' 0=i:=by
      obtain ⟨p',hp',e⟩:=List.mem_iff_getElem.1 hiL
      exact ⟨p',hp',by rw [List.getD_eq_getElem?_getD,List.getElem?_eq_getElem hp'];exact e⟩
     subst hpe
     have h1:¬ p'<p:=fun h=>by
      have:=(hiff p' hp').2 h
      rw [hb] at this;cases this
     have h2:∀ q,q<p'→q<p:=fun q hq=>(hiff q Zo).1 (hpre' _ (hL1 q Zo).1 ((hL1 p' hp').2 q hq))
     have hpp:p'=p:=by
      by_cases h:p'=0
      · omega
      · have:=h2 (p' - 1) Zo;omega
     subst hpp
     obtain ⟨o,ho,hgo⟩:=hstep p' hp'
     obtain ⟨hw,hwp⟩:=hgo a' w' hJ (fun j hj hbj=>hearly j hj (hpre' j (hE1 j hj).1 hbj))
     refine ⟨o,ho,fun K hK=>?_⟩
     rw [if_pos hw]
     refine hwp K (fun a2 w2 hJ2 hkeep=>hK.out _ _ ⟨⟨p'+1,hp',fun q hq=>?_,hJ2⟩,fun j hj hbj=>?_⟩)
     · by_cases e:q=p'
       · subst e;simp [qg]
       · have hne:L.getD q 0≠L.getD p' 0:=fun h=>by
          by_cases hlt:q<p'
          · have h3:=(hiff q hq).2 (h2 q hlt)
            rw [h,hb] at h3;cases h3
          · have h3:=(hL1 q hq).2 p' Zo
            rw [h] at h3
            exact hself p' hp' h3
         rw [J6 hne,hiff q hq];omega
     · rw [hkeep j hj]
       refine hearly j hj ?_
       have:j≠L.getD p' 0:=fun e=>hiE (e ▸ hj)
       rwa [J6 this] at hbj
 · intro b a' w' hall hI
   obtain ⟨⟨p,hp,hiff,hJ⟩,hearly⟩:=hI
   have hpl:p=L.length:=by
    have:=(hiff (L.length - 1) Zo).1 (hall _ (by simpa using (hL1 (L.length - 1) Zo).1))
    omega
   subst hpl
   exact hend a' w' hJ (fun i hi=>hearly i hi (hall i (by simpa using (hE1 i hi).1)))
theorem ycG {P:Program} {o:Oper} {a:Act} {w:World} {K:Act→World→Prop} {Q:Exit→Act→World→Prop} {f:FuncId} {fn:Func} {ao:Array Operand} {ts:Array TypeId} (hf:P.funcs[f]?=some fn) (hname:(fn.name == "runtime.NumGoroutine")=false) (hb:fn.body.isSome=true) (args:Array Value)
 (hop:o.op=.call { callee:=.value (.func f),args:=ao,argTypes:=ts }) (hargs:ao.map a.eval=args) (h:Calls P f args w fun e w'=>∃ v,e=.returned v∧K (a.put o.dst v) w'):o.wp P a w K Q:=by
 have he:=ybe hf hname hb args w
 have hrun:(execOp a.eval o).run P w=.ok (.enter f args) w:=by
  unfold execOp
  simp [hop,resolve,Deferred.ofValue,invoke,Act.eval,hargs,he]
 unfold Oper.wp
 rw [hrun,Oper.upon_enter]
 refine h.mono fun e w'' hh=>?_
 obtain ⟨v,rfl,hk⟩:=hh
 exact hk
theorem qB {P:Program} {o:Oper} {a:Act} {w w1:World} {v:Value} {K:Act→World→Prop} {Q:Exit→Act→World→Prop} (hrun:(execOp a.eval o).run P w=.ok (.value v) w1) (h:K (a.put o.dst v) w1):o.wp P a w K Q:=by
 unfold Oper.wp
 rw [hrun]
 exact h
theorem JQ {ops:Array Oper} {o:Oper} {a:Act} (h:o.guard=none):Region.wanted o (yielded ops a.tmps)=true:=by simp [Region.wanted,h]
end Go.Proofs.YtdcaggoicdfehaaGreatDoor
