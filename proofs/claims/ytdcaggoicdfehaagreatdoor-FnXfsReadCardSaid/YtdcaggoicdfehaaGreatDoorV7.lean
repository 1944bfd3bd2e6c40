/- Part 7 of 44 of the proof of the tied card of FnXfsRead. -/
import Derived.Test.YtdcaggoicdfehaaGreatDoorVz
import Derived.Test.YtdcaggoicdfehaaGreatDoorV6
set_option linter.unusedVariables false
set_option linter.unusedSimpArgs false
namespace Go.Proofs.YtdcaggoicdfehaaGreatDoor
open Go.RowKit Go.Proofs.YtdcaggoicdfehaaGreatDoorW.PrintWords Go.Proofs.YtdcaggoicdfehaaGreatDoorW.PrintLast Go.Proofs.YtdcaggoicdfehaaGreatDoorW.PrintMore
theorem range_app {w:World} {b o:Nat} {xs ys:List Value} (h:w.rangeAt b o xs) (h':w.rangeAt b (o+xs.length) ys):w.rangeAt b o (xs++ys):=by
 intro j v hv
 by_cases hj:j<xs.length
 · rw [List.getElem?_append_left hj] at hv;exact h j v hv
 · rw [List.getElem?_append_right Zo] at hv
   have:=h' _ v hv
   rw [show o+xs.length+(j - xs.length)=o+j by omega] at this
   exact this
theorem range_left {w:World} {b o:Nat} {xs ys:List Value} (h:w.rangeAt b o (xs++ys)):w.rangeAt b o xs:=fun j v hv=>by
 refine h j v ?_
 rw [List.getElem?_append_left (List.getElem?_eq_some_iff.1 hv).1];exact hv
theorem Yc {ops:Array Oper} {o oj:Oper} {a:Act} {j d:Nat} {b:Bool} (hg:o.guard=some (j,b)) (hj:ops[j]?=some oj) (hd:oj.dst=some d) (hs:d<a.tmps.size) (hv:a.eval (.tmp d)=.bool b):Region.wanted o (yielded ops a.tmps)=true:=by
 have h1:a.tmps[d]?=some (.bool b):=by
  have:a.tmps.getD d undef=.bool b:=hv
  rw [Array.getD_eq_getD_getElem?] at this
  rw [Array.getElem?_eq_getElem hs] at this ⊢
  exact congrArg some this
 simp [Region.wanted,yielded,hg,hj,hd,h1]
theorem Jr {P:Program} {w:World} {ρ:Operand→Value} {d ty pos aft gd} {c x y:Operand} {b:Bool} (hc:ρ c=.bool b):(execOp ρ ⟨d,.pick c x y,ty,pos,aft,gd⟩).run P w=.ok (.value (if b then ρ x else ρ y)) w:=by
 simp [execOp,asBool,hc]
structure EarlyA (k m d:Nat) (Y:Nat→Value) (a a':Act) (b:Nat→Bool):Prop where
 size:a'.tmps.size=a.tmps.size
 defers:a'.defers=a.defers
 old:∀ j:Nat,j<k→j≠d→a'.eval (.tmp j)=a.eval (.tmp j)
 got:∀ j:Nat,j<m→b j=true→a'.eval (.tmp (k+j))=Y j
theorem early_alloc {P:Program} {id k m n d T:Nat} {ops:Array Oper} {B:List Nat} {Y:Nat→Value} {rest:Code} {Q:Exit→Act→World→Prop} {a:Act} {w:World} {zero:Array Value} {ty:TypeId} {pos:String} {aft:Array Edge}
 (hmix:P.follows .mixedOrders=true) (hn:ops.size=n) (hm:m+1<n) (hW:JP (Ju .any ops).2 B=true) (hO:qv (Ju .any ops).2 (List.range n)=true)
 (hB:((List.range n).all fun i=>(i<m+1 && (B.getD i 0)<2 ^ i) || (B.getD i 0) == 2 ^ i - 1)=true)
 (hds:((List.range m).all fun i=>match ops[i]? with|some o=>o.dst == some (k+i) && o.guard.isNone|none=>false)=true)
 (hal:ops[m]?=some ⟨some d,.alloc T,ty,pos,aft,none⟩) (hall:∀ W:World,(Instr.alloc T true (.tuple #[])).run P W=.ok (.pointer (some ⟨W.heap.size,0,none⟩)) (W.alloc (.cells zero T)))
 (hy:∀ (i:Nat) (o:Oper),i<m→ops[i]?=some o→∀ a':Act,(∀ j,(B.getD i 0).testBit j=true→a'.eval (.tmp (k+j))=Y j)→(∀ j:Nat,j<k→j≠d→a'.eval (.tmp j)=a.eval (.tmp j))→∀ W:World,(W.heap=w.heap∨W.heap=(w.alloc (.cells zero T)).heap)→(execOp a'.eval o).run P W=.ok (.value (Y i)) W)
 (hd:d<k) (hsz:k+m≤a.tmps.size)
 (h:∀ (a':Act) (W:World),W.heap=(w.alloc (.cells zero T)).heap→(∀ b,b≤w.heap.size→Below b w W)→a'.tmps.size=a.tmps.size→a'.defers=a.defers→(∀ j:Nat,j<k→j≠d→a'.eval (.tmp j)=a.eval (.tmp j))→a'.eval (.tmp d)=.pointer (some ⟨w.heap.size,0,none⟩)→(∀ j:Nat,j<m→a'.eval (.tmp (k+j))=Y j)→Runs P (fun a w=>rest.wp P Q a w) (ops.toList.drop (m+1)) a' W) :
 (Code.seq (.region id ops true) rest).wp P Q a w:=by
 have hBd:∀ i,i<n→(i<m+1∧(B.getD i 0)<2 ^ i)∨(B.getD i 0)=2 ^ i - 1:=fun i hd=>by
  have:=List.all_eq_true.1 hB i (List.mem_range.2 hd)
  simpa using this
 have hdd:∀ i,i<m→∃ o,ops[i]?=some o∧o.dst=some (k+i)∧o.guard=none:=fun i hi=>by
  have:=List.all_eq_true.1 hds i (List.mem_range.2 hi)
  cases ho:ops[i]? with
  | none=>rw [ho] at this;simp at this
  | some o=>rw [ho] at this;exact ⟨o,rfl,by simpa using this⟩
 have hbit:∀ i j,i<n→(B.getD i 0).testBit j=true→j<i:=fun d j hd hj=>by
  have h1:B.getD d 0<2 ^ d:=by
   have:=Nat.two_pow_pos d
   rcases hBd d hd with h|h <;> omega
  by_cases hjd:j<d
  · exact hjd
  · have:=Nat.testBit_lt_two_pow (Nat.lt_of_lt_of_le h1 (Nat.pow_le_pow_right Zd (Nat.not_lt.1 hjd)))
    rw [this] at hj;cases hj
 refine wp_seq ?_
 refine Q8 (n:=n) (S:=fun _=>True) (ds:=[]) _ hmix hn rfl trivial (fun _=>?_)
 let W1:World:=w.drew.alloc (.cells zero T)
 let I:(Nat→Bool)→Act→World→Prop:=fun b a' w'=>(((b m=false∧w'=w.drew)∨(b m=true∧w'=W1∧a'.eval (.tmp d)=.pointer (some ⟨w.heap.size,0,none⟩)))∧EarlyA k m d Y a a' b∧∀ j,m+1≤j→b j=false)∨(∃ t,0<t∧(∀ j,j<n→(b j=true↔j<m+1+t))∧Runs P (fun a w=>rest.wp P Q a w) (ops.toList.drop (m+1+t)) a' w')
 refine inv_ (B:=B) (List.range n) I rfl hW hO ?_ ?_ ?_ ?_
 · have:(Ju Region.Mode.any ops).2.length=n:=by simp [Ju,hn]
   rw [this]
   have e1:lof n (List.range n) (fun _=>false)=(Array.replicate n false).toList:=by
    apply List.ext_getElem?
    intro i
    by_cases hi:i<n
    · simp [lof,hi]
    · simp [lof,hi]
   rw [e1]
   simp
 · exact .inl ⟨.inl ⟨rfl,rfl⟩,⟨rfl,rfl,fun _ _ _=>rfl,fun _ _ hb=>by cases hb⟩,fun _ _=>rfl⟩
 · intro i hi b a' w' hI hb hpre hpost
   have hin:i<n:=List.mem_range.1 hi
   have hpre':∀ j,(B.getD i 0).testBit j=true→b j=true:=fun j hj=>hpre j (by
    rw [Bool.and_eq_true]
    refine ⟨?_,hj⟩
    have:=hbit i j hin hj
    simp;omega)
   have hlt:i<ops.size:=by rw [hn];exact hin
   by_cases him:i<m
   · rcases hI with ⟨hw,hE,hlate⟩|⟨t,ht,hcnt,_⟩
     · obtain ⟨o,ho,hdst,hg⟩:=hdd i him
       refine ⟨o,ho,fun K hK=>?_⟩
       have hwt:Region.wanted o (yielded ops a'.tmps)=true:=by simp [Region.wanted,hg]
       have hheap:w'.heap=w.heap∨w'.heap=(w.alloc (.cells zero T)).heap:=by
        rcases hw with ⟨_,rfl⟩|⟨_,rfl,_⟩
        · exact .inl rfl
        · exact .inr rfl
       rw [hdst]
       refine qq hwt hdst (hy i o him ho a' (fun j hj=>hE.got j (by have:=hbit i j hin hj;omega) (hpre' j hj)) hE.old _ hheap) (hK.out _ _ (.inl ⟨?_,?_,fun j hj=>?_⟩))
       · rw [J6 (show m≠i by omega)]
         rcases hw with h|⟨h1,h2,h3⟩
         · exact .inl h
         · exact .inr ⟨h1,h2,(yb _ Zo).trans h3⟩
       · refine ⟨by rw [size_put];exact hE.size,by rw [yq];exact hE.defers,fun j hj hjd=>(yb _ Zo).trans (hE.old j hj hjd),fun j hj hb'=>?_⟩
         by_cases e:j=i
         · subst e;exact ya _ (by rw [hE.size];omega)
         · rw [J6 e] at hb'
           exact (yb _ Zo).trans (hE.got j hj hb')
       · rw [J6 Zo];exact hlate j hj
     · have:=(hcnt i hin).2 Zo
       rw [hb] at this;cases this
   · by_cases hie:i=m
     · subst hie
       rcases hI with ⟨hw,hE,hlate⟩|⟨t,ht,hcnt,_⟩
       · refine ⟨_,hal,fun K hK=>?_⟩
         rcases hw with ⟨_,rfl⟩|⟨h1,_⟩
         · refine qq (by simp [Region.wanted]) rfl (Y9 (hall _)) (hK.out _ _ (.inl ⟨.inr ⟨qg _ _,rfl,ya _ (by rw [hE.size];omega)⟩,?_,fun j hj=>?_⟩))
           · refine ⟨by rw [size_put];exact hE.size,by rw [yq];exact hE.defers,fun j hj hjd=>(yb _ hjd).trans (hE.old j hj hjd),fun j hj hb'=>?_⟩
             rw [J6 Zo] at hb'
             exact (yb _ Zo).trans (hE.got j hj hb')
           · rw [J6 Zo];exact hlate j hj
         · rw [hb] at h1;cases h1
       · have:=(hcnt i hin).2 Zo
         rw [hb] at this;cases this
     · have hBi:B.getD i 0=2 ^ i - 1:=by
        rcases hBd i hin with h|h
        · omega
        · exact h
       have hprev:∀ j,j<i→b j=true:=fun j hj=>hpre' j (by rw [hBi,Nat.testBit_two_pow_sub_one];simpa using hj)
       have hrun:Runs P (fun a w=>rest.wp P Q a w) (ops.toList.drop i) a' w'∧(∀ j,j<n→(up b i j=true↔j<m+1+(i - (m+1)+1))):=by
        rcases hI with ⟨hw,hE,hlate⟩|⟨t,ht,hcnt,hr⟩
        · have e:i=m+1:=by
           by_cases e:i=m+1
           · exact e
           · have:=hprev (m+1) Zo
             rw [hlate _ (Nat.le_refl _)] at this;cases this
          subst e
          rcases hw with ⟨h1,_⟩|⟨_,rfl,hptr⟩
          · rw [hprev m Zo] at h1;cases h1
          refine ⟨h a' W1 rfl (fun b hb=>((Below.refl b w).drew).alloc hb _) hE.size hE.defers hE.old hptr (fun j hj=>hE.got j hj (hprev j Zo)),fun j hj=>?_⟩
          by_cases e:j=m+1
          · subst e;simp [qg]
          · rw [J6 e]
            by_cases hji:j<m+1
            · simp [hprev j hji];omega
            · simp [hlate j Zo];omega
        · have e:i=m+1+t:=by
           have h1:¬ i<m+1+t:=fun hlt=>by have:=(hcnt i hin).2 hlt;rw [hb] at this;cases this
           by_cases e:i=m+1+t
           · exact e
           · have:=(hcnt (m+1+t) Zo).1 (hprev _ Zo)
             omega
          subst e
          refine ⟨hr,fun j hj=>?_⟩
          by_cases e:j=m+1+t
          · subst e;simp [qg]
          · rw [J6 e,hcnt j hj];omega
       obtain ⟨hr,hup⟩:=hrun
       have hs:i<ops.toList.length:=by rw [Array.length_toList];exact hlt
       rw [List.drop_eq_getElem_cons hs] at hr
       have hoe:ops[i]?=some ops.toList[i]:=by simp [hlt]
       refine ⟨_,hoe,fun K hK=>?_⟩
       refine runs_step hr (fun a2 w2 h2=>hK.out _ _ (.inr ⟨i - (m+1)+1,by omega,hup,?_⟩))
       rw [show m+1+(i - (m+1)+1)=i+1 by omega]
       exact h2
 · intro b a' w' hall' hI
   rcases hI with ⟨_,_,hlate⟩|⟨t,ht,hcnt,hr⟩
   · have:=hall' (m+1) (by simp;omega)
     rw [hlate _ (Nat.le_refl _)] at this;cases this
   · have hge:n≤m+1+t:=by
      by_cases hge:n≤m+1+t
      · exact hge
      · have:=(hcnt (m+1+t) Zo).1 (hall' _ (by simp;omega))
        omega
     rw [List.drop_eq_nil_of_le (by rw [Array.length_toList,hn];exact hge)] at hr
     exact hr
def yaY (c n:Nat):List Nat:=(List.range n).map fun i=>if i=3 * c+1 then 0 else if i<3 * c then (if i % 3=0 then 0 else if i % 3=1 then 2 ^ (i - 1) else 2 ^ (i - 1)+2 ^ (i - 2)) else 2 ^ i - 1
theorem ycN {c n i:Nat} (h:i<n) (hi:i≠3 * c+1):(yaY c n).getD i 0=(ybR c n).getD i 0:=by
 simp [yaY,ybR,List.getD_eq_getElem?_getD,h,hi]
theorem readB2_at {c n:Nat} (h:3 * c+1<n):(yaY c n).getD (3 * c+1) 0=0:=by
 simp [yaY,List.getD_eq_getElem?_getD,h]
theorem readB2_ok (c:Nat):((List.range (3 * c+3)).all fun d=>(d<3 * c+1+1 && ((yaY c (3 * c+3)).getD d 0)<2 ^ d) || ((yaY c (3 * c+3)).getD d 0) == 2 ^ d - 1)=true:=by
 refine List.all_eq_true.2 fun d hd=>?_
 by_cases e:d=3 * c+1
 · subst e;rw [readB2_at Zo]
   have:=Nat.two_pow_pos (3 * c+1)
   simp;omega
 · have h0:=List.all_eq_true.1 (readB_ok c) d hd
   have hd:=List.mem_range.1 hd
   rw [ycN hd e]
   simp only [Bool.or_eq_true,Bool.and_eq_true,decide_eq_true_eq] at h0 ⊢
   rcases h0 with h|h
   · exact .inl ⟨by omega,h.2⟩
   · exact .inr h
structure RecS (w0:World) (T L g cap g0 g1:Nat) (K:IntKind) (x:Nat→Int) (cells:List Value) (n:Nat) (a:Act) (w:World):Prop where
 size:a.tmps.size=n
 defers:a.defers=[]
 e0:a.eval (.tmp 0)=.slice (some ⟨g,0,none⟩) L cap
 e2:a.eval (.tmp 2)=.pointer (some ⟨g0,0,none⟩)
 e4:a.eval (.tmp 4)=.int .i64 L
 e5:a.eval (.tmp 5)=.pointer (some ⟨g1,0,none⟩)
 ge0:w0.heap.size≤g0
 ge1:w0.heap.size≤g1
 ne:g0≠g1
 there0:w.there g0 0 L
 range:w.rangeAt g1 0 cells
 there1:w.there g1 0 L
 below:Below w0.heap.size w0 w
 nums:∀ j:Nat,j<L→w.cell? ⟨g,j,none⟩=some (.int K (x j))
theorem yaI {w:World} {T:Nat} {zero:Array Value}:(w.alloc (.cells zero T (0,0))).there w.heap.size 0 zero.size:=fun j hj=>by
 rw [Nat.zero_add,ye (Y2 w _),yg (Y2 w _)]
 simp [hj]
theorem ydj {w W:World} {b o n:Nat} (h:W.heap=w.heap) (ht:w.there b o n):W.there b o n:=fun j hj=>by
 have:=ht j hj
 rw [qX h]
 exact ⟨this.1,by simpa [World.frozen?,h] using this.2⟩
theorem there_alloc {w:World} {b o n:Nat} (ht:w.there b o n) (hb:b<w.heap.size) (obj:Obj):(w.alloc obj).there b o n:=fun j hj=>by
 have:=ht j hj
 simp only [World.cell?,World.frozen?] at this ⊢
 rw [Below.heap_alloc w _ b hb]
 exact this
theorem qC {w:World} {b o n:Nat} (ht:w.there b o n) (b' o':Nat) (vs:List Value):(w.setCells b' o' vs).there b o n:=fun j hj=>by
 refine ⟨World.isSome_setCells b' vs o' w _ (ht j hj).1,?_⟩
 rw [World.frozen?_setCells];exact (ht j hj).2
theorem ybG {w:World} {g j:Nat} {v:Value} (h:w.cell? ⟨g,j,none⟩=some v) (hg:g<w.heap.size) (o:Obj):(w.alloc o).cell? ⟨g,j,none⟩=some v:=by
 rw [← h];simp only [World.cell?];rw [Below.heap_alloc w _ g hg]
theorem ybs {w:World} {g j b o:Nat} {vs:List Value} (hne:g≠b):(w.setCells b o vs).cell? ⟨g,j,none⟩=w.cell? ⟨g,j,none⟩:=
 World.cell?_setCells_out b vs o w _ (fun e=>absurd e hne)
set_option maxRecDepth 100000 in
theorem ycW {i0 i1 i2 i4 c k n q q' T ST LT L:Nat} {K:IntKind} {ops:Array Oper} {X:Code} {rest:Code} {Q:Exit→Act→World→Prop} {a:Act} {w:World} {g cap:Nat} {x:Nat→Int} {zero cells:Array Value}
 {d0 d1 d2 d3 d4 d5 d6 d7 d8 e0 e1 e2 e3:TypeId} {p0 p1 p2 p3 p4 p5 p6 p7 p8 r0 r1 r2 r3:String} {a0 a1 a2 a3 a4 a5 a6 a7 a8 f0 f1 f2 f3:Array Edge}
 (hST:Tryz.prog.underlying ST=some (.slice (Tryz.prog.elem ST))) (h1:(Tryz.prog.info? (Tryz.prog.elem ST)).map (·.size)=some 1) (hLT:∀ W:World,(isAgg LT).run Tryz.prog W=.ok false W)
 (hi:(Tryz.prog.info? T).map (·.size)=some L) (hcL:c≤L)
 (hall:∀ W:World,(Instr.alloc T true (.tuple #[])).run Tryz.prog W=.ok (.pointer (some ⟨W.heap.size,0,none⟩)) (W.alloc (.cells zero T))) (hz:zero.size=L)
 (hcmp:∀ W:World,(do eqGuard .neq 3 (.tmp 8) (.const (.int .i64 q)) (.int .i64 L) (.int .i64 q);binOp .neq 3 (.int .i64 L) (.int .i64 q):Sem Value).run Tryz.prog W=.ok (.bool true) W)
 (hcmp':∀ W:World,(do eqGuard .neq 3 (.tmp 11) (.const (.int .i64 q')) (.int .i64 L) (.int .i64 q');binOp .neq 3 (.int .i64 L) (.int .i64 q'):Sem Value).run Tryz.prog W=.ok (.bool false) W)
 (hcells:cells.size=L) (hone:cells.all (·.oneCell')=true)
 (hbld:∀ (a':Act) (o:Oper),ops[3 * c]?=some o→(∀ j:Nat,j<c→a'.eval (.tmp (k+(3 * j+2)))=.int K (x j))→∀ W:World,(execOp a'.eval o).run Tryz.prog W=.ok (.value (.agg cells)) W)
 (hn:ops.size=3 * c+3) (hW:JP (Ju .any ops).2 (yaY c (3 * c+3))=true) (hO:qv (Ju .any ops).2 (List.range (3 * c+3))=true)
 (hds:((List.range (3 * c+1)).all fun i=>match ops[i]? with|some o=>o.dst == some (k+i) && o.guard.isNone|none=>false)=true)
 (hsh:(ops.toList.take (3 * c)).map (·.op)=(List.range (3 * c)).map (readOp k ST LT))
 (hal:ops[3 * c+1]?=some ⟨some 5,.alloc T,d7,p7,a7,none⟩) (htail:ops.toList.drop (3 * c+1+1)=[⟨none,.store T (.tmp 5) (.tmp (k+3 * c)),d8,p8,a8,none⟩])
 (hmix:Tryz.prog.follows .mixedOrders=true) (hk:13<k) (hsz:k+(3 * c+1)≤n) (hn0:a.tmps.size=n)
 (he:a.eval (.tmp 0)=.slice (some ⟨g,0,none⟩) L cap) (hdf:a.defers=[]) (hg:g<w.heap.size) (hx:∀ j:Nat,j<L→w.cell? ⟨g,j,none⟩=some (.int K (x j)))
 (hR:∀ a' w' g0 g1,RecS w T L g cap g0 g1 K x cells.toList n a' w'→rest.wp Tryz.prog Q a' w') :
 (Code.seq (.region i0 #[⟨some 2,.alloc T,d0,p0,a0,none⟩,⟨some 3,.assign (.const .nilIface),d1,p1,a1,none⟩] false)
  (Code.seq (.region i1 #[⟨some 6,.move (.tmp 0),d2,p2,a2,none⟩,⟨some 7,.call { callee:=.builtin .len,args:=#[.tmp 6],argTypes:=#[ST] },d3,p3,a3,none⟩,⟨some 4,.assign (.tmp 7),d4,p4,a4,none⟩] false)
   (Code.seq (Code.seq (.region i2 #[⟨some 8,.move (.tmp 4),d5,p5,a5,none⟩,⟨some 9,.binOp .neq 3 (.tmp 8) (.const (.int .i64 q)) 3,d6,p6,a6,none⟩,⟨some 10,.move (.tmp 9),e0,r0,f0,none⟩,
    ⟨some 11,.move (.tmp 4),e1,r1,f1,some (2,true)⟩,⟨some 12,.binOp .neq 3 (.tmp 11) (.const (.int .i64 q')) 3,e2,r2,f2,some (2,true)⟩,⟨some 13,.pick (.tmp 10) (.tmp 12) (.const (.bool false)),e3,r3,f3,none⟩] false) (Code.cond (.tmp 13) X .skip))
    (Code.seq (.region i4 ops true) rest)))).wp Tryz.prog Q a w:=by
 refine yB ?_
 refine yf rfl (Y9 (hall _)) ?_
 refine yf rfl run_assign ?_
 refine yG ?_
 simp only
 generalize hb:(Act.put _ _ _)=b
 have bs:b.tmps.size=n:=by rw [← hb];simp only [size_put];exact hn0
 have bd:b.defers=[]:=by rw [← hb];simp only [yq];exact hdf
 have b0:b.eval (.tmp 0)=.slice (some ⟨g,0,none⟩) L cap:=by rw [← hb,yb _ Zd,yb _ Zd];exact he
 have b2:b.eval (.tmp 2)=.pointer (some ⟨w.heap.size,0,none⟩):=by rw [← hb,yb _ Zd,ya _ Zo]
 clear hb
 refine yB ?_
 refine yf rfl run_move ?_
 refine yf rfl (JE hST (n:=L) (A:=some ⟨g,0,none⟩) (cap:=cap) ?_ _) ?_
 · rw [ya _ Zo];exact b0
 refine yf rfl run_assign ?_
 refine yG ?_
 simp only
 generalize hb1:(Act.put _ _ _)=b1
 have bs1:b1.tmps.size=n:=by rw [← hb1];simp only [size_put];exact bs
 have bd1:b1.defers=[]:=by rw [← hb1];simp only [yq];exact bd
 have b10:b1.eval (.tmp 0)=.slice (some ⟨g,0,none⟩) L cap:=by rw [← hb1,yb _ Zd,yb _ Zd,yb _ Zd];exact b0
 have b12:b1.eval (.tmp 2)=.pointer (some ⟨w.heap.size,0,none⟩):=by rw [← hb1,yb _ Zd,yb _ Zd,yb _ Zd];exact b2
 have b14:b1.eval (.tmp 4)=.int .i64 L:=by rw [← hb1,ya _ Zs,ya _ Zs]
 clear hb1
 refine wp_seq ?_
 refine wp_seq ?_
 refine wp_region_list ?_
 refine Kd.yh rfl run_move ?_
 refine Kd.yh rfl (Jg (u:=.int .i64 L) (v:=.int .i64 q) ?_ rfl (hcmp _)) ?_
 · rw [ya _ Zo];exact b14
 refine Kd.yh rfl run_move ?_
 refine Qc (Yc (d:=10) rfl rfl rfl Zs ?_) ?_
 · rw [ya _ Zs,ya _ Zs]
 refine Kd.yh rfl run_move ?_
 refine Qc (Yc (d:=10) rfl rfl rfl Zs ?_) ?_
 · rw [yb _ Zd,ya _ Zs,ya _ Zs]
 refine Kd.yh rfl (Jg (u:=.int .i64 L) (v:=.int .i64 q') ?_ rfl (hcmp' _)) ?_
 · rw [ya _ Zs,yb _ Zd,yb _ Zd,yb _ Zd];exact b14
 refine Kd.yh rfl (Jr (b:=true) ?_) ?_
 · rw [yb _ Zd,yb _ Zd,ya _ Zs,ya _ Zs]
 refine wpList_nil ?_
 refine wp_cond_false (?_:_=Value.bool false) ?_
 · rw [ya _ Zs,if_pos rfl,ya _ Zs]
 refine wp_skip ?_
 simp only [Exit.then]
 generalize hb2:(Act.put _ (some 13) _)=b2
 have bs2:b2.tmps.size=n:=by rw [← hb2];simp only [size_put];exact bs1
 have bd2:b2.defers=[]:=by rw [← hb2];simp only [yq];exact bd1
 have b20:b2.eval (.tmp 0)=.slice (some ⟨g,0,none⟩) L cap:=by
  rw [← hb2,yb _ Zd,yb _ Zd,yb _ Zd,yb _ Zd,yb _ Zd,yb _ Zd];exact b10
 have b22:b2.eval (.tmp 2)=.pointer (some ⟨w.heap.size,0,none⟩):=by
  rw [← hb2,yb _ Zd,yb _ Zd,yb _ Zd,yb _ Zd,yb _ Zd,yb _ Zd];exact b12
 have b24:b2.eval (.tmp 4)=.int .i64 L:=by
  rw [← hb2,yb _ Zd,yb _ Zd,yb _ Zd,yb _ Zd,yb _ Zd,yb _ Zd];exact b14
 clear hb2
 have hx1:∀ j:Nat,j<L→(w.alloc (.cells zero T (0,0))).cell? ⟨g,j,none⟩=some (.int K (x j)):=fun j hj=>ybG (hx j hj) hg _
 have hs1:(w.alloc (.cells zero T (0,0))).heap.size=w.heap.size+1:=by simp
 refine early_alloc (k:=k) (m:=3 * c+1) (n:=3 * c+3) (d:=5) (B:=yaY c (3 * c+3)) (Y:=ybu c L g cap K x (.agg cells)) hmix hn Zo hW hO (readB2_ok c) hds hal hall ?_ Zo Zo ?_
 · intro i o him ho a' hgot hold W hWh
   rw [ycN Zo Zo] at hgot
   have hx2:∀ j:Nat,j<c→W.cell? ⟨g,j,none⟩=some (.int K (x j)):=fun j hj=>by
    rcases hWh with h|h
    · exact (qX h _).trans (hx1 j Zo)
    · exact (qX h _).trans (ybG (hx1 j Zo) Zo _)
   have hold0:=hold 0 Zo Zd
   exact read_step (b:=a') hcL hST h1 hLT hbld hsh Zo (hold0.trans b20) hx2 i o him ho a' hgot (fun _ _=>rfl) W rfl
 · intro a' W hWh hWB hs hdd hold h5 hgot
   rw [htail]
   have hWs:W.heap.size=w.heap.size+2:=by rw [hWh];simp
   have hrec:=hgot (3 * c) Zo
   unfold ybu at hrec
   rw [if_neg Zo] at hrec
   have ht1:W.there (w.heap.size+1) 0 L:=by
    refine ydj hWh ?_
    rw [← hz,← hs1];exact yaI
   have ht0:W.there w.heap.size 0 L:=by
    refine ydj hWh (there_alloc ?_ Zo _)
    rw [← hz];exact yaI
   rw [hs1] at h5
   refine ql rfl rfl (run_store (p:=.pointer (some ⟨w.heap.size+1,0,none⟩)) (v:=.agg cells) h5 hrec (run_storeAt_mid _ (w.heap.size+1) 0 T cells (by rw [hcells];exact ht1) (by rw [hcells];exact hi) hone)) ?_
   refine yG ?_
   refine hR _ _ w.heap.size (w.heap.size+1) ⟨by rw [hs,bs2],by rw [hdd,bd2],?_,?_,?_,h5,Nat.le_refl _,by omega,by omega,qC ht0 _ _ _,?_,qC ht1 _ _ _,?_,?_⟩
   · rw [hold 0 Zo Zd];exact b20
   · rw [hold 2 Zo Zd];exact b22
   · rw [hold 4 Zo Zd];exact b24
   · exact World.rangeAt_setCells_same _ _ 0 cells.toList (by rw [Array.length_toList,hcells];exact ht1)
   · refine below_setCells Zo _ _ _ ?_
     exact ybN (ym (Below.refl _ _) _) (Nat.le_refl _) (hWB _ Zo)
   · intro j hj
     rw [ybs Zo]
     exact (qX hWh _).trans (ybG (hx1 j hj) Zo _)
theorem ycq {id T ST LT L g cap g0 g1 c n k:Nat} {K:IntKind} {x:Nat→Int} {cs:List Value} {v0:Value} {Q:Exit→Act→World→Prop} {w0 w:World} {a:Act}
 {d0 d1 d2 d3 d4:TypeId} {p0 p1 p2 p3 p4:String} {a0 a1 a2 a3 a4:Array Edge}
 (hST:Tryz.prog.underlying ST=some (.slice (Tryz.prog.elem ST))) (h1:(Tryz.prog.info? (Tryz.prog.elem ST)).map (·.size)=some 1) (hLT:∀ W:World,(isAgg LT).run Tryz.prog W=.ok false W) (hi:(Tryz.prog.info? LT).map (·.size)=some 1)
 (hfa:∀ (W:World) (g:Nat),(Instr.fieldAt T (.pointer (some ⟨g,0,none⟩)) c).run Tryz.prog W=.ok (.pointer (some ⟨g,c,none⟩)) W)
 (hst:∀ (W:World) (b:Nat) (y:Int),W.there b c 1→(Instr.storeAt LT (.pointer (some ⟨b,c,none⟩)) (.int K y)).run Tryz.prog W=.ok () (W.setCells b c [.int K y]))
 (hc:c<L) (hcs:cs.length=c) (hcL:c+1=L) (hk:5<k) (hks:k+3<n) (hS:RecS w0 T L g cap g0 g1 K x (cs++[v0]) n a w) (hg:g<w0.heap.size)
 (h:∀ a' w',RecS w0 T L g cap g0 g1 K x (cs++[.int K (x c)]) n a' w'→Q .normal a' w') :
 (Code.region id #[⟨some k,.move (.tmp 0),d0,p0,a0,none⟩,⟨some (k+1),.indexAddr ST (.tmp k) (.const (.int .i64 (c:Int))),d1,p1,a1,none⟩,⟨some (k+2),.load LT (.tmp (k+1)),d2,p2,a2,none⟩,
  ⟨some (k+3),.fieldAddr T (.tmp 5) c,d3,p3,a3,none⟩,⟨none,.store LT (.tmp (k+3)) (.tmp (k+2)),d4,p4,a4,none⟩] false).wp Tryz.prog Q a w:=by
 have hs:=hS.size
 refine wp_region_list (J5 ?_)
 refine yf rfl run_move ?_
 refine yf rfl (qa (u:=.slice (some ⟨g,0,none⟩) L cap) ?_ rfl (idx_of hST h1 hc _)) ?_
 · rw [ya _ Zo];exact hS.e0
 refine yf rfl (run_load (ya _ Zs) (qN (hLT _) (hS.nums c hc))) ?_
 refine yf rfl (yF (p:=.pointer (some ⟨g1,0,none⟩)) ?_ (hfa _ _)) ?_
 · rw [yb _ Zo,yb _ Zo,yb _ Zo];exact hS.e5
 have ht:w.there g1 c 1:=fun j hj=>by
  have:=hS.there1 (c+j) Zo
  rw [Nat.zero_add] at this
  exact this
 refine ql rfl rfl (run_store (ya _ Zs) (v:=.int K (x c)) ?_ (hst _ _ _ ht)) ?_
 · rw [yb _ Zo,ya _ Zs]
 refine yG ?_
 have hold:∀ j:Nat,j<k→∀ u0 u1 u2 u3:Value,((((a.put (some k) u0).put (some (k+1)) u1).put (some (k+2)) u2).put (some (k+3)) u3).eval (.tmp j)=a.eval (.tmp j):=fun j hj u0 u1 u2 u3=>by
  rw [yb _ Zo,yb _ Zo,yb _ Zo,yb _ Zo]
 have hne:=hS.ne
 refine h _ _ ⟨by simp only [size_put];exact hs,by simp only [yq];exact hS.defers,(hold 0 Zo _ _ _ _).trans hS.e0,(hold 2 Zo _ _ _ _).trans hS.e2,(hold 4 Zo _ _ _ _).trans hS.e4,(hold 5 Zo _ _ _ _).trans hS.e5,hS.ge0,hS.ge1,hne,qC hS.there0 _ _ _,?_,qC hS.there1 _ _ _,below_setCells hS.ge1 _ _ _ hS.below,?_⟩
 · refine range_app (World.rangeAt_setCells_apart (range_left hS.range) _ _ _ (.inr (.inl Zo))) ?_
   rw [Nat.zero_add,hcs]
   exact World.rangeAt_setCells_same _ _ _ _ ht
 · intro j hj
   rw [ybs (by have:=hS.ge1;omega)]
   exact hS.nums j hj
theorem set_field {id T ST LT L g cap g0 g1 c n k:Nat} {K:IntKind} {x:Nat→Int} {cs:List Value} {v0:Value} {rest:Code} {Q:Exit→Act→World→Prop} {w0 w:World} {a:Act}
 {d0 d1 d2 d3 d4:TypeId} {p0 p1 p2 p3 p4:String} {a0 a1 a2 a3 a4:Array Edge}
 (hST:Tryz.prog.underlying ST=some (.slice (Tryz.prog.elem ST))) (h1:(Tryz.prog.info? (Tryz.prog.elem ST)).map (·.size)=some 1) (hLT:∀ W:World,(isAgg LT).run Tryz.prog W=.ok false W) (hi:(Tryz.prog.info? LT).map (·.size)=some 1)
 (hfa:∀ (W:World) (g:Nat),(Instr.fieldAt T (.pointer (some ⟨g,0,none⟩)) c).run Tryz.prog W=.ok (.pointer (some ⟨g,c,none⟩)) W)
 (hst:∀ (W:World) (b:Nat) (y:Int),W.there b c 1→(Instr.storeAt LT (.pointer (some ⟨b,c,none⟩)) (.int K y)).run Tryz.prog W=.ok () (W.setCells b c [.int K y]))
 (hc:c<L) (hcs:cs.length=c) (hcL:c+1=L) (hk:5<k) (hks:k+3<n) (hS:RecS w0 T L g cap g0 g1 K x (cs++[v0]) n a w) (hg:g<w0.heap.size)
 (h:∀ a' w',RecS w0 T L g cap g0 g1 K x (cs++[.int K (x c)]) n a' w'→rest.wp Tryz.prog Q a' w') :
 (Code.seq (.region id #[⟨some k,.move (.tmp 0),d0,p0,a0,none⟩,⟨some (k+1),.indexAddr ST (.tmp k) (.const (.int .i64 (c:Int))),d1,p1,a1,none⟩,⟨some (k+2),.load LT (.tmp (k+1)),d2,p2,a2,none⟩,
  ⟨some (k+3),.fieldAddr T (.tmp 5) c,d3,p3,a3,none⟩,⟨none,.store LT (.tmp (k+3)) (.tmp (k+2)),d4,p4,a4,none⟩] false) rest).wp Tryz.prog Q a w:=
 wp_seq (ycq hST h1 hLT hi hfa hst hc hcs hcL hk hks hS hg h)
theorem ret_rec {id T L g cap g0 g1 n k:Nat} {K:IntKind} {x:Nat→Int} {cs:List Value} {fn:Func} {R:Ending→World→Prop} {w0 w:World} {a:Act} {D:TypeDesc} {d0 d1 d2:TypeId} {p0 p1 p2:String} {a0 a1 a2:Array Edge}
 (hT:Tryz.prog.underlying T=some D) (hD:D.isRow=true) (hi:(Tryz.prog.info? T).map (·.size)=some L) (hcs:cs.length=L) (hone:cs.toArray.all (·.oneCell')=true) (hres:fn.results=#[.cell 2 T,.tmp 3]) (hk:5<k) (hks:k<n)
 (hS:RecS w0 T L g cap g0 g1 K x cs n a w) (hR:∀ w',Below w0.heap.size w0 w'→R (.returned (.tuple #[.agg cs.toArray,.nilIface])) w') :
 (Code.seq (.region id #[⟨some k,.load T (.tmp 5),d0,p0,a0,none⟩,⟨none,.store T (.tmp 2) (.tmp k),d1,p1,a1,none⟩,⟨some 3,.assign (.const .nilIface),d2,p2,a2,none⟩] false) .ret).wp Tryz.prog (bodyPost Tryz.prog fn R) a w:=by
 have hs:=hS.size
 refine yB ?_
 refine yf rfl (run_load hS.e5 (run_loadAt_mid w g1 0 T cs D hS.range hT hD (by rw [hcs];exact hi))) ?_
 refine ql rfl rfl (run_store (p:=.pointer (some ⟨g0,0,none⟩)) (v:=.agg cs.toArray) ?_ (ya _ Zo) (run_storeAt_mid _ g0 0 T cs.toArray (by simpa [hcs] using hS.there0) (by simpa [hcs] using hi) hone)) ?_
 · rw [yb _ Zo];exact hS.e2
 refine yf rfl run_assign ?_
 refine yG ?_
 refine wp_ret ?_
 have hr:(w.setCells g0 0 cs).rangeAt g0 0 cs:=World.rangeAt_setCells_same _ _ _ _ (by rw [hcs];exact hS.there0)
 refine bodyPost_ret (ycv (cs:=cs) (v:=.nilIface) hres ?_ ?_ (by simpa using hr) hT hD (by rw [hcs];exact hi)) ?_ ?_
 · rw [yb _ Zd,yb _ Zo];exact hS.e2
 · rw [ya _ Zs];rfl
 · simp only [yq];exact hS.defers
 · exact hR _ (by simpa using below_setCells hS.ge0 cs 0 _ hS.below)
end Go.Proofs.YtdcaggoicdfehaaGreatDoor
namespace Go.Proofs.YtdcaggoicdfehaaGreatDoor
open Go.RowKit Go.Proofs.YtdcaggoicdfehaaGreatDoorW.PrintWords Go.Proofs.YtdcaggoicdfehaaGreatDoorW.PrintLast Go.Proofs.YtdcaggoicdfehaaGreatDoorW.PrintMore
section
variable {a:Act} {d:Option Tmp} {ty:TypeId} {pos:String} {aft:Array Edge} {gd:Option (Nat × Bool)} {w w1:World} {x y:Operand}
theorem Q4 {i n:Int} (hx:a.eval x=.int .i64 i) (hy:a.eval y=.int .i64 n):(execOp a.eval ⟨d,.binOp .lss 3 x y 3,ty,pos,aft,gd⟩).run Tryz.prog w=.ok (.value (.bool (decide (i<n)))) w:=
 Jg hx hy Zk
theorem ya9 {i n:Int} (hx:a.eval x=.int .i64 i) (hy:a.eval y=.int .i64 n):(execOp a.eval ⟨d,.binOp .add 3 x y 3,ty,pos,aft,gd⟩).run Tryz.prog w=.ok (.value (.int .i64 (IntKind.i64.wrap (i+n)))) w:=
 Jg hx hy Zk
theorem qU {T:TypeId} (hx:a.eval x=.nilIface) (hl:∀ W:World,(do eqGuard .neq T x (.const .nilIface) .nilIface .nilIface;binOp .neq T .nilIface .nilIface:Sem Value).run Tryz.prog W=.ok (.bool false) W) :
 (execOp a.eval ⟨d,.binOp .neq T x (.const .nilIface) T,ty,pos,aft,gd⟩).run Tryz.prog w=.ok (.value (.bool false)) w:=Jg hx rfl (hl _)
theorem run_litv {T:TypeId} {u v:Value} (hx:a.eval x=u) (hl:(Instr.buildSlice T 1 #[(0,u)]).run Tryz.prog w=.ok v w1):(execOp a.eval ⟨d,.buildSlice T 1 #[(0,x)],ty,pos,aft,gd⟩).run Tryz.prog w=.ok (.value v) w1:=by
 have:(execOp a.eval ⟨d,.buildSlice T 1 #[(0,x)],ty,pos,aft,gd⟩)=(do pure (Next.value (← Instr.buildSlice T 1 #[(0,a.eval x)])):Sem Next):=by simp [execOp]
 rw [this,hx];exact Jc hl
end
theorem qh (u v:Value) (w:World):(Instr.extract (.tuple #[u,v]) 0).run Tryz.prog w=.ok u w:=by kernel_rfl
theorem qi (u v:Value) (w:World):(Instr.extract (.tuple #[u,v]) 1).run Tryz.prog w=.ok v w:=by kernel_rfl
theorem wrap_i64 {i:Int} (h0 : -9223372036854775808≤i) (h:i<9223372036854775808):IntKind.i64.wrap i=i:=by
 simp [IntKind.wrap,IntKind.bits,IntKind.signed]
 omega
theorem wrap_u64 {i:Int} (h0:0≤i) (h:i<18446744073709551616):IntKind.u64.wrap i=i:=by
 simp [IntKind.wrap,IntKind.bits,IntKind.signed]
 omega
theorem wrap_u32 {i:Int} (h0:0≤i) (h:i<4294967296):IntKind.u32.wrap i=i:=by
 simp [IntKind.wrap,IntKind.bits,IntKind.signed]
 omega
theorem idx_off {ST:TypeId} (hu:Tryz.prog.underlying ST=some (.slice (Tryz.prog.elem ST))) (h1:(Tryz.prog.info? (Tryz.prog.elem ST)).map (·.size)=some 1) {g off c cap j:Nat} (hj:j<c) (W:World) :
 (Instr.indexAt ST (.slice (some ⟨g,off,none⟩) c cap) (.int .i64 j)).run Tryz.prog W=.ok (.pointer (some ⟨g,off+j,none⟩)) W:=by
 rw [run_indexAt_slice (h:=hu),if_pos ⟨by omega,by omega⟩]
 cases hq:Tryz.prog.info? (Tryz.prog.elem ST) with
 | none=>rw [hq] at h1;cases h1
 | some i=>
  rw [hq] at h1
  have h1:i.size=1:=by simpa using h1
  simp [sizeOf,typeInfo,hq,h1,Addr.add_mid]
theorem R_nums {w:World} {k:IntKind} {e base:Nat} {ok:Nat→Prop} {v:Value} {xs:List Int} (h:(Kd.int k).R e w base ok v xs) (hne:xs≠[]) :
 ∃ g c,v=.slice (some ⟨g,0,none⟩) xs.length c∧base≤g∧g<w.heap.size∧∀ j:Nat,j<xs.length→w.cell? ⟨g,j,none⟩=some (.int k (xs.getD j 0)):=by
 obtain ⟨_,inner,⟨_,hv⟩,hr⟩:=id h
 rcases hv with ⟨_,h0⟩|⟨g,c,cur,rfl,hb,hg,_⟩
 · exact absurd (List.length_eq_zero_iff.1 h0) hne
 · refine ⟨g,c,rfl,hb,Yy hg,fun j hj=>?_⟩
   have:=(Kd.R_cell (0:Int) h (j:Int) Zo Zo).1
   simpa [YJ] using this
theorem R_fresh {w:World} {k:IntKind} {e base:Nat} {v:Value} (h:w.ownsRow base e 1 v 0 []):(Kd.int k).R e w base (fun _=>True) v []:=⟨fun _ _=>trivial,[],h,YD.none _ _⟩
theorem nums_M (k:IntKind) (w:World) (base:Nat) (ok:Nat→Prop) (x:Int):(Kd.int k).M w base ok x [.int k x]:=rfl
theorem args_tcc {a:Act} {j:Nat} {v c1 c2:Value} (h:a.eval (.tmp j)=v):#[Operand.tmp j,.const c1,.const c2].map a.eval=#[v,c1,c2]:=by
 have e1:a.eval (.const c1)=c1:=rfl
 have e2:a.eval (.const c2)=c2:=rfl
 simp [h,e1,e2]
theorem JX {a:Act} {j:Nat} {v:Value} (h:a.eval (.tmp j)=v):#[Operand.tmp j].map a.eval=#[v]:=by simp [h]
end Go.Proofs.YtdcaggoicdfehaaGreatDoor
