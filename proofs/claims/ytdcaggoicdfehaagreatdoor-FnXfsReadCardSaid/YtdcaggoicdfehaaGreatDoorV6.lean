/- Part 6 of 44 of the proof of the tied card of FnXfsRead. -/
import Derived.Test.YtdcaggoicdfehaaGreatDoorVz
import Derived.Test.YtdcaggoicdfehaaGreatDoorV5
import Derived.Laws.ResultCell
import Derived.Lib.LazyBuf
set_option linter.unusedVariables false
set_option linter.unusedSimpArgs false
namespace Go.Proofs.YtdcaggoicdfehaaGreatDoor
open Go.RowKit Go.Proofs.YtdcaggoicdfehaaGreatDoorW.PrintWords Go.Proofs.YtdcaggoicdfehaaGreatDoorW.PrintLast Go.Proofs.YtdcaggoicdfehaaGreatDoorW.PrintMore
def Runs (P:Program) (K:Act→World→Prop):List Oper→Act→World→Prop
 | [],a,w=>K a w
 | o::r,a,w=>o.guard=none∧((∃ v w1,(execOp a.eval o).run P w=.ok (.value v) w1∧Runs P K r (a.put o.dst v) w1)∨(o.dst=none∧∃ w1,(execOp a.eval o).run P w=.ok .skip w1∧Runs P K r a w1))
section
variable {P:Program} {K:Act→World→Prop} {a:Act} {w w1:World} {o:Oper} {r:List Oper} {v:Value}
theorem yG (h:K a w):Runs P K [] a w:=h
theorem yf (hg:o.guard=none) (hrun:(execOp a.eval o).run P w=.ok (.value v) w1) (h:Runs P K r (a.put o.dst v) w1):Runs P K (o::r) a w:=⟨hg,.inl ⟨v,w1,hrun,h⟩⟩
theorem ql (hg:o.guard=none) (hd:o.dst=none) (hrun:(execOp a.eval o).run P w=.ok .skip w1) (h:Runs P K r a w1):Runs P K (o::r) a w:=⟨hg,.inr ⟨hd,w1,hrun,h⟩⟩
theorem J5 {ops:Array Oper} {Q:Exit→Act→World→Prop}:∀ {l:List Oper} {a:Act} {w:World},Runs P (fun a w=>Q .normal a w) l a w→wpList P ops Q l a w
 | [],_,_,h=>h
 | o::r,a,w,⟨hg,h⟩=>by
  rcases h with ⟨v,w1,hrun,h⟩|⟨hd,w1,hrun,h⟩
  · exact Kd.yh hg hrun (J5 h)
  · exact Jk hg hd hrun (J5 h)
theorem runs_step {ops:Array Oper} {Q:Exit→Act→World→Prop} {K':Act→World→Prop} (h:Runs P K (o::r) a w) (hk:∀ a' w',Runs P K r a' w'→K' a' w') :
 if Region.wanted o (yielded ops a.tmps)=true then Oper.wp P o a w K' Q else K' (a.put o.dst undef) w:=by
 obtain ⟨hg,h⟩:=h
 have hw:Region.wanted o (yielded ops a.tmps)=true:=by simp [Region.wanted,hg]
 rcases h with ⟨v,w1,hrun,h⟩|⟨hd,w1,hrun,h⟩
 · rw [if_pos hw]
   unfold Oper.wp
   rw [hrun]
   exact hk _ _ h
 · rw [hd];exact skip_ hw hd hrun (hk _ _ h)
end
theorem yB {P:Program} {id:Nat} {ops:Array Oper} {rest:Code} {Q:Exit→Act→World→Prop} {a:Act} {w:World}
 (h:Runs P (fun a w=>rest.wp P Q a w) ops.toList a w):(Code.seq (.region id ops false) rest).wp P Q a w:=
 wp_seq (wp_region_list (J5 h))
structure Early (k m:Nat) (Y:Nat→Value) (a a':Act) (b:Nat→Bool):Prop where
 size:a'.tmps.size=a.tmps.size
 defers:a'.defers=a.defers
 old:∀ j:Nat,j<k→a'.eval (.tmp j)=a.eval (.tmp j)
 got:∀ j:Nat,j<m→b j=true→a'.eval (.tmp (k+j))=Y j
theorem Early.put {k m:Nat} {Y:Nat→Value} {a a':Act} {b:Nat→Bool} (h:Early k m Y a a' b) {i:Nat} (hi:i<m) (hsz:k+m≤a.tmps.size):Early k m Y a (a'.put (some (k+i)) (Y i)) (up b i):=by
 refine ⟨by rw [size_put];exact h.size,by rw [yq];exact h.defers,fun j hj=>(yb _ Zo).trans (h.old j hj),fun j hj hb=>?_⟩
 by_cases e:j=i
 · subst e;exact ya _ (by rw [h.size];omega)
 · rw [J6 e] at hb
   exact (yb _ Zo).trans (h.got j hj hb)
theorem early_runs {P:Program} {id k m n:Nat} {fl:Bool} {ops:Array Oper} {B:List Nat} {Y:Nat→Value} {rest:Code} {Q:Exit→Act→World→Prop} {a:Act} {w:World}
 (hmix:P.follows .mixedOrders=true) (hn:ops.size=n) (hm:m<n) (hW:JP (Ju .any ops).2 B=true) (hO:qv (Ju .any ops).2 (List.range n)=true)
 (hB:((List.range n).all fun d=>(d<m && (B.getD d 0)<2 ^ d) || (B.getD d 0) == 2 ^ d - 1)=true)
 (hd:((List.range m).all fun i=>match ops[i]? with|some o=>o.dst == some (k+i) && o.guard.isNone|none=>false)=true)
 (hy:∀ (i:Nat) (o:Oper),i<m→ops[i]?=some o→∀ a':Act,(∀ j,(B.getD i 0).testBit j=true→a'.eval (.tmp (k+j))=Y j)→(∀ j:Nat,j<k→a'.eval (.tmp j)=a.eval (.tmp j))→∀ W:World,W.heap=w.heap→(execOp a'.eval o).run P W=.ok (.value (Y i)) W)
 (hsz:k+m≤a.tmps.size)
 (h:∀ (a':Act) (W:World),W.heap=w.heap→(∀ b,Below b w W)→a'.tmps.size=a.tmps.size→a'.defers=a.defers→(∀ j:Nat,j<k→a'.eval (.tmp j)=a.eval (.tmp j))→(∀ j:Nat,j<m→a'.eval (.tmp (k+j))=Y j)→Runs P (fun a w=>rest.wp P Q a w) (ops.toList.drop m) a' W) :
 (Code.seq (.region id ops fl) rest).wp P Q a w:=by
 have hBd:∀ d,d<n→(d<m∧(B.getD d 0)<2 ^ d)∨(B.getD d 0)=2 ^ d - 1:=fun d hd=>by
  have:=List.all_eq_true.1 hB d (List.mem_range.2 hd)
  simpa using this
 have hdd:∀ i,i<m→∃ o,ops[i]?=some o∧o.dst=some (k+i)∧o.guard=none:=fun i hi=>by
  have:=List.all_eq_true.1 hd i (List.mem_range.2 hi)
  cases ho:ops[i]? with
  | none=>rw [ho] at this;simp at this
  | some o=>rw [ho] at this;exact ⟨o,rfl,by simpa using this⟩
 have hbit:∀ d j,d<n→(B.getD d 0).testBit j=true→j<d:=fun d j hd hj=>by
  have h1:B.getD d 0<2 ^ d:=by
   have:=Nat.two_pow_pos d
   rcases hBd d hd with h|h <;> omega
  by_cases hjd:j<d
  · exact hjd
  · have:=Nat.testBit_lt_two_pow (Nat.lt_of_lt_of_le h1 (Nat.pow_le_pow_right Zd (Nat.not_lt.1 hjd)))
    rw [this] at hj;cases hj
 cases fl with
 | false=>
  refine yB ?_
  have key:∀ t,t≤m→∀ a',Early k m Y a a' (fun j=>decide (j<m - t))→Runs P (fun a w=>rest.wp P Q a w) (ops.toList.drop (m - t)) a' w:=by
   intro t
   induction t with
   | zero=>
    intro _ a' hE
    exact h a' w rfl (fun b=>Below.refl _ _) hE.size hE.defers hE.old (fun j hj=>hE.got j hj (by simpa using hj))
   | succ t ih=>
    intro ht a' hE
    obtain ⟨o,ho,hdst,hg⟩:=hdd (m - (t+1)) Zo
    have hs:m - (t+1)<ops.toList.length:=by rw [Array.length_toList,hn];omega
    rw [List.drop_eq_getElem_cons hs]
    have hoe:ops.toList[m - (t+1)]=o:=by
     have:ops.toList[m - (t+1)]?=some o:=by rw [Array.getElem?_toList];exact ho
     exact (List.getElem?_eq_some_iff.1 this).2
    rw [hoe]
    refine yf hg (hy _ o Zo ho a' (fun j hj=>?_) hE.old w rfl) ?_
    · have:=hbit _ j (show m - (t+1)<n by omega) hj
      exact hE.got j Zo (by simpa using this)
    · rw [hdst,show m - (t+1)+1=m - t by omega]
      refine ih Zo _ ?_
      have hp:=hE.put (i:=m - (t+1)) Zo hsz
      refine ⟨hp.size,hp.defers,hp.old,fun j hj hb=>?_⟩
      refine hp.got j hj ?_
      by_cases e:j=m - (t+1)
      · subst e;exact qg _ _
      · rw [J6 e]
        simp only [decide_eq_true_eq] at hb ⊢
        omega
  have h0:=key m (Nat.le_refl _) a ⟨rfl,rfl,fun _ _=>rfl,fun j hj hb=>by simp at hb⟩
  simpa using h0
 | true=>
  refine wp_seq ?_
  refine Q8 (n:=n) (S:=fun _=>True) (ds:=[]) _ hmix hn rfl trivial (fun _=>?_)
  let I:(Nat→Bool)→Act→World→Prop:=fun b a' w'=>(w'=w.drew∧Early k m Y a a' b∧∀ j,m≤j→b j=false)∨(∃ t,0<t∧(∀ j,j<n→(b j=true↔j<m+t))∧Runs P (fun a w=>rest.wp P Q a w) (ops.toList.drop (m+t)) a' w')
  refine inv_ (B:=B) (List.range n) I rfl hW hO ?_ ?_ ?_ ?_
  · have:(Ju Region.Mode.any ops).2.length=n:=by simp [Ju,hn]
    rw [this]
    have e1:lof n (List.range n) (fun _=>false)=(Array.replicate n false).toList:=by
     apply List.ext_getElem?
     intro i
     by_cases hi:i<n
     · simp [lof,hi]
     · simp [lof,hi]
    rw [e1]
    simp
  · exact .inl ⟨rfl,⟨rfl,rfl,fun _ _=>rfl,fun _ _ hb=>by cases hb⟩,fun _ _=>rfl⟩
  · intro i hi b a' w' hI hb hpre hpost
    have hin:i<n:=List.mem_range.1 hi
    have hpre':∀ j,(B.getD i 0).testBit j=true→b j=true:=fun j hj=>hpre j (by
     rw [Bool.and_eq_true]
     refine ⟨?_,hj⟩
     have:=hbit i j hin hj
     simp;omega)
    have hlt:i<ops.size:=by rw [hn];exact hin
    by_cases him:i<m
    · rcases hI with ⟨rfl,hE,hlate⟩|⟨t,ht,hall,_⟩
      · obtain ⟨o,ho,hdst,hg⟩:=hdd i him
        refine ⟨o,ho,fun K hK=>?_⟩
        have hw:Region.wanted o (yielded ops a'.tmps)=true:=by simp [Region.wanted,hg]
        rw [hdst]
        refine qq hw hdst (hy i o him ho a' (fun j hj=>?_) hE.old _ rfl) (hK.out _ _ (.inl ⟨rfl,hE.put him hsz,fun j hj=>?_⟩))
        · exact hE.got j (by have:=hbit i j hin hj;omega) (hpre' j hj)
        · rw [J6 Zo];exact hlate j hj
      · have:=(hall i hin).2 Zo
        rw [hb] at this;cases this
    · have hBi:B.getD i 0=2 ^ i - 1:=by
       rcases hBd i hin with h|h
       · exact absurd h.1 him
       · exact h
      have hprev:∀ j,j<i→b j=true:=fun j hj=>hpre' j (by rw [hBi,Nat.testBit_two_pow_sub_one];simpa using hj)
      have hrun:Runs P (fun a w=>rest.wp P Q a w) (ops.toList.drop i) a' w'∧(∀ j,j<n→(up b i j=true↔j<m+(i - m+1))):=by
       rcases hI with ⟨rfl,hE,hlate⟩|⟨t,ht,hall,hr⟩
       · have e:i=m:=by
          by_cases e:i=m
          · exact e
          · have:=hprev m Zo
            rw [hlate m (Nat.le_refl _)] at this;cases this
         subst e
         refine ⟨h a' w.drew rfl (fun b=>(Below.refl _ _).drew) hE.size hE.defers hE.old (fun j hj=>hE.got j hj (hprev j hj)),fun j hj=>?_⟩
         by_cases e:j=i
         · subst e;simp [qg]
         · rw [J6 e]
           by_cases hji:j<i
           · simp [hprev j hji];omega
           · simp [hlate j Zo];omega
       · have e:i=m+t:=by
          have h1:¬ i<m+t:=fun hlt=>by have:=(hall i hin).2 hlt;rw [hb] at this;cases this
          by_cases e:i=m+t
          · exact e
          · have:=(hall (m+t) Zo).1 (hprev _ Zo)
            omega
         subst e
         refine ⟨hr,fun j hj=>?_⟩
         by_cases e:j=m+t
         · subst e;simp [qg]
         · rw [J6 e,hall j hj];omega
      obtain ⟨hr,hup⟩:=hrun
      have hs:i<ops.toList.length:=by rw [Array.length_toList];exact hlt
      rw [List.drop_eq_getElem_cons hs] at hr
      have hoe:ops[i]?=some ops.toList[i]:=by simp [hlt]
      refine ⟨_,hoe,fun K hK=>?_⟩
      refine runs_step hr (fun a2 w2 h2=>hK.out _ _ (.inr ⟨i - m+1,by omega,hup,?_⟩))
      rw [show m+(i - m+1)=i+1 by omega]
      exact h2
  · intro b a' w' hall hI
    rcases hI with ⟨_,_,hlate⟩|⟨t,ht,hcnt,hr⟩
    · have:=hall m (by simp;omega)
      rw [hlate m (Nat.le_refl _)] at this;cases this
    · have hge:n≤m+t:=by
       by_cases hge:n≤m+t
       · exact hge
       · have:=(hcnt (m+t) Zo).1 (hall _ (by simp;omega))
         omega
      rw [List.drop_eq_nil_of_le (by rw [Array.length_toList,hn];exact hge)] at hr
      exact hr
end Go.Proofs.YtdcaggoicdfehaaGreatDoor
namespace Go.Proofs.YtdcaggoicdfehaaGreatDoor
open Go.RowKit Go.Proofs.YtdcaggoicdfehaaGreatDoorW.PrintWords Go.Proofs.YtdcaggoicdfehaaGreatDoorW.PrintLast Go.Proofs.YtdcaggoicdfehaaGreatDoorW.PrintMore
section
variable {P:Program} {ρ:Operand→Value} {d:Option Tmp} {ty:TypeId} {pos:String} {aft:Array Edge} {gd:Option (Nat × Bool)} {w w1:World}
theorem qa {ST:Nat} {x y:Operand} {u i v:Value} (hx:ρ x=u) (hy:ρ y=i) (hl:(Instr.indexAt ST u i).run P w=.ok v w):(execOp ρ ⟨d,.indexAddr ST x y,ty,pos,aft,gd⟩).run P w=.ok (.value v) w:=by
 subst hx hy;exact Jc hl
theorem YQ {T:Nat} {xs:Array (Nat × Operand)} {vs:Array (Nat × Value)} {v:Value} (hx:xs.map (fun p=>(p.1,ρ p.2))=vs) (hl:(Instr.build T vs).run P w=.ok v w):(execOp ρ ⟨d,.build T xs,ty,pos,aft,gd⟩).run P w=.ok (.value v) w:=by
 have:(execOp ρ ⟨d,.build T xs,ty,pos,aft,gd⟩)=(do pure (Next.value (← Instr.build T (xs.map fun p=>(p.1,ρ p.2)))):Sem Next):=by simp [execOp]
 rw [this,hx];exact Jc hl
theorem YI {x:Operand} {n:Nat} {u v:Value} (hx:ρ x=u) (hl:(Instr.extract u n).run P w=.ok v w):(execOp ρ ⟨d,.extract x n,ty,pos,aft,gd⟩).run P w=.ok (.value v) w:=by
 subst hx;exact Jc hl
theorem Jg {x y:Operand} {T T':Nat} {op:BinOp} {u v r:Value} (hx:ρ x=u) (hy:ρ y=v) (hl:(do eqGuard op T x y u v;binOp op T u v:Sem Value).run P w=.ok r w):(execOp ρ ⟨d,.binOp op T x y T',ty,pos,aft,gd⟩).run P w=.ok (.value r) w:=by
 subst hx hy;exact Jc hl
end
theorem JE {a:Act} {d:Option Tmp} {ty:TypeId} {pos:String} {aft:Array Edge} {gd:Option (Nat × Bool)} {x n cap:Nat} {ST:TypeId} {A:Option Addr} (hu:Tryz.prog.underlying ST=some (.slice (Tryz.prog.elem ST))) (hx:a.eval (.tmp x)=.slice A n cap) (W:World) :
 (execOp a.eval ⟨d,.call { callee:=.builtin .len,args:=#[.tmp x],argTypes:=#[ST] },ty,pos,aft,gd⟩).run Tryz.prog W=.ok (.value (.int .i64 n)) W:=by
 have hx':a.tmps[x]?.getD undef=.slice A n cap:=by simpa [Act.eval] using hx
 simp [execOp,go_sem,hx',run_len_slice (h:=hu),goInt]
theorem idx_of {ST:TypeId} (hu:Tryz.prog.underlying ST=some (.slice (Tryz.prog.elem ST))) (h1:(Tryz.prog.info? (Tryz.prog.elem ST)).map (·.size)=some 1) {g c cap j:Nat} (hj:j<c) (W:World) :
 (Instr.indexAt ST (.slice (some ⟨g,0,none⟩) c cap) (.int .i64 j)).run Tryz.prog W=.ok (.pointer (some ⟨g,j,none⟩)) W:=by
 rw [run_indexAt_slice (h:=hu),if_pos ⟨by omega,by omega⟩]
 cases hq:Tryz.prog.info? (Tryz.prog.elem ST) with
 | none=>rw [hq] at h1;cases h1
 | some i=>
  rw [hq] at h1
  have h1:i.size=1:=by simpa using h1
  simp [sizeOf,typeInfo,hq,h1,Addr.add]
  intro h;omega
theorem qN {T:TypeId} {v:Value} {W:World} {g j:Nat} (hT:(isAgg T).run Tryz.prog W=.ok false W) (hc:W.cell? ⟨g,j,none⟩=some v):(Instr.loadAt T (.pointer (some ⟨g,j,none⟩))).run Tryz.prog W=.ok v W:=by
 simp [Instr.loadAt,Instr.sureAddr,go_sem,hc,hT]
def readOp (k ST LT:Nat) (i:Nat):Op:=
 if i % 3=0 then .move (.tmp 0) else if i % 3=1 then .indexAddr ST (.tmp (k+(i - 1))) (.const (.int .i64 ((i / 3:Nat):Int))) else .load LT (.tmp (k+(i - 1)))
def ybR (c n:Nat):List Nat:=(List.range n).map fun i=>if i<3 * c then (if i % 3=0 then 0 else if i % 3=1 then 2 ^ (i - 1) else 2 ^ (i - 1)+2 ^ (i - 2)) else 2 ^ i - 1
theorem readB_get {c n i:Nat} (h:i<n):(ybR c n).getD i 0=if i<3 * c then (if i % 3=0 then 0 else if i % 3=1 then 2 ^ (i - 1) else 2 ^ (i - 1)+2 ^ (i - 2)) else 2 ^ i - 1:=by
 simp [ybR,List.getD_eq_getElem?_getD,h]
theorem readB_ok (c:Nat):((List.range (3 * c+3)).all fun d=>(d<3 * c+1 && ((ybR c (3 * c+3)).getD d 0)<2 ^ d) || ((ybR c (3 * c+3)).getD d 0) == 2 ^ d - 1)=true:=by
 refine List.all_eq_true.2 fun d hd=>?_
 have hd:=List.mem_range.1 hd
 rw [readB_get hd]
 by_cases h:d<3 * c
 · rw [if_pos h]
   by_cases h3:d % 3=0
   · have:=Nat.two_pow_pos d
     rw [if_pos h3]
     simp
     omega
   · rw [if_neg h3]
     have e1:2 ^ d=2 * 2 ^ (d - 1):=by rw [← Nat.pow_succ',Nat.succ_eq_add_one,Nat.sub_add_cancel Zo]
     by_cases h4:d % 3=1
     · rw [if_pos h4]
       have:=Nat.two_pow_pos (d - 1)
       simp
       omega
     · rw [if_neg h4]
       have:2 ^ (d - 2)<2 ^ (d - 1):=Nat.pow_lt_pow_right Zd Zo
       simp
       omega
 · rw [if_neg h];simp
def ybu (c L g cap:Nat) (K:IntKind) (x:Nat→Int) (rec:Value) (i:Nat):Value:=
 if i<3 * c then (if i % 3=0 then .slice (some ⟨g,0,none⟩) L cap else if i % 3=1 then .pointer (some ⟨g,i / 3,none⟩) else .int K (x (i / 3))) else rec
def recCells (c:Nat) (K:IntKind) (x:Nat→Int):Array Value:=((List.range c).map fun j=>.int K (x j)).toArray
theorem ycv {fn:Func} {p u:Tmp} {T:TypeId} {a:Act} {w:World} {g:Nat} {cs:List Value} {d:TypeDesc} {v:Value} (h:fn.results=#[.cell p T,.tmp u]) (hp:a.eval (.tmp p)=.pointer (some ⟨g,0,none⟩)) (hv:a.eval (.tmp u)=v)
 (hc:w.rangeAt g 0 cs) (hu:Tryz.prog.underlying T=some d) (hd:d.isRow=true) (hi:(Tryz.prog.info? T).map (·.size)=some cs.length):(results fn a.tmps).run Tryz.prog w=.ok (.tuple #[.agg cs.toArray,v]) w:=by
 have hp':a.tmps.getD p undef=.pointer (some ⟨g,0,none⟩):=hp
 have hv':a.tmps.getD u undef=v:=hv
 rw [results_cell_tmp h,hp',hv']
 simp [asAddr,run_loadVar_mid w g 0 T cs d hc hu hd hi]
theorem qX {w W:World} (h:W.heap=w.heap) (x:Addr):W.cell? x=w.cell? x:=by simp [World.cell?,h]
theorem read_step {c L k ST LT g cap:Nat} {K:IntKind} {x:Nat→Int} {cells:Array Value} {ops:Array Oper} {b:Act} {W0:World} (hcL:c≤L)
 (hST:Tryz.prog.underlying ST=some (.slice (Tryz.prog.elem ST))) (h1:(Tryz.prog.info? (Tryz.prog.elem ST)).map (·.size)=some 1) (hLT:∀ W:World,(isAgg LT).run Tryz.prog W=.ok false W)
 (hbld:∀ (a':Act) (o:Oper),ops[3 * c]?=some o→(∀ j:Nat,j<c→a'.eval (.tmp (k+(3 * j+2)))=.int K (x j))→∀ W:World,(execOp a'.eval o).run Tryz.prog W=.ok (.value (.agg cells)) W)
 (hsh:(ops.toList.take (3 * c)).map (·.op)=(List.range (3 * c)).map (readOp k ST LT)) (hk:8<k)
 (b10:b.eval (.tmp 0)=.slice (some ⟨g,0,none⟩) L cap) (hx1:∀ j:Nat,j<c→W0.cell? ⟨g,j,none⟩=some (.int K (x j)))
 (i:Nat) (o:Oper) (him:i<3 * c+1) (ho:ops[i]?=some o) (a':Act) (hgot:∀ j,((ybR c (3 * c+3)).getD i 0).testBit j=true→a'.eval (.tmp (k+j))=ybu c L g cap K x (.agg cells) j) (hold:∀ j:Nat,j<k→a'.eval (.tmp j)=b.eval (.tmp j)) (W:World) (hWh:W.heap=W0.heap) :
 (execOp a'.eval o).run Tryz.prog W=.ok (.value (ybu c L g cap K x (.agg cells) i)) W:=by
 have hlt:i<3 * c+3:=by omega
 rw [readB_get hlt] at hgot
 by_cases h:i<3 * c
 · rw [if_pos h] at hgot
   have hop:o.op=readOp k ST LT i:=by
    have e:=congrArg (·[i]?) hsh
    simp only [List.getElem?_map,List.getElem?_take,h,if_true,Array.getElem?_toList,ho,Option.map_some,List.getElem?_range h] at e
    exact Option.some.inj e
   have hi3:i / 3<c:=by omega
   obtain ⟨od,oo,oty,opos,oaft,ogd⟩:=o
   simp only at hop
   subst hop
   unfold readOp ybu
   rw [if_pos h]
   by_cases h0:i % 3=0
   · rw [if_pos h0,if_pos h0]
     rw [run_move,hold 0 Zo,b10]
   · rw [if_neg h0,if_neg h0]
     rw [if_neg h0] at hgot
     have hp:=hgot (i - 1) (by
      by_cases h4:i % 3=1
      · rw [if_pos h4];simp [Nat.testBit_two_pow]
      · rw [if_neg h4]
        have:2 ^ (i - 2)<2 ^ (i - 1):=Nat.pow_lt_pow_right Zd Zo
        rw [Nat.testBit_two_pow_add_eq,Nat.testBit_lt_two_pow this]
        rfl)
     unfold ybu at hp
     rw [if_pos (show i - 1<3 * c by omega)] at hp
     by_cases h2:i % 3=1
     · rw [if_pos h2,if_pos h2]
       rw [if_pos (show (i - 1) % 3=0 by omega)] at hp
       exact qa hp rfl (idx_of hST h1 (show i / 3<L by omega) _)
     · rw [if_neg h2,if_neg h2]
       rw [if_neg (show (i - 1) % 3≠0 by omega),if_pos (show (i - 1) % 3=1 by omega),show (i - 1) / 3=i / 3 by omega] at hp
       exact run_load hp (qN (hLT _) ((qX hWh _).trans (hx1 _ hi3)))
 · have e:i=3 * c:=by omega
   subst e
   rw [if_neg h] at hgot
   unfold ybu
   rw [if_neg h]
   refine hbld a' o ho (fun j hj=>?_) W
   have:=hgot (3 * j+2) (by rw [Nat.testBit_two_pow_sub_one];simp;omega)
   unfold ybu at this
   rw [if_pos Zo,if_neg Zo,if_neg Zo,show (3 * j+2) / 3=j by omega] at this
   exact this
theorem Yw {i0 i1 i2 i4 c k q T ST LT:Nat} {K:IntKind} {fl:Bool} {ops:Array Oper} {X:Code} {fn:Func} {R:Ending→World→Prop} {a:Act} {w:World} {g cap:Nat} {x:Nat→Int} {zero:Array Value} {bop:BinOp} {D:TypeDesc} {cells:Array Value}
 {d0 d1 d2 d3 d4 d5 d6 d7 d8:TypeId} {p0 p1 p2 p3 p4 p5 p6 p7 p8:String} {a0 a1 a2 a3 a4 a5 a6 a7 a8:Array Edge}
 (hST:Tryz.prog.underlying ST=some (.slice (Tryz.prog.elem ST))) (h1:(Tryz.prog.info? (Tryz.prog.elem ST)).map (·.size)=some 1) (hLT:∀ W:World,(isAgg LT).run Tryz.prog W=.ok false W)
 (hT:Tryz.prog.underlying T=some D) (hD:D.isRow=true) (hi:(Tryz.prog.info? T).map (·.size)=some c)
 (hall:∀ W:World,(Instr.alloc T true (.tuple #[])).run Tryz.prog W=.ok (.pointer (some ⟨W.heap.size,0,none⟩)) (W.alloc (.cells zero T))) (hz:zero.size=c)
 (hcmp:∀ W:World,(do eqGuard bop 3 (.tmp 7) (.const (.int .i64 q)) (.int .i64 c) (.int .i64 q);binOp bop 3 (.int .i64 c) (.int .i64 q):Sem Value).run Tryz.prog W=.ok (.bool false) W)
 (hcells:cells=recCells c K x)
 (hbld:∀ (a':Act) (o:Oper),ops[3 * c]?=some o→(∀ j:Nat,j<c→a'.eval (.tmp (k+(3 * j+2)))=.int K (x j))→∀ W:World,(execOp a'.eval o).run Tryz.prog W=.ok (.value (.agg cells)) W)
 (hn:ops.size=3 * c+3) (hW:JP (Ju .any ops).2 (ybR c (3 * c+3))=true) (hO:qv (Ju .any ops).2 (List.range (3 * c+3))=true)
 (hds:((List.range (3 * c+1)).all fun i=>match ops[i]? with|some o=>o.dst == some (k+i) && o.guard.isNone|none=>false)=true)
 (hsh:(ops.toList.take (3 * c)).map (·.op)=(List.range (3 * c)).map (readOp k ST LT))
 (htail:ops.toList.drop (3 * c+1)=[⟨none,.store T (.tmp 2) (.tmp (k+3 * c)),d7,p7,a7,none⟩,⟨some 3,.assign (.const .nilIface),d8,p8,a8,none⟩])
 (hmix:Tryz.prog.follows .mixedOrders=true) (hres:fn.results=#[.cell 2 T,.tmp 3]) (hk:8<k) (hsz:k+(3 * c+1)≤a.tmps.size)
 (he:a.eval (.tmp 0)=.slice (some ⟨g,0,none⟩) c cap) (hdf:a.defers=[]) (hg:g<w.heap.size) (hx:∀ j:Nat,j<c→w.cell? ⟨g,j,none⟩=some (.int K (x j)))
 (hR:∀ w',Below w.heap.size w w'→R (.returned (.tuple #[.agg cells,.nilIface])) w') :
 (Code.seq (.region i0 #[⟨some 2,.alloc T,d0,p0,a0,none⟩,⟨some 3,.assign (.const .nilIface),d1,p1,a1,none⟩] false)
  (Code.seq (Code.seq (.region i1 #[⟨some 5,.move (.tmp 0),d2,p2,a2,none⟩,⟨some 6,.call { callee:=.builtin .len,args:=#[.tmp 5],argTypes:=#[ST] },d3,p3,a3,none⟩,⟨some 4,.assign (.tmp 6),d4,p4,a4,none⟩] false)
   (Code.seq (.region i2 #[⟨some 7,.move (.tmp 4),d5,p5,a5,none⟩,⟨some 8,.binOp bop 3 (.tmp 7) (.const (.int .i64 q)) 3,d6,p6,a6,none⟩] false) (Code.cond (.tmp 8) X .skip)))
   (Code.seq (.region i4 ops fl) .ret))).wp Tryz.prog (bodyPost Tryz.prog fn R) a w:=by
 refine yB ?_
 refine yf rfl (Y9 (hall _)) ?_
 refine yf rfl run_assign ?_
 refine yG ?_
 have ee:(a.eval (.const .nilIface))=.nilIface:=rfl
 simp only
 generalize hb:(Act.put _ _ _)=b
 have bs:b.tmps.size=a.tmps.size:=by rw [← hb];simp only [size_put]
 have bd:b.defers=[]:=by rw [← hb];simp only [yq];exact hdf
 have b0:b.eval (.tmp 0)=.slice (some ⟨g,0,none⟩) c cap:=by rw [← hb,yb _ Zd,yb _ Zd];exact he
 have b2:b.eval (.tmp 2)=.pointer (some ⟨w.heap.size,0,none⟩):=by rw [← hb,yb _ Zd,ya _ Zo]
 clear hb
 refine wp_seq ?_
 refine yB ?_
 refine yf rfl run_move ?_
 refine yf rfl (JE hST (n:=c) (A:=some ⟨g,0,none⟩) (cap:=cap) ?_ _) ?_
 · rw [ya _ Zo];exact b0
 refine yf rfl run_assign ?_
 refine yG ?_
 refine yB ?_
 refine yf rfl run_move ?_
 refine yf rfl (Jg (u:=.int .i64 c) (v:=.int .i64 q) ?_ rfl (hcmp _)) ?_
 · rw [ya _ Zs,ya _ Zs,ya _ Zs]
 refine yG ?_
 refine wp_cond_false (ya _ Zs) ?_
 refine wp_skip ?_
 simp only
 generalize hb1:(Act.put _ (some 8) _)=b1
 have bs1:b1.tmps.size=a.tmps.size:=by rw [← hb1];simp only [size_put];exact bs
 have bd1:b1.defers=[]:=by rw [← hb1];simp only [yq];exact bd
 have b10:b1.eval (.tmp 0)=.slice (some ⟨g,0,none⟩) c cap:=by
  rw [← hb1,yb _ Zd,yb _ Zd,yb _ Zd,yb _ Zd,yb _ Zd];exact b0
 have b12:b1.eval (.tmp 2)=.pointer (some ⟨w.heap.size,0,none⟩):=by
  rw [← hb1,yb _ Zd,yb _ Zd,yb _ Zd,yb _ Zd,yb _ Zd];exact b2
 clear hb1
 have hblk:(w.alloc (.cells zero T (0,0))).heap[w.heap.size]?=some (.cells zero T (0,0)):=Y2 _ _
 have hx1:∀ j:Nat,j<c→(w.alloc (.cells zero T (0,0))).cell? ⟨g,j,none⟩=some (.int K (x j)):=fun j hj=>by
  rw [← hx j hj]
  simp only [World.cell?]
  rw [Below.heap_alloc w _ g hg]
 refine early_runs (k:=k) (m:=3 * c+1) (n:=3 * c+3) (B:=ybR c (3 * c+3)) (Y:=ybu c c g cap K x (.agg cells)) hmix hn Zo hW hO ?_ hds ?_ Zo ?_
 · exact readB_ok c
 · intro i o him ho a' hgot hold W hWh
   exact read_step (Nat.le_refl _) hST h1 hLT hbld hsh hk b10 hx1 i o him ho a' hgot hold W hWh
 · intro a' W hWh hWB hs hdd hold hgot
   rw [htail]
   have hlen:cells.size=c:=by rw [hcells];simp [recCells]
   have hlen2:cells.toList.length=c:=by simpa using hlen
   have hone:cells.all (·.oneCell')=true:=by
    rw [hcells]
    refine all_oneCell_toArray fun v hv=>?_
    simp only [List.mem_map] at hv
    obtain ⟨j,_,rfl⟩:=hv
    rfl
   have hbW:W.heap[w.heap.size]?=some (.cells zero T (0,0)):=by rw [hWh];exact hblk
   have hthere:W.there w.heap.size 0 cells.size:=fun j hj=>by
    rw [hlen] at hj
    rw [Nat.zero_add,ye hbW,yg hbW]
    simp [hz,hj]
   have hrec:=hgot (3 * c) Zo
   unfold ybu at hrec
   rw [if_neg Zo] at hrec
   refine ql rfl rfl (run_store (p:=.pointer (some ⟨w.heap.size,0,none⟩)) (v:=.agg cells) ?_ hrec (run_storeAt_mid W w.heap.size 0 T cells hthere (by rw [hlen];exact hi) hone)) ?_
   · rw [hold 2 Zo];exact b12
   refine yf rfl run_assign ?_
   refine yG ?_
   refine wp_ret ?_
   have hBel:Below w.heap.size w (W.setCells w.heap.size 0 cells.toList):=by
    refine below_setCells (Nat.le_refl _) _ _ _ ?_
    exact ybN (ym (Below.refl _ _) _) (Nat.le_refl _) (hWB _)
   refine bodyPost_ret (ycv (cs:=cells.toList) (v:=.nilIface) hres ?_ ?_ (World.rangeAt_setCells_same W w.heap.size 0 cells.toList (by simpa using hthere)) hT hD (by rw [hlen2];exact hi)) ?_ ?_
   · rw [yb _ Zd,hold 2 Zo];exact b12
   · rw [ya _ Zo];rfl
   · rw [yq,hdd];exact bd1
   · simpa using hR _ hBel
end Go.Proofs.YtdcaggoicdfehaaGreatDoor
