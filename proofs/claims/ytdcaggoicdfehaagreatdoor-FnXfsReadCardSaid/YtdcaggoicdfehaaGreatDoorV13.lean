/- Part 13 of 44 of the proof of the tied card of FnXfsRead. -/
import Derived.Test.YtdcaggoicdfehaaGreatDoorVz
import Derived.Test.YtdcaggoicdfehaaGreatDoorV9
import Derived.Test.YtdcaggoicdfehaaGreatDoorV12
set_option linter.unusedVariables false
set_option linter.unusedSimpArgs false
namespace Go.Proofs.YtdcaggoicdfehaaGreatDoor
open Go.RowKit Go.Proofs.YtdcaggoicdfehaaGreatDoorW.PrintWords Go.Proofs.YtdcaggoicdfehaaGreatDoorW.PrintLast Go.Proofs.YtdcaggoicdfehaaGreatDoorW.PrintMore
def yT (vals:Array Value):Nat→List Value→Array Value
 | _,[]=>vals
 | o,v::r=>yT (vals.setIfInBounds o v) (o+1) r
theorem QD {g:Nat} {t:TypeId}:∀ (vs:List Value) (o:Nat) (vals:Array Value) (w:World),w.heap[g]?=some (.cells vals t (0,0))→(w.setCells g o vs).heap[g]?=some (.cells (yT vals o vs) t (0,0))
 | [],_,_,_,h=>h
 | v::r,o,vals,w,h=>QD r (o+1) _ _ (yA h o v rfl)
theorem ycl {w:World} {g:Nat} {t:TypeId} {vals:Array Value} (h:w.heap[g]?=some (.cells vals t (0,0))) {o n:Nat} (hn:o+n≤vals.size):w.there g o n:=fun j hj=>by
 rw [ye h,yg h]
 have:o+j<vals.size:=by omega
 simp [this]
theorem yaa {g j:Nat} (hj:j≠g):∀ (vs:List Value) (o:Nat) (w:World),(w.setCells g o vs).heap[j]?=w.heap[j]?
 | [],_,_=>rfl
 | v::r,o,w=>(yaa hj r (o+1) _).trans (Below.heap_setCell _ _ _ _ (show j≠(⟨g,o,none⟩:Addr).block from hj))
def upd (n:Nat→Nat→Int) (i:Nat) (x:Nat→Int):Nat→Nat→Int:=fun a b=>if a=i then x b else n a b
structure SW (gs gl g m cap:Nat) (lab:ByteArray) (a:Act):Prop where
 size:a.tmps.size=364
 defers:a.defers=[]
 e4:a.eval (.tmp 4)=.pointer (some ⟨gs,0,none⟩)
 e5:a.eval (.tmp 5)=.pointer (some ⟨gl,0,none⟩)
 e14:a.eval (.tmp 14)=.slice (some ⟨g,0,none⟩) m cap
 e110:a.eval (.tmp 110)=.string lab
theorem SW.put {gs gl g m cap:Nat} {lab:ByteArray} {a:Act} (h:SW gs gl g m cap lab a) {d:Nat} (v:Value) (hd:110<d):SW gs gl g m cap lab (a.put (some d) v):=
 ⟨by rw [size_put];exact h.size,by rw [yq];exact h.defers,(yb _ Zo).trans h.e4,(yb _ Zo).trans h.e5,(yb _ Zo).trans h.e14,(yb _ Zo).trans h.e110⟩
theorem ya4 {s t:ByteArray}:(s.toList == t.toList)=decide (s=t):=by
 by_cases h:s=t
 · subst h;simp
 · rw [decide_eq_false h,beq_eq_false_iff_ne]
   intro e
   apply h
   rw [ByteArray.toList_eq,ByteArray.toList_eq] at e
   exact ByteArray.ext (Array.toList_inj.1 e)
theorem YC {id k gs gl g m cap:Nat} {lab c:ByteArray} {A rest:Code} {Q:Exit→Act→World→Prop} {a:Act} {w:World} {d0 d1:TypeId} {p0 p1:String} {a0 a1:Array Edge}
 (hS:SW gs gl g m cap lab a) (hk:110<k) (hk2:k+1<364) (hyes:lab=c→∀ a',SW gs gl g m cap lab a'→A.wp Tryz.prog Q a' w) (hno:lab≠c→∀ a',SW gs gl g m cap lab a'→rest.wp Tryz.prog Q a' w) :
 (Code.seq (.region id #[⟨some (k+1),.binOp .eql 9 (.tmp 110) (.const (.string c)) 9,d0,p0,a0,none⟩,⟨some k,.assign (.tmp (k+1)),d1,p1,a1,none⟩] false) (Code.cond (.tmp k) A rest)).wp Tryz.prog Q a w:=by
 have hs:=hS.size
 refine yB ?_
 refine yf rfl (run_seq hS.e110) ?_
 refine yf rfl (yX (v:=.bool (lab.toList == c.toList)) (ya _ Zo)) ?_
 refine yG ?_
 have hS2:=(hS.put (.bool (lab.toList == c.toList)) (show 110<k+1 by omega)).put (.bool (lab.toList == c.toList)) hk
 have he:((a.put (some (k+1)) (.bool (lab.toList == c.toList))).put (some k) (.bool (lab.toList == c.toList))).eval (.tmp k)=.bool (lab.toList == c.toList):=ya _ (by rw [size_put];omega)
 by_cases h:lab=c
 · refine wp_cond_true (he.trans (by rw [ya4,decide_eq_true h])) (hyes h _ hS2)
 · refine wp_cond_false (he.trans (by rw [ya4,decide_eq_false h])) (hno h _ hS2)
theorem arm_run {id k sr er gs g m cap fi fo T sz:Nat} {Q:Exit→Act→World→Prop} {a:Act} {w:World} {f:FuncId} {fn:Func} {s:ByteArray} {n n':Nat→Nat→Int} {cells:Array Value}
 {d0 d1 d2 d3 d4 d5 d6 d7:TypeId} {p0 p1 p2 p3 p4 p5 p6 p7:String} {a0 a1 a2 a3 a4 a5 a6 a7:Array Edge} {ts:Array TypeId}
 (hf:Tryz.prog.funcs[f]?=some fn) (hname:(fn.name == "runtime.NumGoroutine")=false) (hbody:fn.body.isSome=true)
 (hcall:Calls Tryz.prog f #[.slice (some ⟨g,0,none⟩) m cap] w fun e w'=>e=.returned (.tuple #[.agg cells,.nilIface])∧Below w.heap.size w w')
 (hfa:∀ W:World,(Instr.fieldAt 127 (.pointer (some ⟨gs,0,none⟩)) fi).run Tryz.prog W=.ok (.pointer (some ⟨gs,fo,none⟩)) W)
 (hi:(Tryz.prog.info? T).map (·.size)=some cells.size) (hone:cells.all (·.oneCell')=true) (hfit:fo+cells.size≤276)
 (hn':yT (yj s n) fo cells.toList=yj s n') (hsv:(yj s n).size=276)
 (hs:a.tmps.size=sz) (e4:a.eval (.tmp 4)=.pointer (some ⟨gs,0,none⟩)) (esr:a.eval (.tmp sr)=.slice (some ⟨g,0,none⟩) m cap) (hk:4<k) (hk2:k+5<sz) (her:er<k) (hblk:w.heap[gs]?=some (.cells (yj s n) 127 (0,0)))
 (h:∀ a' w1 w',Below w.heap.size w w1→w'=w1.setCells gs fo cells.toList→w'.heap[gs]?=some (.cells (yj s n') 127 (0,0))→a'.tmps.size=sz→a'.defers=a.defers→(∀ j:Nat,(j<k∨k+5<j)→j≠er→a'.eval (.tmp j)=a.eval (.tmp j))→a'.eval (.tmp er)=.nilIface→Q .normal a' w') :
 (Code.region id #[⟨some (k+1),.move (.tmp sr),d0,p0,a0,none⟩,⟨some (k+2),.call { callee:=.value (.func f),args:=#[.tmp (k+1)],argTypes:=ts },d1,p1,a1,none⟩,⟨some k,.move (.tmp (k+2)),d2,p2,a2,none⟩,⟨some (k+3),.extract (.tmp k) 0,d3,p3,a3,none⟩,
  ⟨some (k+4),.extract (.tmp k) 1,d4,p4,a4,none⟩,⟨some (k+5),.fieldAddr 127 (.tmp 4) fi,d5,p5,a5,none⟩,⟨none,.store T (.tmp (k+5)) (.tmp (k+3)),d6,p6,a6,none⟩,⟨some er,.assign (.tmp (k+4)),d7,p7,a7,none⟩] false).wp Tryz.prog Q a w:=by
 refine wp_region_list ?_
 refine Kd.yh rfl (yJ esr) ?_
 refine Yp (some (k+2)) rfl rfl hf hname hbody #[.slice (some ⟨g,0,none⟩) m cap] rfl (JX (ya _ Zo)) ?_
 refine hcall.mono ?_
 rintro e w1 ⟨rfl,hB⟩
 refine ⟨_,rfl,?_⟩
 refine Kd.yh rfl (yJ (v:=.tuple #[.agg cells,.nilIface]) (ya _ Zs)) ?_
 refine Kd.yh rfl (YI (u:=.tuple #[.agg cells,.nilIface]) (v:=.agg cells) (ya _ Zs) (qh _ _ _)) ?_
 refine Kd.yh rfl (YI (u:=.tuple #[.agg cells,.nilIface]) (v:=.nilIface) ((yb _ Zo).trans (ya _ Zs)) (qi _ _ _)) ?_
 refine Kd.yh rfl (yF (p:=.pointer (some ⟨gs,0,none⟩)) ?_ (hfa _)) ?_
 · rw [yb _ Zo,yb _ Zo,yb _ Zo,yb _ Zo,yb _ Zo];exact e4
 have hblk1:=yE hblk hB
 refine Jk rfl rfl (run_store (p:=.pointer (some ⟨gs,fo,none⟩)) (v:=.agg cells) (ya _ Zs) ?_ (run_storeAt_mid w1 gs fo T cells (ycl hblk1 (by rw [hsv];exact hfit)) hi hone)) ?_
 · rw [yb _ Zo,yb _ Zo,ya _ Zs]
 refine Kd.yh rfl (yX (v:=.nilIface) ?_) ?_
 · rw [yb _ Zo,ya _ Zs]
 refine wpList_nil ?_
 have hb2:=QD cells.toList fo _ _ hblk1
 rw [hn'] at hb2
 refine h _ w1 _ hB rfl hb2 (by simp only [size_put];exact hs) (by simp only [yq]) (fun j hj hje=>?_) (ya _ Zs)
 rw [yb _ hje,yb _ Zo,yb _ Zo,yb _ Zo,yb _ Zo,yb _ Zo,yb _ Zo]
end Go.Proofs.YtdcaggoicdfehaaGreatDoor
