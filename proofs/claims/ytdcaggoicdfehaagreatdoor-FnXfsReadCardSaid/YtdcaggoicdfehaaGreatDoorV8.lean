/- Part 8 of 44 of the proof of the tied card of FnXfsRead. -/
import Derived.Test.YtdcaggoicdfehaaGreatDoorVz
import Derived.Test.YtdcaggoicdfehaaGreatDoorV7
import Derived.Lib.ConvBytes
import Derived.Laws.IdiomStrings
set_option linter.unusedVariables false
set_option linter.unusedSimpArgs false
namespace Go.Proofs.YtdcaggoicdfehaaGreatDoor
open Go.RowKit Go.Proofs.YtdcaggoicdfehaaGreatDoorW.PrintWords Go.Proofs.YtdcaggoicdfehaaGreatDoorW.PrintLast Go.Proofs.YtdcaggoicdfehaaGreatDoorW.PrintMore
section
variable {a:Act} {d:Option Tmp} {ty:TypeId} {pos:String} {aft:Array Edge} {gd:Option (Nat × Bool)} {w w1:World} {x y:Operand}
theorem yJ {v:Value} (hx:a.eval x=v):(execOp a.eval ⟨d,.move x,ty,pos,aft,gd⟩).run Tryz.prog w=.ok (.value v) w:=by
 subst hx;rfl
theorem yX {v:Value} (hx:a.eval x=v):(execOp a.eval ⟨d,.assign x,ty,pos,aft,gd⟩).run Tryz.prog w=.ok (.value v) w:=by
 subst hx;rfl
theorem Jh {p:Addr} (hx:a.eval x=.pointer (some p)):(execOp a.eval ⟨d,.nilCheck x,ty,pos,aft,gd⟩).run Tryz.prog w=.ok (.value (.pointer (some p))) w:=by
 simp [execOp,hx]
theorem Qh {x:Nat} {s:ByteArray} (hx:a.eval (.tmp x)=.string s):(execOp a.eval ⟨d,.call { callee:=.builtin .len,args:=#[.tmp x],argTypes:=#[9] },ty,pos,aft,gd⟩).run Tryz.prog w=.ok (.value (.int .i64 s.size)) w:=by
 have hx':a.tmps[x]?.getD undef=.string s:=by simpa [Act.eval] using hx
 simp [execOp,go_sem,hx',run_len_string (h:=Tryz.underlying9),goInt]
theorem run_sidx {s:ByteArray} {i:Nat} (hx:a.eval x=.string s) (hy:a.eval y=.int .i64 i) (hi:i<s.size):(execOp a.eval ⟨d,.index 9 x y,ty,pos,aft,gd⟩).run Tryz.prog w=.ok (.value (.int .u8 (s[i]'hi).toNat)) w:=by
 have h1:(Instr.index 9 (a.eval x) (a.eval y)).run Tryz.prog w=.ok (.int .u8 (s[i]'hi).toNat) w:=by
  rw [hx,hy,run_index_string (h:=Tryz.underlying9),dif_pos ⟨by omega,by omega⟩]
  rfl
 exact Jc h1
theorem run_sto {s:ByteArray} {n:Nat} (hx:a.eval x=.string s) (hy:a.eval y=.int .i64 n) (hn:n≤s.size):(execOp a.eval ⟨d,.slice 9 x none (some y) none,ty,pos,aft,gd⟩).run Tryz.prog w=.ok (.value (.string (s.extract 0 n))) w:=by
 have h1:(Instr.sliceAt 9 (a.eval x) none (some (a.eval y)) none).run Tryz.prog w=.ok (.string (s.extract 0 n)) w:=by
  rw [hx,hy,run_sliceAt_string (h:=Tryz.underlying9),run_slice_string_h (ht:=Tryz.underlying9)]
  · rfl
  · omega
  · omega
 exact Jc h1
theorem run_sfrom {s:ByteArray} {n:Nat} (hx:a.eval x=.string s) (hy:a.eval y=.int .i64 n) (hn:n≤s.size):(execOp a.eval ⟨d,.slice 9 x (some y) none none,ty,pos,aft,gd⟩).run Tryz.prog w=.ok (.value (.string (s.extract n s.size))) w:=by
 have h1:(Instr.sliceAt 9 (a.eval x) (some (a.eval y)) none none).run Tryz.prog w=.ok (.string (s.extract n s.size)) w:=by
  rw [hx,hy,run_sliceAt_string (h:=Tryz.underlying9),run_slice_string_l (ht:=Tryz.underlying9)]
  · rfl
  · omega
  · omega
 exact Jc h1
theorem run_seq {s:ByteArray} {c:ByteArray} (hx:a.eval x=.string s):(execOp a.eval ⟨d,.binOp .eql 9 x (.const (.string c)) 9,ty,pos,aft,gd⟩).run Tryz.prog w=.ok (.value (.bool (s.toList == c.toList))) w:=
 Jg hx rfl Zk
end
def ybr (P:Program) (ops:Array Oper) (K:Act→World→Prop):List Oper→Act→World→Prop
 | [],a,w=>K a w
 | o::r,a,w=>(Region.wanted o (yielded ops a.tmps)=true∧∃ v w1,(execOp a.eval o).run P w=.ok (.value v) w1∧ybr P ops K r (a.put o.dst v) w1)∨(Region.wanted o (yielded ops a.tmps)=false∧ybr P ops K r (a.put o.dst undef) w)
section
variable {P:Program} {ops:Array Oper} {K:Act→World→Prop} {a:Act} {w w1:World} {o:Oper} {r:List Oper} {v:Value}
theorem yaV (h:K a w):ybr P ops K [] a w:=h
theorem Yh (hg:o.guard=none) (hrun:(execOp a.eval o).run P w=.ok (.value v) w1) (h:ybr P ops K r (a.put o.dst v) w1):ybr P ops K (o::r) a w:=.inl ⟨by simp [Region.wanted,hg],v,w1,hrun,h⟩
theorem Yo (hw:Region.wanted o (yielded ops a.tmps)=true) (hrun:(execOp a.eval o).run P w=.ok (.value v) w1) (h:ybr P ops K r (a.put o.dst v) w1):ybr P ops K (o::r) a w:=.inl ⟨hw,v,w1,hrun,h⟩
theorem Y4 (hw:Region.wanted o (yielded ops a.tmps)=false) (h:ybr P ops K r (a.put o.dst undef) w):ybr P ops K (o::r) a w:=.inr ⟨hw,h⟩
theorem Q5 {Q:Exit→Act→World→Prop}:∀ {l:List Oper} {a:Act} {w:World},ybr P ops (fun a w=>Q .normal a w) l a w→wpList P ops Q l a w
 | [],_,_,h=>h
 | o::r,a,w,.inl ⟨hw,v,w1,hrun,h⟩=>by
  refine Qc hw (Kd.yh rfl ?_ (Q5 h))
  exact hrun
 | o::r,a,w,.inr ⟨hw,h⟩=>ybA hw (Q5 h)
theorem JF {j d:Nat} {b b':Bool} {oj:Oper} (hg:o.guard=some (j,b)) (hj:ops[j]?=some oj) (hd:oj.dst=some d) (hs:d<a.tmps.size) (hv:a.eval (.tmp d)=.bool b') (hne:b'≠b):Region.wanted o (yielded ops a.tmps)=false:=by
 have h1:a.tmps[d]?=some (.bool b'):=by
  have:a.tmps.getD d undef=.bool b':=hv
  rw [Array.getD_eq_getD_getElem?] at this
  rw [Array.getElem?_eq_getElem hs] at this ⊢
  exact congrArg some this
 simp [Region.wanted,yielded,hg,hj,hd,h1,hne]
end
def ybE (t l:ByteArray):Array Value:=#[.string t,.string l,.int .i64 65536,.nilIface]
abbrev JO (w:World) (b:Nat) (t l:ByteArray):Prop:=w.heap[b]?=some (.cells (ybE t l) 267 (0,0))
theorem Qi (W:World) (b:Nat):(Instr.fieldAt 267 (.pointer (some ⟨b,0,none⟩)) 0).run Tryz.prog W=.ok (.pointer (some ⟨b,0,none⟩)) W:=by kernel_rfl
theorem qV (W:World) (b:Nat):(Instr.fieldAt 267 (.pointer (some ⟨b,0,none⟩)) 1).run Tryz.prog W=.ok (.pointer (some ⟨b,1,none⟩)) W:=by kernel_rfl
theorem fa_lines2 (W:World) (b:Nat):(Instr.fieldAt 267 (.pointer (some ⟨b,0,none⟩)) 2).run Tryz.prog W=.ok (.pointer (some ⟨b,2,none⟩)) W:=by kernel_rfl
theorem yce (W:World) (b:Nat):(Instr.fieldAt 267 (.pointer (some ⟨b,0,none⟩)) 3).run Tryz.prog W=.ok (.pointer (some ⟨b,3,none⟩)) W:=by kernel_rfl
section
variable {w:World} {b:Nat} {t l:ByteArray} (h:JO w b t l)
 include h
theorem yax:(Instr.loadAt 9 (.pointer (some ⟨b,0,none⟩))).run Tryz.prog w=.ok (.string t) w:=qN Zk ((ye h 0).trans rfl)
theorem ycH:(Instr.loadAt 9 (.pointer (some ⟨b,1,none⟩))).run Tryz.prog w=.ok (.string l) w:=qN Zk ((ye h 1).trans rfl)
theorem ld_most:(Instr.loadAt 3 (.pointer (some ⟨b,2,none⟩))).run Tryz.prog w=.ok (.int .i64 65536) w:=qN Zk ((ye h 2).trans rfl)
theorem ld_err:(Instr.loadAt 63 (.pointer (some ⟨b,3,none⟩))).run Tryz.prog w=.ok .nilIface w:=qN Zk ((ye h 3).trans rfl)
theorem st_text (s:ByteArray):(Instr.storeAt 9 (.pointer (some ⟨b,0,none⟩)) (.string s)).run Tryz.prog w=.ok () (w.setCell ⟨b,0,none⟩ (.string s)):=by
 have hc:w.cell? ⟨b,0,none⟩=some (.string t):=(ye h 0).trans rfl
 have hf:=yg h 0
 simp [Instr.storeAt,Instr.sureAddr,go_sem,hc,hf]
theorem st_line (s:ByteArray):(Instr.storeAt 9 (.pointer (some ⟨b,1,none⟩)) (.string s)).run Tryz.prog w=.ok () (w.setCell ⟨b,1,none⟩ (.string s)):=by
 have hc:w.cell? ⟨b,1,none⟩=some (.string l):=(ye h 1).trans rfl
 have hf:=yg h 1
 simp [Instr.storeAt,Instr.sureAddr,go_sem,hc,hf]
theorem set_text (s:ByteArray):JO (w.setCell ⟨b,0,none⟩ (.string s)) b s l:=yA h 0 _ rfl
theorem yc4 (s:ByteArray):JO (w.setCell ⟨b,1,none⟩ (.string s)) b t s:=yA h 1 _ rfl
end
end Go.Proofs.YtdcaggoicdfehaaGreatDoor
namespace Go.Proofs.YtdcaggoicdfehaaGreatDoor
open Go.RowKit Go.Proofs.YtdcaggoicdfehaaGreatDoorW.PrintWords Go.Proofs.YtdcaggoicdfehaaGreatDoorW.PrintLast Go.Proofs.YtdcaggoicdfehaaGreatDoorW.PrintMore
theorem early_all {P:Program} {id k n:Nat} {ops:Array Oper} {B:List Nat} {Y:Nat→Value} {rest:Code} {Q:Exit→Act→World→Prop} {a:Act} {w:World}
 (hmix:P.follows .mixedOrders=true) (hn:ops.size=n) (hW:JP (Ju .any ops).2 B=true) (hO:qv (Ju .any ops).2 (List.range n)=true)
 (hB:((List.range n).all fun d=>(B.getD d 0)<2 ^ d)=true)
 (hd:((List.range n).all fun i=>match ops[i]? with|some o=>o.dst == some (k+i)|none=>false)=true)
 (hgd:∀ (i:Nat) (o:Oper),i<n→ops[i]?=some o→o.guard=none∨∃ j bb,o.guard=some (j,bb)∧(B.getD i 0).testBit j=true∧Y j=.bool bb)
 (hy:∀ (i:Nat) (o:Oper),i<n→ops[i]?=some o→∀ a':Act,(∀ j,(B.getD i 0).testBit j=true→a'.eval (.tmp (k+j))=Y j)→(∀ j:Nat,j<k→a'.eval (.tmp j)=a.eval (.tmp j))→∀ W:World,W.heap=w.heap→(execOp a'.eval o).run P W=.ok (.value (Y i)) W)
 (hsz:k+n≤a.tmps.size)
 (h:∀ (a':Act),a'.tmps.size=a.tmps.size→a'.defers=a.defers→(∀ j:Nat,j<k→a'.eval (.tmp j)=a.eval (.tmp j))→(∀ j:Nat,j<n→a'.eval (.tmp (k+j))=Y j)→rest.wp P Q a' w.drew) :
 (Code.seq (.region id ops true) rest).wp P Q a w:=by
 have hBd:∀ d,d<n→(B.getD d 0)<2 ^ d:=fun d hd=>by
  have:=List.all_eq_true.1 hB d (List.mem_range.2 hd)
  simpa using this
 have hdd:∀ i,i<n→∃ o,ops[i]?=some o∧o.dst=some (k+i):=fun i hi=>by
  have:=List.all_eq_true.1 hd i (List.mem_range.2 hi)
  cases ho:ops[i]? with
  | none=>rw [ho] at this;simp at this
  | some o=>rw [ho] at this;exact ⟨o,rfl,by simpa using this⟩
 have hbit:∀ d j,d<n→(B.getD d 0).testBit j=true→j<d:=fun d j hd hj=>by
  by_cases hjd:j<d
  · exact hjd
  · have:=Nat.testBit_lt_two_pow (Nat.lt_of_lt_of_le (hBd d hd) (Nat.pow_le_pow_right Zd (Nat.not_lt.1 hjd)))
    rw [this] at hj;cases hj
 refine wp_seq ?_
 refine Q8 (n:=n) (S:=fun _=>True) (ds:=[]) _ hmix hn rfl trivial (fun _=>?_)
 refine inv_ (B:=B) (List.range n) (fun b a' w'=>w'=w.drew∧Early k n Y a a' b) rfl hW hO ?_ ?_ ?_ ?_
 · have:(Ju Region.Mode.any ops).2.length=n:=by simp [Ju,hn]
   rw [this]
   have e1:lof n (List.range n) (fun _=>false)=(Array.replicate n false).toList:=by
    apply List.ext_getElem?
    intro i
    by_cases hi:i<n
    · simp [lof,hi]
    · simp [lof,hi]
   rw [e1]
   simp
 · exact ⟨rfl,⟨rfl,rfl,fun _ _=>rfl,fun _ _ hb=>by cases hb⟩⟩
 · intro i hi b a' w' hI hb hpre hpost
   have hin:i<n:=List.mem_range.1 hi
   have hpre':∀ j,(B.getD i 0).testBit j=true→b j=true:=fun j hj=>hpre j (by
    rw [Bool.and_eq_true]
    refine ⟨?_,hj⟩
    have:=hbit i j hin hj
    simp;omega)
   obtain ⟨rfl,hE⟩:=hI
   obtain ⟨o,ho,hdst⟩:=hdd i hin
   have hgot:∀ j,(B.getD i 0).testBit j=true→a'.eval (.tmp (k+j))=Y j:=fun j hj=>hE.got j (by have:=hbit i j hin hj;omega) (hpre' j hj)
   refine ⟨o,ho,fun K hK=>?_⟩
   have hw:Region.wanted o (yielded ops a'.tmps)=true:=by
    rcases hgd i o hin ho with hg|⟨j,bb,hg,hj,hyj⟩
    · simp [Region.wanted,hg]
    · obtain ⟨oj,hoj,hdj⟩:=hdd j (by have:=hbit i j hin hj;omega)
      exact Yc hg hoj hdj (by rw [hE.size];have:=hbit i j hin hj;omega) ((hgot j hj).trans hyj)
   rw [hdst]
   exact qq hw hdst (hy i o hin ho a' hgot hE.old _ rfl) (hK.out _ _ ⟨rfl,hE.put hin hsz⟩)
 · intro b a' w' hall hI
   obtain ⟨rfl,hE⟩:=hI
   exact h a' hE.size hE.defers hE.old (fun j hj=>hE.got j hj (hall j (by simp;omega)))
theorem ybf {P:Program} {w w1:World} {ρ:Operand→Value} {d ty pos aft gd} {S T:Nat} {x:Operand} {p v:Value} (hx:ρ x=p) (hl:(convert S T p).run P w=.ok v w1) :
 (execOp ρ ⟨d,.convert S T x,ty,pos,aft,gd⟩).run P w=.ok (.value v) w1:=by
 subst hx;exact Jc hl
set_option maxRecDepth 100000 in
theorem ydE (t:ByteArray) (w:World):Calls Tryz.prog 42 #[.string t] w fun e w'=>e=.returned (.pointer (some ⟨w.heap.size,0,none⟩))∧JO w' w.heap.size t ⟨#[]⟩∧Below w.heap.size w w':=by
 go_enter Tryz.func42,Tryz.ntmps42
 generalize ha0:(Act.mk _ _)=a0
 have hsz:a0.tmps.size=Tryz.f42.ntmps:=by rw [← ha0];rfl
 replace hsz:a0.tmps.size=6:=hsz.trans Zk
 have hdf:a0.defers=[]:=by rw [← ha0]
 have e0:a0.eval (.tmp 0)=.string t:=by rw [← ha0];rfl
 clear ha0
 refine yB ?_
 refine yf rfl run_assign ?_
 refine yG ?_
 refine yB ?_
 refine yf rfl run_move ?_
 refine yf rfl (YQ (vs:=#[(0,.string t),(2,.int .i64 65536)]) (v:=.agg (ybE t ⟨#[]⟩)) ?_ Zk) ?_
 · have h1:((a0.put (some 2) (a0.eval (.const (.pointer none)))).put (some 3) ((a0.put (some 2) (a0.eval (.const (.pointer none)))).eval (.tmp 0))).eval (.tmp 3)=.string t:=by
    rw [ya _ Zs,yb _ Zd];exact e0
   have h2:∀ (b:Act) (v:Value),b.eval (.const v)=v:=fun _ _=>rfl
   simp only [List.map_toArray,List.map_cons,List.map_nil,h2] at h1 ⊢
   rw [h1]
 refine yf rfl (ybh (ya _ Zs) (show _=Result.ok (.pointer (some ⟨w.heap.size,0,none⟩)) (w.alloc (.cells (ybE t ⟨#[]⟩) 267)) by kernel_rfl)) ?_
 refine yf rfl run_assign ?_
 refine yG ?_
 refine wp_ret ?_
 refine Y8 rfl (by simp only [yq];exact hdf) (ya _ Zs) ⟨?_,Y2 _ _,ym (Below.refl _ _) _⟩
 rw [ya _ Zs]
set_option maxRecDepth 100000 in
theorem bytes_walk {w:World} {b:Nat} {t l:ByteArray} (h:JO w b t l):Calls Tryz.prog 45 #[.pointer (some ⟨b,0,none⟩)] w fun e w'=>∃ cap,e=.returned (.slice (some ⟨w.heap.size,0,none⟩) l.size cap)∧w'=Lib.bytesWorld w 5 l:=by
 go_enter Tryz.func45,Tryz.ntmps45
 generalize ha0:(Act.mk _ _)=a0
 have hsz:a0.tmps.size=Tryz.f45.ntmps:=by rw [← ha0];rfl
 replace hsz:a0.tmps.size=8:=hsz.trans Zk
 have hdf:a0.defers=[]:=by rw [← ha0]
 have e0:a0.eval (.tmp 0)=.pointer (some ⟨b,0,none⟩):=by rw [← ha0];rfl
 clear ha0
 refine yB ?_
 refine yf rfl run_assign ?_
 refine yG ?_
 refine yB ?_
 refine yf rfl run_move ?_
 refine yf rfl (Jh (p:=⟨b,0,none⟩) ?_) ?_
 · rw [ya _ Zs,yb _ Zd];exact e0
 refine yf rfl (yF (ya _ Zs) (qV _ _)) ?_
 refine yf rfl (run_load (ya _ Zs) (ycH h)) ?_
 refine yf rfl (ybf (ya _ Zs) (Lib.run_convert_string_bytes (P:=Tryz.prog) w 9 144 5 l Tryz.underlying9 Tryz.underlying144 Tryz.underlying5)) ?_
 refine yf rfl run_assign ?_
 refine yG ?_
 refine wp_ret ?_
 refine Y8 rfl (by simp only [yq];exact hdf) (ya _ Zs) ⟨grownCap w l.size 0 5,?_,rfl⟩
 rw [ya _ Zs]
set_option maxRecDepth 100000 in
theorem err_walk {w:World} {b:Nat} {t l:ByteArray} (h:JO w b t l):Calls Tryz.prog 81 #[.pointer (some ⟨b,0,none⟩)] w fun e w'=>e=.returned .nilIface∧w'=w:=by
 go_enter Tryz.func81,Tryz.ntmps81
 generalize ha0:(Act.mk _ _)=a0
 have hsz:a0.tmps.size=Tryz.f81.ntmps:=by rw [← ha0];rfl
 replace hsz:a0.tmps.size=7:=hsz.trans Zk
 have hdf:a0.defers=[]:=by rw [← ha0]
 have e0:a0.eval (.tmp 0)=.pointer (some ⟨b,0,none⟩):=by rw [← ha0];rfl
 clear ha0
 refine yB ?_
 refine yf rfl run_assign ?_
 refine yG ?_
 refine yB ?_
 refine yf rfl run_move ?_
 refine yf rfl (Jh (p:=⟨b,0,none⟩) ?_) ?_
 · rw [ya _ Zs,yb _ Zd];exact e0
 refine yf rfl (yF (ya _ Zs) (yce _ _)) ?_
 refine yf rfl (run_load (ya _ Zs) (ld_err h)) ?_
 refine yf rfl run_assign ?_
 refine yG ?_
 refine wp_ret ?_
 refine Y8 rfl (by simp only [yq];exact hdf) (ya _ Zs) ⟨?_,rfl⟩
 rw [ya _ Zs]
end Go.Proofs.YtdcaggoicdfehaaGreatDoor
