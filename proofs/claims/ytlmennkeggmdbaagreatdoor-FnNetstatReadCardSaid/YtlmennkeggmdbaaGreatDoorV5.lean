/- Part 5 of 34 of the proof of the tied card of FnNetstatRead. -/
import Derived.Test.YtlmennkeggmdbaaGreatDoorVz
import Derived.Test.YtlmennkeggmdbaaGreatDoorV4
import Derived.Scope
set_option linter.unusedVariables false
set_option linter.unusedSimpArgs false
namespace Go.Proofs.YtlmennkeggmdbaaGreatDoor
open Go.RowKit Go.Proofs.YtlmennkeggmdbaaGreatDoorW.PrintWords Go.Proofs.YtlmennkeggmdbaaGreatDoorW.PrintLast Go.Proofs.YtlmennkeggmdbaaGreatDoorW.PrintMore
abbrev Kn:=List (Nat × Value)
def lkv:Kn→Nat→Option Value
 | [],_=>none
 | (j,v)::r,i=>bif Nat.beq i j then some v else lkv r i
def kv (L:Kn):Operand→Option Value
 | .tmp j=>lkv L j
 | .const v=>some v
 | .global g=>some (.pointer (some ⟨g,0,none⟩))
 | .func f=>some (.func (.func f) #[] #[])
def kvs (L:Kn):List Operand→Option (List Value)
 | []=>some []
 | x::r=>match kv L x with
  | some v=>match kvs L r with
   | some vs=>some (v::vs)
   | none=>none
  | none=>none
structure Has (sz:Nat) (D:List Deferred) (L:Kn) (a:Act):Prop where
 size:a.tmps.size=sz
 defers:a.defers=D
 at_:∀ j v,lkv L j=some v→a.eval (.tmp j)=v
section
variable {sz:Nat} {D:List Deferred} {L:Kn} {a:Act}
theorem Has.kv (h:Has sz D L a) {x:Operand} {v:Value} (hx:kv L x=some v):a.eval x=v:=by
 cases x with
 | tmp j=>exact h.at_ j v hx
 | const u=>exact Option.some.inj hx
 | global g=>exact Option.some.inj hx
 | func f=>exact Option.some.inj hx
theorem Has.kvs (h:Has sz D L a):∀ {xs:List Operand} {vs:List Value},kvs L xs=some vs→xs.map a.eval=vs
 | [],vs,hx=>by simp only [Go.Proofs.YtlmennkeggmdbaaGreatDoor.kvs,Option.some.injEq] at hx;subst hx;rfl
 | x::r,vs,hx=>by
  simp only [Go.Proofs.YtlmennkeggmdbaaGreatDoor.kvs] at hx
  cases h1:Go.Proofs.YtlmennkeggmdbaaGreatDoor.kv L x with
  | none=>rw [h1] at hx;cases hx
  | some v=>
   rw [h1] at hx
   cases h2:Go.Proofs.YtlmennkeggmdbaaGreatDoor.kvs L r with
   | none=>rw [h2] at hx;cases hx
   | some us=>
    rw [h2] at hx
    simp only [Option.some.injEq] at hx
    subst hx
    rw [List.map_cons,h.kv h1,h.kvs h2]
theorem Has.put (h:Has sz D L a) {d:Nat} (v:Value) (hd:d<sz):Has sz D ((d,v)::L) (a.put (some d) v):=by
 refine ⟨by rw [size_put];exact h.size,by rw [yJ];exact h.defers,fun j u hj=>?_⟩
 simp only [lkv] at hj
 cases hb:Nat.beq j d with
 | true=>
  obtain rfl:=Nat.eq_of_beq_eq_true hb
  rw [hb] at hj
  simp only [cond_true,Option.some.injEq] at hj
  subst hj
  exact ya _ (by rw [h.size];exact hd)
 | false=>
  rw [hb] at hj
  simp only [cond_false] at hj
  rw [yb _ (fun e=>by subst e;rw [Nat.beq_refl] at hb;cases hb)]
  exact h.at_ j u hj
def Sub (L:Kn):Kn→Prop
 | []=>True
 | (j,v)::r=>lkv L j=some v∧Sub L r
theorem Sub.get {L:Kn}:∀ {M:Kn},Sub L M→∀ j v,lkv M j=some v→lkv L j=some v
 | [],_,j,v,h=>by cases h
 | (i,u)::r,hs,j,v,h=>by
  simp only [lkv] at h
  cases hb:Nat.beq j i with
  | true=>
   obtain rfl:=Nat.eq_of_beq_eq_true hb
   rw [hb] at h
   simp only [cond_true,Option.some.injEq] at h
   subst h
   exact hs.1
  | false=>
   rw [hb] at h
   simp only [cond_false] at h
   exact Sub.get hs.2 j v h
theorem Has.sub (h:Has sz D L a) {M:Kn} (hs:Sub L M):Has sz D M a:=⟨h.size,h.defers,fun j v hj=>h.at_ j v (hs.get j v hj)⟩
end
def QG (ops:Array Oper) (L:Kn) (o:Oper):Option Bool:=
 match o.guard with
 | none=>some true
 | some (j,b)=>match ops[j]? with
  | some oj=>match oj.dst with
   | some d=>match lkv L d with
    | some (.bool c)=>some (c == b)
    | some (.tuple _)=>some false
    | _=>none
   | none=>none
  | none=>none
theorem yb5 {sz:Nat} {D:List Deferred} {L:Kn} {a:Act} {ops:Array Oper} {o:Oper} {t:Bool} (h:Has sz D L a) (hw:QG ops L o=some t):Region.wanted o (yielded ops a.tmps)=t:=by
 unfold QG at hw
 unfold Region.wanted
 cases hg:o.guard with
 | none=>rw [hg] at hw;exact Option.some.inj hw
 | some p=>
  obtain ⟨j,b⟩:=p
  rw [hg] at hw
  simp only at hw ⊢
  unfold yielded
  cases ho:ops[j]? with
  | none=>rw [ho] at hw;cases hw
  | some oj=>
   rw [ho] at hw
   simp only [Option.bind_some] at hw ⊢
   cases hd:oj.dst with
   | none=>rw [hd] at hw;cases hw
   | some d=>
    rw [hd] at hw
    simp only [Option.bind_some] at hw ⊢
    cases hl:lkv L d with
    | none=>rw [hl] at hw;cases hw
    | some v=>
     rw [hl] at hw
     have he:=h.at_ d v hl
     have he':a.tmps[d]?.getD undef=v:=by rw [← he];simp [Act.eval]
     cases v with
     | bool c=>
      simp only [Option.some.injEq] at hw
      subst hw
      cases hc:a.tmps[d]? with
      | none=>rw [hc] at he';simp [undef] at he'
      | some u=>rw [hc] at he';simp only [Option.getD_some] at he';subst he';simp
     | tuple xs=>
      simp only [Option.some.injEq] at hw
      subst hw
      cases hc:a.tmps[d]? with
      | none=>simp
      | some u=>rw [hc] at he';simp only [Option.getD_some] at he';subst he';simp
     | _=>cases hw
def yZ (P:Program) (sz:Nat) (D:List Deferred) (ops:Array Oper) (K:Kn→World→Prop):List Oper→Kn→World→Prop
 | [],L,w=>K L w
 | o::r,L,w=>
  (QG ops L o=some true∧∃ d v w1,o.dst=some d∧d<sz∧(∀ a,Has sz D L a→(execOp a.eval o).run P w=.ok (.value v) w1)∧yZ P sz D ops K r ((d,v)::L) w1)
  ∨ (QG ops L o=some true∧∃ w1,o.dst=none∧(∀ a,Has sz D L a→(execOp a.eval o).run P w=.ok .skip w1)∧yZ P sz D ops K r L w1)
  ∨ (QG ops L o=some false∧∃ d,o.dst=some d∧d<sz∧yZ P sz D ops K r ((d,undef)::L) w)
  ∨ (QG ops L o=some true∧∃ d f args,o.dst=some d∧d<sz∧(∀ a,Has sz D L a→(execOp a.eval o).run P w=.ok (.enter f args) w)∧Calls P f args w fun e w1=>∃ v,e=.returned v∧yZ P sz D ops K r ((d,v)::L) w1)
  ∨ (∃ d,o.dst=some d∧d<sz∧∀ a,Has sz D L a→∀ (K':Act→World→Prop) (Q:Exit→Act→World→Prop),(∀ v w1,yZ P sz D ops K r ((d,v)::L) w1→K' (a.put (some d) v) w1)→if Region.wanted o (yielded ops a.tmps)=true then o.wp P a w K' Q else K' (a.put o.dst undef) w)
theorem yaB {P:Program} {sz:Nat} {D:List Deferred} {ops:Array Oper} {Q:Exit→Act→World→Prop} {K:Kn→World→Prop} (hK:∀ L w a,K L w→Has sz D L a→Q .normal a w) :
 ∀ {l:List Oper} {L:Kn} {a:Act} {w:World},yZ P sz D ops K l L w→Has sz D L a→wpList P ops Q l a w
 | [],L,a,w,h,ha=>wpList_nil (hK L w a h ha)
 | o::r,L,a,w,h,ha=>by
  refine wpList_step fun K' hK'=>?_
  rcases h with ⟨hw,d,v,w1,hd,hlt,hrun,h⟩|⟨hw,w1,hd,hrun,h⟩|⟨hw,d,hd,hlt,h⟩|⟨hw,d,f,args,hd,hlt,hrun,h⟩|⟨d,hd,hlt,h⟩
  · rw [if_pos (yb5 ha hw)]
    unfold Oper.wp
    rw [hrun a ha]
    refine hK' _ _ ?_
    rw [hd]
    exact yaB hK h (ha.put v hlt)
  · rw [if_pos (yb5 ha hw)]
    unfold Oper.wp
    rw [hrun a ha,Oper.upon_skip,hd]
    exact hK' _ _ (yaB hK h ha)
  · rw [if_neg (by rw [yb5 ha hw];decide)]
    refine hK' _ _ ?_
    rw [hd]
    exact yaB hK h (ha.put undef hlt)
  · rw [if_pos (yb5 ha hw)]
    unfold Oper.wp
    rw [hrun a ha,Oper.upon_enter]
    refine h.mono fun e w'' hh=>?_
    obtain ⟨v,rfl,hk⟩:=hh
    refine hK' _ _ ?_
    rw [hd]
    exact yaB hK hk (ha.put v hlt)
  · exact h a ha K' Q (fun v w1 hk=>hK' _ _ (yaB hK hk (ha.put v hlt)))
def At (P:Program) (Q:Exit→Act→World→Prop) (sz:Nat) (D:List Deferred) (L:Kn) (w:World) (c:Code):Prop:=∀ a,Has sz D L a→c.wp P Q a w
section
variable {P:Program} {Q:Exit→Act→World→Prop} {sz:Nat} {D:List Deferred} {L:Kn} {w w1:World} {x y:Code} {c:Operand} {id:Nat} {ops:Array Oper}
theorem Yg (h:At P (Exit.then (y.wp P Q) Q) sz D L w x):At P Q sz D L w (.seq x y):=fun a ha=>wp_seq (h a ha)
theorem yF (h:yZ P sz D ops (fun L' w'=>At P Q sz D L' w' y) ops.toList L w):At P Q sz D L w (.seq (.region id ops false) y):=fun a ha=>wp_seq (wp_region_list (yaB (fun _ _ a hk ha=>hk a ha) h ha))
theorem at_r (h:yZ P sz D ops (fun L' w'=>∀ a,Has sz D L' a→Q .normal a w') ops.toList L w):At P Q sz D L w (.region id ops false):=fun a ha=>wp_region_list (yaB (fun _ _ a hk ha=>hk a ha) h ha)
theorem ybf (h:yZ P sz D ops (fun L' w'=>At P Q sz D L' w' y) ops.toList L w):At P (Exit.then (y.wp P Q) Q) sz D L w (.region id ops false):=at_r h
theorem QI (hc:kv L c=some (.bool true)) (h:At P Q sz D L w x):At P Q sz D L w (.cond c x y):=fun a ha=>wp_cond_true (ha.kv hc) (h a ha)
theorem Jt (hc:kv L c=some (.bool false)) (h:At P Q sz D L w y):At P Q sz D L w (.cond c x y):=fun a ha=>wp_cond_false (ha.kv hc) (h a ha)
theorem yaZ (h:∀ a,Has sz D L a→Q .normal a w):At P Q sz D L w .skip:=fun a ha=>wp_skip (h a ha)
theorem Jg (h:At P Q sz D L w y):At P (Exit.then (y.wp P Q) Q) sz D L w .skip:=fun a ha=>wp_skip (h a ha)
theorem YU (h:At P (Exit.inBlock id Q) sz D L w x):At P Q sz D L w (.block id x):=fun a ha=>wp_block (h a ha)
theorem yat (h:∀ a,Has sz D L a→Q (.exit id) a w):At P Q sz D L w (.exit id):=fun a ha=>wp_exit (h a ha)
theorem JA (h:∀ a,Has sz D L a→Q .ret a w):At P Q sz D L w .ret:=fun a ha=>wp_ret (h a ha)
theorem at_label {l:Nat} (h:∀ a,Has sz D L a→Q .normal a w):At P Q sz D L w (.label l):=fun a ha=>wp_label (h a ha)
theorem at_scope (h:At P (Exit.noGoto Q) sz D L w x):At P Q sz D L w (.scope x):=fun a ha=>wp_scope_straight (h a ha)
theorem at_sub {M:Kn} (hs:Sub L M) (h:At P Q sz D M w x):At P Q sz D L w x:=fun a ha=>h a (ha.sub hs)
theorem ybG (I:Nat→Kn→World→Prop) (n:Nat) {M:Kn} (hs:Sub L M) (h0:I n M w)
 (round:∀ n L w,I n L w→At P (Exit.then (fun a' w'=>∃ n' L',n'<n∧Has sz D L' a'∧I n' L' w') Q) sz D L w x):At P Q sz D L w (.loop x):=fun a ha=>
 wp_loop_ghost (fun n a w=>∃ L,Has sz D L a∧I n L w) n ⟨M,ha.sub hs,h0⟩ fun n a w ⟨L,hL,hI⟩=>by
  refine wp_mono (round n L w hI a hL) fun e a' w' hq=>?_
  cases e with
  | normal=>obtain ⟨n',L',hlt,hh,hi⟩:=hq;exact ⟨n',hlt,L',hh,hi⟩
  | _=>exact hq
end
section
variable {P:Program} {sz:Nat} {D:List Deferred} {L:Kn} {w w1:World} {ops:Array Oper} {K:Kn→World→Prop} {r:List Oper} {d:Nat} {op:Op} {ty:TypeId} {pos:String} {aft:Array Edge} {v:Value} {gd:Option (Nat × Bool)}
theorem yx (h:K L w):yZ P sz D ops K [] L w:=h
theorem rl_gof (hw:QG ops L ⟨some d,op,ty,pos,aft,gd⟩=some true) (hrun:∀ a,Has sz D L a→(execOp a.eval ⟨some d,op,ty,pos,aft,gd⟩).run P w=.ok (.value v) w1) (h:yZ P sz D ops K r ((d,v)::L) w1) (hd:d<sz:=by decide):yZ P sz D ops K (⟨some d,op,ty,pos,aft,gd⟩ :: r) L w:=
 .inl ⟨hw,d,v,w1,rfl,hd,hrun,h⟩
theorem YR (hrun:∀ a,Has sz D L a→(execOp a.eval ⟨some d,op,ty,pos,aft,none⟩).run P w=.ok (.value v) w1) (h:yZ P sz D ops K r ((d,v)::L) w1) (hd:d<sz:=by decide):yZ P sz D ops K (⟨some d,op,ty,pos,aft,none⟩ :: r) L w:=
 rl_gof rfl hrun h hd
theorem rl_st (hrun:∀ a,Has sz D L a→(execOp a.eval ⟨none,op,ty,pos,aft,none⟩).run P w=.ok .skip w1) (h:yZ P sz D ops K r L w1):yZ P sz D ops K (⟨none,op,ty,pos,aft,none⟩ :: r) L w:=
 .inr (.inl ⟨rfl,w1,rfl,hrun,h⟩)
theorem Ja (hw:QG ops L ⟨some d,op,ty,pos,aft,gd⟩=some false) (h:yZ P sz D ops K r ((d,undef)::L) w) (hd:d<sz:=by decide):yZ P sz D ops K (⟨some d,op,ty,pos,aft,gd⟩ :: r) L w:=
 .inr (.inr (.inl ⟨hw,d,rfl,hd,h⟩))
theorem rl_gcall {f:FuncId} {fn:Func} {ao:Array Operand} {ts:Array TypeId} {l:List Value} (hw:QG ops L ⟨some d,.call { callee:=.value (.func f),args:=ao,argTypes:=ts },ty,pos,aft,gd⟩=some true) (hf:P.funcs[f]?=some fn) (hname:(fn.name == "runtime.NumGoroutine")=false) (hb:fn.body.isSome=true) (hargs:kvs L ao.toList=some l)
 (h:Calls P f l.toArray w fun e w1=>∃ v,e=.returned v∧yZ P sz D ops K r ((d,v)::L) w1) (hd:d<sz:=by decide):yZ P sz D ops K (⟨some d,.call { callee:=.value (.func f),args:=ao,argTypes:=ts },ty,pos,aft,gd⟩ :: r) L w:=by
 refine .inr (.inr (.inr (.inl ⟨hw,d,f,l.toArray,rfl,hd,fun a ha=>?_,h⟩)))
 have he:=QX hf hname hb l.toArray w
 have ha':ao.map a.eval=l.toArray:=by
  have h1:=ha.kvs hargs
  apply Array.toList_inj.1
  rw [Array.toList_map,h1]
 unfold execOp
 simp [resolve,Deferred.ofValue,invoke,Act.eval,ha',he]
theorem YJ {f:FuncId} {fn:Func} {ao:Array Operand} {ts:Array TypeId} {l:List Value} (hf:P.funcs[f]?=some fn) (hname:(fn.name == "runtime.NumGoroutine")=false) (hb:fn.body.isSome=true) (hargs:kvs L ao.toList=some l)
 (h:Calls P f l.toArray w fun e w1=>∃ v,e=.returned v∧yZ P sz D ops K r ((d,v)::L) w1) (hd:d<sz:=by decide):yZ P sz D ops K (⟨some d,.call { callee:=.value (.func f),args:=ao,argTypes:=ts },ty,pos,aft,none⟩ :: r) L w:=rl_gcall rfl hf hname hb hargs h hd
theorem rl_callv {f:FuncId} {fn:Func} {x:Operand} {cap:Array Value} {ao:Array Operand} {ts:Array TypeId} {l:List Value} (hx:kv L x=some (.func (.func f) #[] cap)) (hf:P.funcs[f]?=some fn) (hname:(fn.name == "runtime.NumGoroutine")=false) (hb:fn.body.isSome=true) (hargs:kvs L ao.toList=some l)
 (h:Calls P f (l.toArray++cap) w fun e w1=>∃ v,e=.returned v∧yZ P sz D ops K r ((d,v)::L) w1) (hd:d<sz:=by decide):yZ P sz D ops K (⟨some d,.call { callee:=.value x,args:=ao,argTypes:=ts },ty,pos,aft,none⟩ :: r) L w:=by
 refine .inr (.inr (.inr (.inl ⟨rfl,d,f,l.toArray++cap,rfl,hd,fun a ha=>?_,h⟩)))
 have he:=QX hf hname hb (l.toArray++cap) w
 have hxe:=ha.kv hx
 have ha':ao.map a.eval=l.toArray:=by
  have h1:=ha.kvs hargs
  apply Array.toList_inj.1
  rw [Array.toList_map,h1]
 unfold execOp
 simp [resolve,Deferred.ofValue,invoke,hxe,ha',he]
end
theorem rl_append {P:Program} {sz:Nat} {D:List Deferred} {L:Kn} {w0 W:World} {ops:Array Oper} {K:Kn→World→Prop} {r:List Oper} {d:Nat} {ty:TypeId} {pos:String} {aft:Array Edge} {α:Type} (k:Kd α) (base:Nat) {s x:Nat} {t e:TypeId} (z:Value) (bytes:Nat)
 (ht:P.underlying t=some (.slice e)) (hinfo:(P.info? e).map (fun i=>(i.zero,i.size,i.bytes))=some (some z,k.sz,bytes)) (hz:z.cells.size=k.sz) (hs0:0<k.sz) (hb0:0<bytes)
 {v:Value} {xs:List α} (p:α) (cs:List Value) {ok:Nat→Prop} (okp:Nat→Prop) (hs:lkv L s=some v) (hx:lkv L x=some (.slice (some ⟨W.heap.size,0,none⟩) 1 1)) (hp:k.M W base okp p cs) (hokp:∀ k,okp k→ok k∧some k≠v.ownBlock) (hfresh:∀ k,W.heap.size≤k→ok k)
 (HO:k.R e W base ok v xs) (HB:Below base w0 W) (hbase:base≤W.heap.size) (hl:(xs.length+1) * bytes≤140737488355328)
 (h:∀ v1 w1,k.R e w1 base ok v1 (xs++[p])→Below base w0 w1→W.grownBy w1 v.ownBlock→(v1.ownBlock=v.ownBlock∨∃ b,v1.ownBlock=some b∧W.heap.size≤b)→yZ P sz D ops K r ((d,v1)::L) w1) (hd:d<sz:=by decide) :
 yZ P sz D ops K (⟨some d,.call { callee:=.builtin .append,args:=#[.tmp s,.tmp x],argTypes:=#[t,t] },ty,pos,aft,none⟩ :: r) L (W.alloc (.cells cs.toArray e)):=
 .inr (.inr (.inr (.inr ⟨d,rfl,hd,fun a ha K' Q hK=>Kd.Q6 k base (yb5 ha rfl) (.tmp s) (.tmp x) t e z bytes rfl ht hinfo hz hs0 hb0 v xs p cs ok okp (ha.at_ _ _ hs) (ha.at_ _ _ hx) hp hokp hfresh HO HB hbase hl (fun v1 w1 h1 h2 h3 h4=>hK _ _ (h v1 w1 h1 h2 h3 h4))⟩)))
section
variable {sz:Nat} {D:List Deferred} {L:Kn} {w w1:World} {ops:Array Oper} {K:Kn→World→Prop} {r:List Oper} {d:Nat} {ty:TypeId} {pos:String} {aft:Array Edge} {x y:Operand} {u v:Value}
theorem yR (hx:kv L x=some v) (h:yZ Tryz.prog sz D ops K r ((d,v)::L) w) (hd:d<sz:=by decide):yZ Tryz.prog sz D ops K (⟨some d,.move x,ty,pos,aft,none⟩ :: r) L w:=YR (fun a ha=>yV (ha.kv hx)) h hd
theorem Yb (hx:kv L x=some v) (h:yZ Tryz.prog sz D ops K r ((d,v)::L) w) (hd:d<sz:=by decide):yZ Tryz.prog sz D ops K (⟨some d,.assign x,ty,pos,aft,none⟩ :: r) L w:=YR (fun a ha=>YL (ha.kv hx)) h hd
theorem Jj {n:Nat} (hx:kv L x=some u) (hl:∀ w:World,(Instr.extract u n).run Tryz.prog w=.ok v w) (h:yZ Tryz.prog sz D ops K r ((d,v)::L) w) (hd:d<sz:=by decide):yZ Tryz.prog sz D ops K (⟨some d,.extract x n,ty,pos,aft,none⟩ :: r) L w:=YR (fun a ha=>JF (ha.kv hx) (hl _)) h hd
theorem r_fa {T f:Nat} {p:Value} (hx:kv L x=some p) (hf:∀ w:World,(Instr.fieldAt T p f).run Tryz.prog w=.ok v w) (h:yZ Tryz.prog sz D ops K r ((d,v)::L) w) (hd:d<sz:=by decide):yZ Tryz.prog sz D ops K (⟨some d,.fieldAddr T x f,ty,pos,aft,none⟩ :: r) L w:=YR (fun a ha=>yG (ha.kv hx) (hf _)) h hd
theorem r_ld {T:Nat} {p:Value} (hx:kv L x=some p) (hl:(Instr.loadAt T p).run Tryz.prog w=.ok v w) (h:yZ Tryz.prog sz D ops K r ((d,v)::L) w) (hd:d<sz:=by decide):yZ Tryz.prog sz D ops K (⟨some d,.load T x,ty,pos,aft,none⟩ :: r) L w:=YR (fun a ha=>run_load (ha.kv hx) hl) h hd
theorem Qt {T:Nat} {p:Value} (hx:kv L x=some p) (hy:kv L y=some u) (hl:(Instr.storeAt T p u).run Tryz.prog w=.ok () w1) (h:yZ Tryz.prog sz D ops K r L w1):yZ Tryz.prog sz D ops K (⟨none,.store T x y,ty,pos,aft,none⟩ :: r) L w:=rl_st (fun a ha=>run_store (ha.kv hx) (ha.kv hy) hl) h
theorem r_bin {T T':Nat} {op:BinOp} {res:Value} (hx:kv L x=some u) (hy:kv L y=some v) (hl:(do eqGuard op T x y u v;binOp op T u v:Sem Value).run Tryz.prog w=.ok res w) (h:yZ Tryz.prog sz D ops K r ((d,res)::L) w) (hd:d<sz:=by decide):yZ Tryz.prog sz D ops K (⟨some d,.binOp op T x y T',ty,pos,aft,none⟩ :: r) L w:=YR (fun a ha=>Y0 (ha.kv hx) (ha.kv hy) hl) h hd
theorem qX {j:Nat} {s:ByteArray} (hx:lkv L j=some (.string s)) (h:yZ Tryz.prog sz D ops K r ((d,.int .i64 s.size)::L) w) (hd:d<sz:=by decide):yZ Tryz.prog sz D ops K (⟨some d,.call { callee:=.builtin .len,args:=#[.tmp j],argTypes:=#[9] },ty,pos,aft,none⟩ :: r) L w:=YR (fun a ha=>Qu (ha.at_ _ _ hx)) h hd
theorem r_nck {p:Addr} (hx:kv L x=some (.pointer (some p))) (h:yZ Tryz.prog sz D ops K r ((d,.pointer (some p))::L) w) (hd:d<sz:=by decide):yZ Tryz.prog sz D ops K (⟨some d,.nilCheck x,ty,pos,aft,none⟩ :: r) L w:=YR (fun a ha=>Y4 (ha.kv hx)) h hd
end
def knOf:Nat→List Value→Kn
 | _,[]=>[]
 | i,v::r=>(i,v)::knOf (i+1) r
theorem lk_kn:∀ (l:List Value) (i j:Nat) (v:Value),lkv (knOf i l) j=some v→i≤j∧l[j - i]?=some v
 | [],i,j,v,h=>by cases h
 | u::r,i,j,v,h=>by
  simp only [knOf,lkv] at h
  cases hb:Nat.beq j i with
  | true=>
   obtain rfl:=Nat.eq_of_beq_eq_true hb
   rw [hb] at h
   simp only [cond_true] at h
   exact ⟨Nat.le_refl _,by simpa using h⟩
  | false=>
   rw [hb] at h
   simp only [cond_false] at h
   obtain ⟨h1,h2⟩:=lk_kn r (i+1) j v h
   refine ⟨by omega,?_⟩
   rw [show j - i=(j - (i+1))+1 by omega]
   simpa using h2
theorem YS {P:Program} {f:FuncId} {fn:Func} {c:Code} {args:Array Value} {w:World} {R:Ending→World→Prop} (sz:Nat) (hf:P.funcs[f]?=some fn) (hb:fn.body=some c) (hn:fn.ntmps=sz) (hs:args.size≤sz)
 (h:At P (bodyPost P fn R) sz [] (knOf 0 args.toList) w c):Calls P f args w R:=by
 refine calls_of_wp hf hb (h _ ⟨?_,rfl,fun j v hj=>?_⟩)
 · simp [hn];omega
 · obtain ⟨_,h2⟩:=lk_kn _ _ _ _ hj
   have h3:args[j]?=some v:=by simpa using h2
   have hj2:j<args.size:=by
    by_cases hlt:j<args.size
    · exact hlt
    · rw [Array.getElem?_eq_none Zo] at h3;cases h3
   show (args++Array.replicate (fn.ntmps - args.size) undef).getD j undef=v
   rw [Array.getD_eq_getD_getElem?,Array.getElem?_append_left hj2,h3]
   rfl
def resK (L:Kn):List ResultVar→Option (List Value)
 | []=>some []
 | .tmp u::rs=>match lkv L u with
  | some v=>match resK L rs with
   | some vs=>some (v::vs)
   | none=>none
  | none=>none
 | _::_=>none
def tupK:List Value→Value
 | [v]=>v
 | vs=>.tuple vs.toArray
theorem resK_vals {P:Program} {a:Act} {sz:Nat} {D:List Deferred} {L:Kn} {w:World} (ha:Has sz D L a):∀ (rs:List ResultVar) (vs:List Value),resK L rs=some vs→Vals P a.tmps w rs vs
 | [],vs,h=>by simp only [resK,Option.some.injEq] at h;subst h;exact .nil
 | .tmp u::rs,vs,h=>by
  simp only [resK] at h
  cases h0:lkv L u with
  | none=>rw [h0] at h;cases h
  | some v=>
   rw [h0] at h
   cases h1:resK L rs with
   | none=>rw [h1] at h;cases h
   | some vs1=>
    rw [h1] at h
    simp only [Option.some.injEq] at h
    subst h
    have:a.tmps.getD u undef=v:=ha.at_ u v h0
    rw [← this]
    exact .tmp (resK_vals ha rs vs1 h1)
 | .cell p t::rs,vs,h=>by simp [resK] at h
theorem J2 {P:Program} {fn:Func} {a:Act} {sz:Nat} {L:Kn} {w:World} {R:Ending→World→Prop} {vs:List Value} (hr:resK L fn.results.toList=some vs) (hR:R (.returned (tupK vs)) w):Has sz [] L a→bodyPost P fn R .ret a w:=fun ha=>by
 have hv:=resK_vals (P:=P) (w:=w) ha _ _ hr
 refine bodyPost_ret ?_ ha.defers hR
 match vs,hv with
 | [v],hv=>
  have h1:fn.results.toList.length=1:=by
   generalize fn.results.toList=rs at hv
   cases hv with
   | tmp h=>cases h;rfl
   | cell _ _ _ _ _ _ _ _ _ _ h=>cases h;rfl
  obtain ⟨r,hr1⟩:=List.length_eq_one_iff.1 h1
  rw [hr1] at hv
  exact yaU (by rw [← Array.toArray_toList (xs:=fn.results),hr1]) hv
 | [],hv=>exact qb (rs:=fn.results.toList) (by simp) (by simp) hv
 | v::u::r,hv=>exact qb (rs:=fn.results.toList) (by simp) (by simp) hv
end Go.Proofs.YtlmennkeggmdbaaGreatDoor
