/- Part 13 of 34 of the proof of the tied card of FnNetstatRead. -/
import Derived.Test.YtlmennkeggmdbaaGreatDoorVz
import Derived.Test.YtlmennkeggmdbaaGreatDoorV12
import Derived.Test.YtlmennkeggmdbaaGreatDoorV3
import Derived.Laws.BitsLemmas
set_option linter.unusedVariables false
set_option linter.unusedSimpArgs false
namespace Go.Proofs.YtlmennkeggmdbaaGreatDoor
open Go.RowKit Go.Proofs.YtlmennkeggmdbaaGreatDoorW.PrintWords Go.Proofs.YtlmennkeggmdbaaGreatDoorW.PrintLast Go.Proofs.YtlmennkeggmdbaaGreatDoorW.PrintMore
def qJ (sz:Nat):Code→Bool
 | .region _ ops _=>ops.toList.all fun o=>dstOk sz o.dst
 | .seq x y=>qJ sz x && qJ sz y
 | .cond _ x y=>qJ sz x && qJ sz y
 | .block _ x=>qJ sz x
 | .loop x=>qJ sz x
 | .scope x=>qJ sz x
 | _=>true
theorem evC_ok {P:Program} {call:CallE} (hcall:CallOk P call) {sz:Nat} :
 ∀ (n:Nat) (c:Code) (E:Env) (w:World) (O:List Value) (e:Exit) (E':Env) (w':World) (O':List Value) (L:Log),qJ sz c=true→evC P call sz n c E w O=some ((e,E'),w',O',L)→Q4 P L→∀ a,RepE sz E a→∀ Q:Exit→Act→World→Prop,(∀ a',RepE sz E' a'→a'.defers=a.defers→Q e a' w')→c.wp P Q a w:=by
 intro n
 induction n using Nat.strongRecOn with
 | _ n ih=>
 intro c E w O e E' w' O' L hs h hL a hr Q hQ
 cases n with
 | zero=>simp [evC] at h
 | succ n=>
 have ih':=fun (c:Code)=>ih n (Nat.lt_succ_self n) c
 cases c with
 | skip=>
  simp only [evC,Option.some.injEq,Prod.mk.injEq] at h
  obtain ⟨⟨rfl,rfl⟩,rfl,rfl,rfl⟩:=h
  exact wp_skip (hQ a hr rfl)
 | region id ops draw=>
  simp only [evC] at h
  cases draw with
  | true=>cases h
  | false=>
   simp only [cond_false] at h
   cases ho:ybN P call sz ops ops.toList E w O with
   | none=>rw [ho] at h;cases h
   | some p=>
    obtain ⟨E1,w1,O1,L1⟩:=p
    rw [ho] at h
    simp only [Option.some.injEq,Prod.mk.injEq] at h
    obtain ⟨⟨rfl,rfl⟩,rfl,rfl,rfl⟩:=h
    refine wp_region_list (yaP hcall ?_ _ _ _ _ _ _ _ _ ho hL a hr hQ)
    intro oj hoj
    exact List.all_eq_true.1 hs oj hoj
 | seq x y=>
  simp only [qJ,Bool.and_eq_true] at hs
  simp only [evC] at h
  refine wp_seq ?_
  cases hx:evC P call sz n x E w O with
  | none=>rw [hx] at h;cases h
  | some p=>
   obtain ⟨⟨e1,E1⟩,w1,O1,L1⟩:=p
   rw [hx] at h
   cases e1 with
   | normal=>
    obtain ⟨M,hy,rfl⟩:=yaY h
    obtain ⟨h1,h2⟩:=ybu hL
    exact ih' x E w O _ E1 w1 O1 L1 hs.1 hx h1 a hr _ (fun a1 hr1 hd1=>ih' y E1 w1 O1 e E' w' O' M hs.2 hy h2 a1 hr1 Q (fun a' hr' hd'=>hQ a' hr' (hd'.trans hd1)))
   | _=>
    simp only [Option.some.injEq,Prod.mk.injEq] at h
    obtain ⟨⟨rfl,rfl⟩,rfl,rfl,rfl⟩:=h
    exact ih' x E w O _ E1 w1 O1 L1 hs.1 hx hL a hr _ (fun a1 hr1 hd1=>hQ a1 hr1 hd1)
 | cond c x y=>
  simp only [qJ,Bool.and_eq_true] at hs
  simp only [evC] at h
  rw [← hr.eval] at h
  cases hc:a.eval c with
  | bool b=>
   rw [hc] at h
   cases b with
   | true=>exact wp_cond_true hc (ih' x E w O e E' w' O' L hs.1 h hL a hr Q hQ)
   | false=>exact wp_cond_false hc (ih' y E w O e E' w' O' L hs.2 h hL a hr Q hQ)
  | _=>rw [hc] at h;cases h
 | block id x=>
  simp only [evC] at h
  refine wp_block ?_
  cases hx:evC P call sz n x E w O with
  | none=>rw [hx] at h;cases h
  | some p=>
   obtain ⟨⟨e1,E1⟩,w1,O1,L1⟩:=p
   rw [hx] at h
   cases e1 with
   | exit id'=>
    simp only at h
    cases hb:Nat.beq id' id with
    | true=>
     rw [hb] at h
     simp only [cond_true,Option.some.injEq,Prod.mk.injEq] at h
     obtain ⟨⟨rfl,rfl⟩,rfl,rfl,rfl⟩:=h
     refine ih' x E w O _ E1 w1 O1 L1 hs hx hL a hr _ (fun a1 hr1 hd1=>?_)
     simp only [Exit.inBlock]
     rw [if_pos (Nat.eq_of_beq_eq_true hb)]
     exact hQ a1 hr1 hd1
    | false=>
     rw [hb] at h
     simp only [cond_false,Option.some.injEq,Prod.mk.injEq] at h
     obtain ⟨⟨rfl,rfl⟩,rfl,rfl,rfl⟩:=h
     refine ih' x E w O _ E1 w1 O1 L1 hs hx hL a hr _ (fun a1 hr1 hd1=>?_)
     simp only [Exit.inBlock]
     rw [if_neg (fun e=>by subst e;rw [Nat.beq_refl] at hb;cases hb)]
     exact hQ a1 hr1 hd1
   | _=>
    simp only [Option.some.injEq,Prod.mk.injEq] at h
    obtain ⟨⟨rfl,rfl⟩,rfl,rfl,rfl⟩:=h
    exact ih' x E w O _ E1 w1 O1 L1 hs hx hL a hr _ (fun a1 hr1 hd1=>hQ a1 hr1 hd1)
 | loop x=>
  refine wp_loop_ghost (fun m a' w1=>∃ E1 O1 L1,m≤n+1∧RepE sz E1 a'∧a'.defers=a.defers∧Q4 P L1∧evC P call sz m (.loop x) E1 w1 O1=some ((e,E'),w',O',L1)) (n+1) ⟨E,O,L,Nat.le_refl _,hr,rfl,hL,h⟩ ?_
  rintro m a1 w1 ⟨E1,O1,L1,hm,hr1,hd1,hL1,h1⟩
  cases m with
  | zero=>simp [evC] at h1
  | succ m=>
   simp only [evC] at h1
   cases hx:evC P call sz m x E1 w1 O1 with
   | none=>rw [hx] at h1;cases h1
   | some p=>
    obtain ⟨⟨e2,E2⟩,w2,O2,L2⟩:=p
    rw [hx] at h1
    cases e2 with
    | normal=>
     obtain ⟨M,hy,rfl⟩:=yaY h1
     obtain ⟨k1,k2⟩:=ybu hL1
     exact ih m Zo x E1 w1 O1 _ E2 w2 O2 L2 hs hx k1 a1 hr1 _ (fun a2 hr2 hd2=>⟨m,by omega,E2,O2,M,by omega,hr2,hd2.trans hd1,k2,hy⟩)
    | _=>
     simp only [Option.some.injEq,Prod.mk.injEq] at h1
     obtain ⟨⟨rfl,rfl⟩,rfl,rfl,rfl⟩:=h1
     exact ih m Zo x E1 w1 O1 _ E2 w2 O2 L2 hs hx hL1 a1 hr1 _ (fun a2 hr2 hd2=>hQ a2 hr2 (hd2.trans hd1))
 | exit id=>
  simp only [evC,Option.some.injEq,Prod.mk.injEq] at h
  obtain ⟨⟨rfl,rfl⟩,rfl,rfl,rfl⟩:=h
  exact wp_exit (hQ a hr rfl)
 | scope x=>
  simp only [evC] at h
  refine wp_scope_straight ?_
  cases hx:evC P call sz n x E w O with
  | none=>rw [hx] at h;cases h
  | some p=>
   obtain ⟨⟨e1,E1⟩,w1,O1,L1⟩:=p
   rw [hx] at h
   cases e1 with
   | goto l=>cases h
   | _=>
    simp only [Option.some.injEq,Prod.mk.injEq] at h
    obtain ⟨⟨rfl,rfl⟩,rfl,rfl,rfl⟩:=h
    exact ih' x E w O _ E1 w1 O1 L1 hs hx hL a hr _ (fun a1 hr1 hd1=>hQ a1 hr1 hd1)
 | label l=>
  simp only [evC,Option.some.injEq,Prod.mk.injEq] at h
  obtain ⟨⟨rfl,rfl⟩,rfl,rfl,rfl⟩:=h
  exact wp_label (hQ a hr rfl)
 | goto l=>
  simp only [evC,Option.some.injEq,Prod.mk.injEq] at h
  obtain ⟨⟨rfl,rfl⟩,rfl,rfl,rfl⟩:=h
  exact wp_goto (hQ a hr rfl)
 | ret=>
  simp only [evC,Option.some.injEq,Prod.mk.injEq] at h
  obtain ⟨⟨rfl,rfl⟩,rfl,rfl,rfl⟩:=h
  exact wp_ret (hQ a hr rfl)
 | rangeFunc f ps asg body=>simp [evC] at h
 | _=>simp [evC] at h
end Go.Proofs.YtlmennkeggmdbaaGreatDoor
namespace Go.Proofs.YtlmennkeggmdbaaGreatDoor
open Go.RowKit Go.Proofs.YtlmennkeggmdbaaGreatDoorW.PrintWords Go.Proofs.YtlmennkeggmdbaaGreatDoorW.PrintLast Go.Proofs.YtlmennkeggmdbaaGreatDoorW.PrintMore
def envOf:Nat→List Value→Env
 | _,[]=>[]
 | i,v::r=>(i,v)::envOf (i+1) r
def resE:List ResultVar→Env→Option (List Value)
 | [],_=>some []
 | .tmp u::rs,E=>match resE rs E with
  | some vs=>some (lk E u::vs)
  | none=>none
 | _::_,_=>none
def tup:List Value→Value
 | [v]=>v
 | vs=>.tuple vs.toArray
def ycc (P:Program) (fuel:Nat):Nat→CallE
 | 0,_,_,_,_=>none
 | d+1,f,args,w,O=>match P.funcs[f]? with
  | some fn=>match fn.body with
   | some c=>bif qJ fn.ntmps c && Nat.ble args.size fn.ntmps then
    match evC P (ycc P fuel d) fn.ntmps fuel c (envOf 0 args.toList) w O with
    | some ((.ret,E),w',O',L)=>match resE fn.results.toList E with
     | some vs=>some (tup vs,w',O',L)
     | none=>none
    | some ((.normal,E),w',O',L)=>match resE fn.results.toList E with
     | some vs=>some (tup vs,w',O',L)
     | none=>none
    | _=>none
    else none
   | none=>none
  | none=>none
theorem lk_env:∀ (l:List Value) (i j:Nat),lk (envOf i l) j=if i≤j then l.getD (j - i) undef else undef
 | [],i,j=>by simp [envOf,lk]
 | v::r,i,j=>by
  simp only [envOf,lk]
  rw [lk_env r (i+1) j]
  by_cases e:j=i
  · subst e;simp
  · have hb:Nat.beq j i=false:=by
     cases hb:Nat.beq j i with
     | false=>rfl
     | true=>exact absurd (Nat.eq_of_beq_eq_true hb) e
    rw [hb]
    simp only [cond_false]
    by_cases h:i+1≤j
    · rw [if_pos h,if_pos Zo]
      obtain ⟨k,rfl⟩:∃ k,j=i+1+k:=⟨j - (i+1),by omega⟩
      rw [show i+1+k - (i+1)=k by omega,show i+1+k - i=k+1 by omega]
      simp
    · rw [if_neg h,if_neg Zo]
theorem ydi {args:Array Value} {sz:Nat} (h:args.size≤sz):RepE sz (envOf 0 args.toList) { tmps:=args++Array.replicate (sz - args.size) undef,defers:=[] }:=by
 refine ⟨by simp;omega,fun j=>?_⟩
 rw [lk_env]
 show (args++Array.replicate (sz - args.size) undef).getD j undef=_
 simp only [Nat.zero_le,if_true,Nat.sub_zero,Array.getD_eq_getD_getElem?,List.getD_eq_getElem?_getD,Array.getElem?_toList]
 by_cases hj:j<args.size
 · rw [Array.getElem?_append_left hj]
 · rw [Array.getElem?_append_right Zo]
   have:args[j]?=none:=by simp;omega
   rw [this]
   by_cases hk:j - args.size<sz - args.size
   · simp [hk]
   · simp [hk]
theorem resE_vals {P:Program} {a:Act} {sz:Nat} {E:Env} {w:World} (hr:RepE sz E a):∀ (rs:List ResultVar) (vs:List Value),resE rs E=some vs→Vals P a.tmps w rs vs
 | [],vs,h=>by simp only [resE,Option.some.injEq] at h;subst h;exact .nil
 | .tmp u::rs,vs,h=>by
  simp only [resE] at h
  cases h1:resE rs E with
  | none=>rw [h1] at h;cases h
  | some vs1=>
   rw [h1] at h
   simp only [Option.some.injEq] at h
   subst h
   have:=hr.at_ u
   rw [← this]
   exact .tmp (resE_vals hr rs vs1 h1)
 | .cell p t::rs,vs,h=>by simp [resE] at h
theorem tup_run {P:Program} {fn:Func} {a:Act} {sz:Nat} {E:Env} {w:World} (hr:RepE sz E a) {vs:List Value} (h:resE fn.results.toList E=some vs):(results fn a.tmps).run P w=.ok (tup vs) w:=by
 have hv:=resE_vals (P:=P) (w:=w) hr _ _ h
 match vs,hv with
 | [v],hv=>
  have h1:fn.results.toList.length=1:=by
   generalize fn.results.toList=rs at hv
   cases hv with
   | tmp h=>cases h;rfl
   | cell _ _ _ _ _ _ _ _ _ _ h=>cases h;rfl
  obtain ⟨r,hr1⟩:=List.length_eq_one_iff.1 h1
  rw [hr1] at hv
  exact yaU (by rw [← Array.toArray_toList (xs:=fn.results),hr1]) hv
 | [],hv=>exact qb (rs:=fn.results.toList) (by simp) (by simp) hv
 | v::u::r,hv=>exact qb (rs:=fn.results.toList) (by simp) (by simp) hv
theorem ycd {P:Program} {fuel:Nat}:∀ (d:Nat),CallOk P (ycc P fuel d)
 | 0,f,args,w,O,v,w',O',L,h,hL=>by simp [ycc] at h
 | d+1,f,args,w,O,v,w',O',L,h,hL=>by
  simp only [ycc] at h
  cases hf:P.funcs[f]? with
  | none=>rw [hf] at h;cases h
  | some fn=>
   rw [hf] at h
   simp only at h
   cases hb:fn.body with
   | none=>rw [hb] at h;cases h
   | some c=>
    rw [hb] at h
    simp only at h
    cases hs:qJ fn.ntmps c && Nat.ble args.size fn.ntmps with
    | false=>rw [hs] at h;cases h
    | true=>
     rw [hs] at h
     simp only [cond_true] at h
     rw [Bool.and_eq_true] at hs
     refine calls_of_wp hf hb ?_
     cases hx:evC P (ycc P fuel d) fn.ntmps fuel c (envOf 0 args.toList) w O with
     | none=>rw [hx] at h;cases h
     | some p=>
      obtain ⟨⟨e,E⟩,w1,O1,L1⟩:=p
      rw [hx] at h
      cases e with
      | ret=>
       simp only at h
       cases hv:resE fn.results.toList E with
       | none=>rw [hv] at h;cases h
       | some vs=>
        rw [hv] at h
        simp only [Option.some.injEq,Prod.mk.injEq] at h
        obtain ⟨rfl,rfl,rfl,rfl⟩:=h
        exact evC_ok (ycd d) fuel c _ w O _ E w1 O1 L1 hs.1 hx hL _ (ydi (Nat.le_of_ble_eq_true hs.2)) _ (fun a' hr hd=>bodyPost_ret (tup_run hr hv) hd ⟨rfl,rfl⟩)
      | normal=>
       simp only at h
       cases hv:resE fn.results.toList E with
       | none=>rw [hv] at h;cases h
       | some vs=>
        rw [hv] at h
        simp only [Option.some.injEq,Prod.mk.injEq] at h
        obtain ⟨rfl,rfl,rfl,rfl⟩:=h
        exact evC_ok (ycd d) fuel c _ w O _ E w1 O1 L1 hs.1 hx hL _ (ydi (Nat.le_of_ble_eq_true hs.2)) _ (fun a' hr hd=>⟨hd,_,tup_run hr hv,⟨rfl,rfl⟩⟩)
      | _=>cases h
theorem ybJ {P:Program} {f:FuncId} {args:Array Value} {w:World} {v:Value} (fuel d:Nat) (O:List Value) (L:Log) (h:ycc P fuel d f args w O=some (v,w,[],L)) (hL:Q4 P L):Calls P f args w fun e w'=>e=.returned v∧w'=w:=ycd d f args w O v w [] L h hL
end Go.Proofs.YtlmennkeggmdbaaGreatDoor
namespace Go.Proofs.YtlmennkeggmdbaaGreatDoor
set_option maxRecDepth 100000
structure qs (w:World) (tb:Addr) (c:Nat):Prop where
 opt:(Instr.loadAt 4 (.pointer (some ⟨6,0,none⟩))).run Tryz.prog w=.ok (.bool true) w
 info:(Instr.loadAt 157 (.pointer (some ⟨7,0,none⟩))).run Tryz.prog w=.ok (.int .u64 52) w
 pow:(Instr.loadAt 126 (.pointer (some ⟨10,0,none⟩))).run Tryz.prog w=.ok (.slice (some tb) 23 c) w
 hi:(Instr.loadAt 30 (.pointer (some ⟨11,696,none⟩))).run Tryz.prog w=.ok (.int .u64 9223372036854775808) w
 lo:(Instr.loadAt 30 (.pointer (some ⟨11,697,none⟩))).run Tryz.prog w=.ok (.int .u64 0) w
 p1:(Instr.loadAt 31 (.pointer (some ⟨tb.block,tb.off+1,none⟩))).run Tryz.prog w=.ok (.float .f64 4621819117588971520) w
 p2:(Instr.loadAt 31 (.pointer (some ⟨tb.block,tb.off+2,none⟩))).run Tryz.prog w=.ok (.float .f64 4636737291354636288) w
theorem parseFloat_5 (w:World) (tb:Addr) (c:Nat) (h:qs w tb c):Calls Tryz.prog 59 #[.string ⟨#[48,46,53]⟩,.int .i64 64] w fun e w'=>e=.returned (.tuple #[.float .f64 4602678819172646912,.nilIface])∧w'=w:=
 ybJ 200 7 [.bool true,.int .u64 52,.slice (some tb) 23 c,.float .f64 4621819117588971520] [(4,.pointer (some ⟨6,0,none⟩),.bool true,w),(157,.pointer (some ⟨7,0,none⟩),.int .u64 52,w),(126,.pointer (some ⟨10,0,none⟩),.slice (some tb) 23 c,w),(31,.pointer (some ⟨tb.block,tb.off+1,none⟩),.float .f64 4621819117588971520,w)] Zk
  (fun x hx=>by
   simp only [List.mem_cons,List.not_mem_nil,or_false] at hx
   rcases hx with rfl|rfl|rfl|rfl
   · exact h.opt
   · exact h.info
   · exact h.pow
   · exact h.p1)
theorem parseFloat_0 (w:World) (tb:Addr) (c:Nat) (h:qs w tb c):Calls Tryz.prog 59 #[.string ⟨#[48]⟩,.int .i64 64] w fun e w'=>e=.returned (.tuple #[.float .f64 0,.nilIface])∧w'=w:=
 ybJ 200 7 [.bool true] [(4,.pointer (some ⟨6,0,none⟩),.bool true,w)] Zk
  (fun x hx=>by
   simp only [List.mem_cons,List.not_mem_nil,or_false] at hx
   subst hx
   exact h.opt)
theorem ydH (w:World) (tb:Addr) (c:Nat) (h:qs w tb c):Calls Tryz.prog 59 #[.string ⟨#[48,46,50,53]⟩,.int .i64 64] w fun e w'=>e=.returned (.tuple #[.float .f64 4598175219545276416,.nilIface])∧w'=w:=
 ybJ 200 7 [.bool true,.int .u64 52,.slice (some tb) 23 c,.float .f64 4636737291354636288] [(4,.pointer (some ⟨6,0,none⟩),.bool true,w),(157,.pointer (some ⟨7,0,none⟩),.int .u64 52,w),(126,.pointer (some ⟨10,0,none⟩),.slice (some tb) 23 c,w),(31,.pointer (some ⟨tb.block,tb.off+2,none⟩),.float .f64 4636737291354636288,w)] Zk
  (fun x hx=>by
   simp only [List.mem_cons,List.not_mem_nil,or_false] at hx
   rcases hx with rfl|rfl|rfl|rfl
   · exact h.opt
   · exact h.info
   · exact h.pow
   · exact h.p2)
theorem ydI (w:World) (tb:Addr) (c:Nat) (h:qs w tb c):Calls Tryz.prog 59 #[.string ⟨#[48,46,55,53]⟩,.int .i64 64] w fun e w'=>e=.returned (.tuple #[.float .f64 4604930618986332160,.nilIface])∧w'=w:=
 ybJ 200 7 [.bool true,.int .u64 52,.slice (some tb) 23 c,.float .f64 4636737291354636288] [(4,.pointer (some ⟨6,0,none⟩),.bool true,w),(157,.pointer (some ⟨7,0,none⟩),.int .u64 52,w),(126,.pointer (some ⟨10,0,none⟩),.slice (some tb) 23 c,w),(31,.pointer (some ⟨tb.block,tb.off+2,none⟩),.float .f64 4636737291354636288,w)] Zk
  (fun x hx=>by
   simp only [List.mem_cons,List.not_mem_nil,or_false] at hx
   rcases hx with rfl|rfl|rfl|rfl
   · exact h.opt
   · exact h.info
   · exact h.pow
   · exact h.p2)
end Go.Proofs.YtlmennkeggmdbaaGreatDoor
namespace Go.Proofs.YtlmennkeggmdbaaGreatDoor
open Go.RowKit Go.Proofs.YtlmennkeggmdbaaGreatDoorW.PrintWords Go.Proofs.YtlmennkeggmdbaaGreatDoorW.PrintLast Go.Proofs.YtlmennkeggmdbaaGreatDoorW.PrintMore
attribute [local go_sem] Yt Yp YE YB Yj Yk Yu Yv
def qo.f (a0:Int) (a1:Int):Option (Int × Int):=some (IntKind.u64.wrap ((IntKind.u64.wrap ((IntKind.u64.wrap ((a0 / 4294967296) * (a1 / 4294967296)))+((IntKind.u64.wrap ((IntKind.u64.wrap ((a0 / 4294967296) * (Go.bits .and .u64 a1 4294967295)))+((IntKind.u64.wrap ((Go.bits .and .u64 a0 4294967295) * (Go.bits .and .u64 a1 4294967295))) / 4294967296))) / 4294967296)))+((IntKind.u64.wrap ((Go.bits .and .u64 (IntKind.u64.wrap ((IntKind.u64.wrap ((a0 / 4294967296) * (Go.bits .and .u64 a1 4294967295)))+((IntKind.u64.wrap ((Go.bits .and .u64 a0 4294967295) * (Go.bits .and .u64 a1 4294967295))) / 4294967296))) 4294967295)+(IntKind.u64.wrap ((Go.bits .and .u64 a0 4294967295) * (a1 / 4294967296))))) / 4294967296)),IntKind.u64.wrap (a0 * a1))
set_option maxHeartbeats 8000000 in
set_option maxRecDepth 100000 in
theorem qo.calls (a0:Int) (a1:Int) (r1:Int) (r2:Int) (w:World) (h:qo.f a0 a1=some (r1,r2)) :
 Calls Tryz.prog 260 #[.int .u64 a0,.int .u64 a1] w fun e w'=>e=.returned (.tuple #[.int .u64 r1,.int .u64 r2])∧yD w w':=by
 have H:(some (IntKind.u64.wrap ((IntKind.u64.wrap ((IntKind.u64.wrap ((a0 / 4294967296) * (a1 / 4294967296)))+((IntKind.u64.wrap ((IntKind.u64.wrap ((a0 / 4294967296) * (Go.bits .and .u64 a1 4294967295)))+((IntKind.u64.wrap ((Go.bits .and .u64 a0 4294967295) * (Go.bits .and .u64 a1 4294967295))) / 4294967296))) / 4294967296)))+((IntKind.u64.wrap ((Go.bits .and .u64 (IntKind.u64.wrap ((IntKind.u64.wrap ((a0 / 4294967296) * (Go.bits .and .u64 a1 4294967295)))+((IntKind.u64.wrap ((Go.bits .and .u64 a0 4294967295) * (Go.bits .and .u64 a1 4294967295))) / 4294967296))) 4294967295)+(IntKind.u64.wrap ((Go.bits .and .u64 a0 4294967295) * (a1 / 4294967296))))) / 4294967296)),IntKind.u64.wrap (a0 * a1)))=some (r1,r2):=h
 clear h
 simp only [Option.some.injEq,Prod.mk.injEq] at H
 obtain ⟨rfl,rfl⟩:=H
 go_enter Tryz.func260,Tryz.ntmps260
 go_wp2
 go_ret2
 exact ⟨by first|rfl|(simp;done)|(simp [*];done)|(simp [yn];done),by repeat (first|exact yD.refl _|apply yD.step)⟩
end Go.Proofs.YtlmennkeggmdbaaGreatDoor
namespace Go.Proofs.YtlmennkeggmdbaaGreatDoor
open Go.RowKit Go.Proofs.YtlmennkeggmdbaaGreatDoorW.PrintWords Go.Proofs.YtlmennkeggmdbaaGreatDoorW.PrintLast Go.Proofs.YtlmennkeggmdbaaGreatDoorW.PrintMore
attribute [local go_sem] Yt Yp YE YB Yj Yk Yu Yv
def JX.f (a0:Bool):Option (Int):=if a0=true then (some 1) else (some 0)
set_option maxHeartbeats 8000000 in
set_option maxRecDepth 100000 in
theorem JX.calls (a0:Bool) (r:Int) (w:World) (h:JX.f a0=some r) :
 Calls Tryz.prog 236 #[.bool a0] w fun e w'=>e=.returned (.int .u64 r)∧yD w w':=by
 have H:(if a0=true then (some 1) else (some 0))=some r:=h
 clear h
 by_cases c2:a0=true
 · subst c2
   have H1:(some 1)=some r:=by rw [if_pos rfl] at H;exact H
   clear H
   have H:=H1
   clear H1
   obtain rfl:=Option.some.inj H
   go_enter Tryz.func236,Tryz.ntmps236
   go_wp2
   go_ret
   exact ⟨by first|rfl|(simp;done)|(simp [*];done)|(simp [yn];done),by repeat (first|exact yD.refl _|apply yD.step)⟩
 · replace c2:=Bool.eq_false_iff.mpr c2
   subst c2
   have H1:(some 0)=some r:=by rw [if_neg (show ¬ (false=true) by decide)] at H;exact H
   clear H
   have H:=H1
   clear H1
   obtain rfl:=Option.some.inj H
   go_enter Tryz.func236,Tryz.ntmps236
   go_wp2
   go_ret
   exact ⟨by first|rfl|(simp;done)|(simp [*];done)|(simp [yn];done),by repeat (first|exact yD.refl _|apply yD.step)⟩
end Go.Proofs.YtlmennkeggmdbaaGreatDoor
namespace Go.Proofs.YtlmennkeggmdbaaGreatDoor
open Go.RowKit Go.Proofs.YtlmennkeggmdbaaGreatDoorW.PrintWords Go.Proofs.YtlmennkeggmdbaaGreatDoorW.PrintLast Go.Proofs.YtlmennkeggmdbaaGreatDoorW.PrintMore
attribute [local go_sem] Yt Yp YE YB Yj Yk Yu Yv
def Qb.f (a0:Bool):Option (Int):=if a0=true then (some 1) else (some 0)
set_option maxHeartbeats 8000000 in
set_option maxRecDepth 100000 in
theorem Qb.calls (a0:Bool) (r:Int) (w:World) (h:Qb.f a0=some r) :
 Calls Tryz.prog 252 #[.bool a0] w fun e w'=>e=.returned (.int .i64 r)∧yD w w':=by
 have H:(if a0=true then (some 1) else (some 0))=some r:=h
 clear h
 by_cases c2:a0=true
 · subst c2
   have H1:(some 1)=some r:=by rw [if_pos rfl] at H;exact H
   clear H
   have H:=H1
   clear H1
   obtain rfl:=Option.some.inj H
   go_enter Tryz.func252,Tryz.ntmps252
   go_wp2
   go_ret
   exact ⟨by first|rfl|(simp;done)|(simp [*];done)|(simp [yn];done),by repeat (first|exact yD.refl _|apply yD.step)⟩
 · replace c2:=Bool.eq_false_iff.mpr c2
   subst c2
   have H1:(some 0)=some r:=by rw [if_neg (show ¬ (false=true) by decide)] at H;exact H
   clear H
   have H:=H1
   clear H1
   obtain rfl:=Option.some.inj H
   go_enter Tryz.func252,Tryz.ntmps252
   go_wp2
   go_ret
   exact ⟨by first|rfl|(simp;done)|(simp [*];done)|(simp [yn];done),by repeat (first|exact yD.refl _|apply yD.step)⟩
end Go.Proofs.YtlmennkeggmdbaaGreatDoor
namespace Go.Proofs.YtlmennkeggmdbaaGreatDoor
open Go.RowKit Go.Proofs.YtlmennkeggmdbaaGreatDoorW.PrintWords Go.Proofs.YtlmennkeggmdbaaGreatDoorW.PrintLast Go.Proofs.YtlmennkeggmdbaaGreatDoorW.PrintMore
attribute [local go_sem] Yt Yp YE YB Yj Yk Yu Yv
def Qo.f (a0:Int):Option (Int):=some (IntKind.u64.wrap ((IntKind.u64.wrap (a0 * 4)) - 2))
set_option maxHeartbeats 8000000 in
set_option maxRecDepth 100000 in
theorem Qo.calls (a0:Int) (r:Int) (w:World) (h:Qo.f a0=some r) :
 Calls Tryz.prog 253 #[.int .u64 a0] w fun e w'=>e=.returned (.int .u64 r)∧yD w w':=by
 have H:(some (IntKind.u64.wrap ((IntKind.u64.wrap (a0 * 4)) - 2)))=some r:=h
 clear h
 obtain rfl:=Option.some.inj H
 go_enter Tryz.func253,Tryz.ntmps253
 go_wp2
 go_ret
 exact ⟨by first|rfl|(simp;done)|(simp [*];done)|(simp [yn];done),by repeat (first|exact yD.refl _|apply yD.step)⟩
end Go.Proofs.YtlmennkeggmdbaaGreatDoor
namespace Go.Proofs.YtlmennkeggmdbaaGreatDoor
open Go.RowKit Go.Proofs.YtlmennkeggmdbaaGreatDoorW.PrintWords Go.Proofs.YtlmennkeggmdbaaGreatDoorW.PrintLast Go.Proofs.YtlmennkeggmdbaaGreatDoorW.PrintMore
attribute [local go_sem] Yt Yp YE YB Yj Yk Yu Yv
def JG.f (a0:Int):Option (Int):=some ((IntKind.u64.wrap ((IntKind.u64.wrap (a0+1))+(Go.bits .and .u64 (a0 / 4) 1))) / 4)
set_option maxHeartbeats 8000000 in
set_option maxRecDepth 100000 in
theorem JG.calls (a0:Int) (r:Int) (w:World) (h:JG.f a0=some r) :
 Calls Tryz.prog 255 #[.int .u64 a0] w fun e w'=>e=.returned (.int .u64 r)∧yD w w':=by
 have H:(some ((IntKind.u64.wrap ((IntKind.u64.wrap (a0+1))+(Go.bits .and .u64 (a0 / 4) 1))) / 4))=some r:=h
 clear h
 obtain rfl:=Option.some.inj H
 go_enter Tryz.func255,Tryz.ntmps255
 go_wp2
 go_ret
 exact ⟨by first|rfl|(simp;done)|(simp [*];done)|(simp [yn];done),by repeat (first|exact yD.refl _|apply yD.step)⟩
end Go.Proofs.YtlmennkeggmdbaaGreatDoor
namespace Go.Proofs.YtlmennkeggmdbaaGreatDoor
open Go.RowKit Go.Proofs.YtlmennkeggmdbaaGreatDoorW.PrintWords Go.Proofs.YtlmennkeggmdbaaGreatDoorW.PrintLast Go.Proofs.YtlmennkeggmdbaaGreatDoorW.PrintMore
attribute [local go_sem] Yt Yp YE YB Yj Yk Yu Yv
def ql.f (a0:Int):Option (Int):=some ((wrap64 (a0 * 108853)) / 32768)
set_option maxHeartbeats 8000000 in
set_option maxRecDepth 100000 in
theorem ql.calls (a0:Int) (r:Int) (w:World) (h:ql.f a0=some r) :
 Calls Tryz.prog 249 #[.int .i64 a0] w fun e w'=>e=.returned (.int .i64 r)∧yD w w':=by
 have H:(some ((wrap64 (a0 * 108853)) / 32768))=some r:=h
 clear h
 obtain rfl:=Option.some.inj H
 go_enter Tryz.func249,Tryz.ntmps249
 go_wp2
 go_ret
 exact ⟨by first|rfl|(simp;done)|(simp [*];done)|(simp [yn];done),by repeat (first|exact yD.refl _|apply yD.step)⟩
end Go.Proofs.YtlmennkeggmdbaaGreatDoor
namespace Go.Proofs.YtlmennkeggmdbaaGreatDoor
open Go.RowKit Go.Proofs.YtlmennkeggmdbaaGreatDoorW.PrintWords Go.Proofs.YtlmennkeggmdbaaGreatDoorW.PrintLast Go.Proofs.YtlmennkeggmdbaaGreatDoorW.PrintMore
theorem yaW (n:Int) (h₀:0≤n) (h₁:n<2 ^ 64):IntKind.u64.wrap n=n:=wrap_u64 h₀ Zo
theorem yar (x:Int) (h0:0≤x) (h1:x<2 ^ 64):Go.bits .and .u64 x 4294967295=x % 4294967296:=bits_mask .u64 64 Zd yaW 32 Zd x h0 h1
theorem and_one (x:Int) (h0:0≤x) (h1:x<2 ^ 64):Go.bits .and .u64 x 1=x % 2:=bits_mask .u64 64 Zd yaW 1 Zd x h0 h1
theorem or_join (i:Nat) (x y:Int) (hx0:0≤x) (hx:x % 2 ^ i=0) (hx1:x<2 ^ 64) (hy0:0≤y) (hy:y<2 ^ i) (hy1:y<2 ^ 64):Go.bits .or .u64 x y=x+y:=bits_join .u64 64 Zd yaW i x y hx0 hx hx1 hy0 hy hy1
section
variable {P Q:Nat} (hP:P=2 ^ 52) (hQ:Q=2 ^ 63)
 include hP hQ
theorem clear_52 (s y:Nat) (hy:y<P):(s * Q+y).testBit 52=false:=by
 rw [Nat.testBit_eq_decide_div_mod_eq,← hP,decide_eq_false]
 have e:s * Q=P * (2048 * s):=by rw [hP,hQ,Nat.mul_comm,show (2:Nat) ^ 63=2 ^ 52 * 2048 from by rw [show (2048:Nat)=2 ^ 11 from rfl,← Nat.pow_add],Nat.mul_assoc]
 rw [e,Nat.mul_add_div (by rw [hP];exact Nat.two_pow_pos _),Nat.div_eq_of_lt hy]
 omega
theorem set_52 (s y:Nat) (hy:y<P):s * Q+P+y=(s * Q+y) ||| P:=by
 have hPQ:P+P≤Q:=by rw [hP,hQ,← Nat.two_mul,← Nat.pow_succ'];exact Nat.pow_le_pow_right Zd Zd
 have h1:=Nat.two_pow_add_eq_or_of_lt (i:=63) (b:=y) (by rw [← hQ];omega) s
 have h2:=Nat.two_pow_add_eq_or_of_lt (i:=52) (b:=y) (by rw [← hP];exact hy) 1
 have h3:=Nat.two_pow_add_eq_or_of_lt (i:=63) (b:=P+y) (by rw [← hQ];omega) s
 rw [Nat.mul_one,← hP] at h2
 rw [← hQ] at h1 h3
 rw [Nat.add_assoc,Nat.mul_comm s Q,h3,h2,h1,Nat.or_assoc,Nat.or_comm P y]
theorem and_52 (s y:Nat) (hy:y<P):(s * Q+P+y) &&& P=P:=by
 rw [set_52 hP hQ s y hy]
 apply Nat.eq_of_testBit_eq
 intro i
 rw [Nat.testBit_and,Nat.testBit_or]
 cases P.testBit i <;> simp
theorem not_52 (s y:Nat) (hy:y<P) (hlt:s * Q+y<2 ^ 64):((BitVec.ofNat 64 (s * Q+P+y)) &&& ~~~ (BitVec.ofNat 64 P)).toNat=s * Q+y:=by
 apply Nat.eq_of_testBit_eq
 intro i
 rw [BitVec.testBit_toNat,BitVec.getLsbD_and,BitVec.getLsbD_not,BitVec.getLsbD_ofNat,BitVec.getLsbD_ofNat,set_52 hP hQ s y hy,Nat.testBit_or]
 by_cases hi:i<64
 · by_cases h5:i=52
   · subst h5
     have h2:P.testBit 52=true:=by rw [hP,Nat.testBit_two_pow,decide_eq_true rfl]
     rw [clear_52 hP hQ s y hy,h2]
     simp
   · have e3:P.testBit i=false:=by rw [hP,Nat.testBit_two_pow,decide_eq_false (fun e=>h5 e.symm)]
     simp [hi,e3]
 · have:(s * Q+y).testBit i=false:=Nat.testBit_lt_two_pow (Nat.lt_of_lt_of_le hlt (Nat.pow_le_pow_right Zd Zo))
   simp [hi,this]
theorem or_52 (s y e:Nat) (hy:y<P) (he:e * P<Q) (hey:e * P+y<Q):(s * Q+y) ||| (e * P)=s * Q+e * P+y:=by
 have h1:=Nat.two_pow_add_eq_or_of_lt (i:=63) (b:=y) (by rw [← hQ];omega) s
 have h2:=Nat.two_pow_add_eq_or_of_lt (i:=52) (b:=y) (by rw [← hP];exact hy) e
 have h3:=Nat.two_pow_add_eq_or_of_lt (i:=63) (b:=e * P+y) (by rw [← hQ];exact hey) s
 rw [← hP,Nat.mul_comm P e] at h2
 rw [← hQ] at h1 h3
 rw [Nat.add_assoc,Nat.mul_comm s Q,h3,h2,h1,Nat.or_assoc,Nat.or_comm y]
end
theorem bits_andNot (a b:Nat):Go.bits .andNot .u64 (a:Int) (b:Int)=IntKind.u64.wrap ((((BitVec.ofNat 64 a) &&& ~~~ (BitVec.ofNat 64 b)).toNat:Nat):Int):=by
 simp only [Go.bits,BitVec.ofInt_natCast]
 rfl
end Go.Proofs.YtlmennkeggmdbaaGreatDoor
