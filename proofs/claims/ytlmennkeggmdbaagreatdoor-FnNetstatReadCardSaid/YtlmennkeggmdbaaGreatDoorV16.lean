/- Part 16 of 34 of the proof of the tied card of FnNetstatRead. -/
import Derived.Test.YtlmennkeggmdbaaGreatDoorVz
import Derived.Test.YtlmennkeggmdbaaGreatDoorV3
import Derived.Test.YtlmennkeggmdbaaGreatDoorV15
import Derived.Test.YtlmennkeggmdbaaGreatDoorV12
import Derived.Test.YtlmennkeggmdbaaGreatDoorV14
set_option linter.unusedVariables false
set_option linter.unusedSimpArgs false
namespace Go.Proofs.YtlmennkeggmdbaaGreatDoor
open Go.RowKit Go.Proofs.YtlmennkeggmdbaaGreatDoorW.PrintWords Go.Proofs.YtlmennkeggmdbaaGreatDoorW.PrintLast Go.Proofs.YtlmennkeggmdbaaGreatDoorW.PrintMore
attribute [local go_sem] Yt Yp YE YB Yj Yk Yu Yv
def Jn.f (a0:ByteArray) (a1:ByteArray):Option (ByteArray):=(Jb.f a0 a1).bind fun t394=>(if t394=true then (if 0≤(wrap64 ((a0.size:Int) - (a1.size:Int))) then (if (wrap64 ((a0.size:Int) - (a1.size:Int)))≤(a0.size:Int) then (some (a0.extract 0 ((wrap64 ((a0.size:Int) - (a1.size:Int))):Int).toNat)) else (none)) else (none)) else (some a0))
set_option maxHeartbeats 8000000 in
set_option maxRecDepth 100000 in
theorem Jn.calls (a0:ByteArray) (a1:ByteArray) (r:ByteArray) (w:World) (h:Jn.f a0 a1=some r) :
 Calls Tryz.prog 209 #[.string a0,.string a1] w fun e w'=>e=.returned (.string r)∧yD w w':=by
 have H:((Jb.f a0 a1).bind fun t394=>(if t394=true then (if 0≤(wrap64 ((a0.size:Int) - (a1.size:Int))) then (if (wrap64 ((a0.size:Int) - (a1.size:Int)))≤(a0.size:Int) then (some (a0.extract 0 ((wrap64 ((a0.size:Int) - (a1.size:Int))):Int).toNat)) else (none)) else (none)) else (some a0)))=some r:=h
 clear h
 replace H:=Option.bind_eq_some_iff.mp H
 obtain ⟨t394,A30,H⟩:=H
 replace H:(if t394=true then (if 0≤(wrap64 ((a0.size:Int) - (a1.size:Int))) then (if (wrap64 ((a0.size:Int) - (a1.size:Int)))≤(a0.size:Int) then (some (a0.extract 0 ((wrap64 ((a0.size:Int) - (a1.size:Int))):Int).toNat)) else (none)) else (none)) else (some a0))=some r:=H
 have A3:=yc.mk A30
 clear A30
 by_cases c4:t394=true
 · subst c4
   have H1:(if 0≤(wrap64 ((a0.size:Int) - (a1.size:Int))) then (if (wrap64 ((a0.size:Int) - (a1.size:Int)))≤(a0.size:Int) then (some (a0.extract 0 ((wrap64 ((a0.size:Int) - (a1.size:Int))):Int).toNat)) else (none)) else (none))=some r:=by rw [if_pos rfl] at H;exact H
   clear H
   have H:=H1
   clear H1
   obtain ⟨ji5,hji5⟩:∃ j_:Int,(wrap64 ((a0.size:Int) - (a1.size:Int)))=j_:=⟨_,rfl⟩
   replace H:(if 0≤(ji5) then (if (ji5)≤(a0.size:Int) then (some (a0.extract 0 ((ji5):Int).toNat)) else (none)) else (none))=some r:=by first|(rw [hji5] at H;exact H)|(simp only [hji5] at H ⊢;exact H)
   (try rw [hji5] at A3)
   have hji5w:(IntKind.i64.wrap ((a0.size:Int) - (a1.size:Int)))=ji5:=(yM _).trans hji5
   by_cases c6:0≤(ji5)
   · rw [if_pos c6] at H
     have c6b0:=eq_true c6
     have c6b1:decide (0≤(ji5))=true:=decide_eq_true c6
     clear c6
     by_cases c7:(ji5)≤(a0.size:Int)
     · rw [if_pos c7] at H
       have c7b0:=eq_true c7
       have c7b1:decide ((ji5)≤(a0.size:Int))=true:=decide_eq_true c7
       clear c7
       obtain rfl:=Option.some.inj H
       go_enter Tryz.func209,Tryz.ntmps209
       go_wp2_with (first|((with_reducible refine yW (f:=214) rfl ?_);refine YD (some 7) rfl rfl Tryz.func214 Zk rfl #[.string a0,.string a1] rfl (by (try simp only [List.map_toArray,List.map_cons,List.map_nil]);first|done|rfl|(simp only [List.length_drop,List.length_take];rfl)) ?_;(with_reducible refine (Jb.calls a0 a1 true _ A3.out).mono ?_);rintro e w' ⟨rfl,⟨nd,rfl⟩⟩;refine ⟨_,rfl,?_⟩))
       go_ret
       exact ⟨by first|rfl|(simp; done)|(simp only [← hji5] <;> (first|rfl|simp))|(simp [*]; done),by repeat (first|exact yD.refl _|apply yD.step)⟩
     · rw [if_neg c7] at H
       exact absurd H (by simp)
   · rw [if_neg c6] at H
     exact absurd H (by simp)
 · replace c4:=Bool.eq_false_iff.mpr c4
   subst c4
   have H1:(some a0)=some r:=by rw [if_neg (show ¬ (false=true) by decide)] at H;exact H
   clear H
   have H:=H1
   clear H1
   obtain rfl:=Option.some.inj H
   go_enter Tryz.func209,Tryz.ntmps209
   go_wp2_with (first|((with_reducible refine yW (f:=214) rfl ?_);refine YD (some 7) rfl rfl Tryz.func214 Zk rfl #[.string a0,.string a1] rfl (by (try simp only [List.map_toArray,List.map_cons,List.map_nil]);first|done|rfl|(simp only [List.length_drop,List.length_take];rfl)) ?_;(with_reducible refine (Jb.calls a0 a1 false _ A3.out).mono ?_);rintro e w' ⟨rfl,⟨nd,rfl⟩⟩;refine ⟨_,rfl,?_⟩))
   go_ret
   exact ⟨by first|rfl|(simp;done)|(simp [*];done)|(simp [yn];done),by repeat (first|exact yD.refl _|apply yD.step)⟩
end Go.Proofs.YtlmennkeggmdbaaGreatDoor
namespace Go.Proofs.YtlmennkeggmdbaaGreatDoor
open Go.RowKit Go.Proofs.YtlmennkeggmdbaaGreatDoorW.PrintWords Go.Proofs.YtlmennkeggmdbaaGreatDoorW.PrintLast Go.Proofs.YtlmennkeggmdbaaGreatDoorW.PrintMore
attribute [local go_sem] Yt Yp YE YB Yj Yk Yu Yv
def qM.f (a0:ByteArray) (a1:ByteArray):Option (ByteArray):=(Jn.f a0 a1).bind fun t395=>(some t395)
set_option maxHeartbeats 8000000 in
set_option maxRecDepth 100000 in
theorem qM.calls (a0:ByteArray) (a1:ByteArray) (r:ByteArray) (w:World) (h:qM.f a0 a1=some r) :
 Calls Tryz.prog 57 #[.string a0,.string a1] w fun e w'=>e=.returned (.string r)∧yD w w':=by
 have H:((Jn.f a0 a1).bind fun t395=>(some t395))=some r:=h
 clear h
 replace H:=Option.bind_eq_some_iff.mp H
 obtain ⟨t395,A30,H⟩:=H
 replace H:(some t395)=some r:=H
 have A3:=yc.mk A30
 clear A30
 obtain rfl:=Option.some.inj H
 go_enter Tryz.func57,Tryz.ntmps57
 go_wp2_with (first|((with_reducible refine yW (f:=209) rfl ?_);refine YD (some 7) rfl rfl Tryz.func209 Zk rfl #[.string a0,.string a1] rfl (by (try simp only [List.map_toArray,List.map_cons,List.map_nil]);first|done|rfl|(simp only [List.length_drop,List.length_take];rfl)) ?_;(with_reducible refine (Jn.calls a0 a1 t395 _ A3.out).mono ?_);rintro e w' ⟨rfl,⟨nd,rfl⟩⟩;refine ⟨_,rfl,?_⟩))
 go_ret
 exact ⟨by first|rfl|(simp;done)|(simp [*];done)|(simp [yn];done),by repeat (first|exact yD.refl _|apply yD.step)⟩
end Go.Proofs.YtlmennkeggmdbaaGreatDoor
namespace Go.Proofs.YtlmennkeggmdbaaGreatDoor
open Go.RowKit Go.Proofs.YtlmennkeggmdbaaGreatDoorW.PrintWords Go.Proofs.YtlmennkeggmdbaaGreatDoorW.PrintLast Go.Proofs.YtlmennkeggmdbaaGreatDoorW.PrintMore
theorem text_walk {w:World} {b:Nat} {t l:ByteArray} (h:qk w b t l):Calls Tryz.prog 56 #[.pointer (some ⟨b,0,none⟩)] w fun e w'=>e=.returned (.string l)∧w'=w:=by
 refine YS 7 Tryz.func56 rfl Zk (by simp) ?_
 refine yF (Yb rfl (yx ?_))
 refine yF (yR rfl (r_nck rfl (r_fa rfl (fun W=>Qg W b) (r_ld rfl (ycL h) (Yb rfl (yx (JA fun a ha=>?_)))))))
 exact J2 (fn:=Tryz.f56) (vs:=[.string l]) rfl ⟨rfl,rfl⟩ ha
abbrev Jp (tc:Bool):List UInt8:=if tc then [84,99,112,69,120,116] else [73,112,69,120,116]
theorem trim_walk (tc:Bool) (w:World):Calls Tryz.prog 57 #[.string (mkB (Jp tc++[58])),.string ⟨#[58]⟩] w fun e w'=>e=.returned (.string (mkB (Jp tc)))∧Below w.heap.size w w':=by
 refine (qM.calls _ _ (mkB (Jp tc)) w ?_).mono fun e w' ⟨he,hd⟩=>⟨he,hd.below⟩
 cases tc
 · kernel_rfl
 · kernel_rfl
theorem idx_word {w:World} {b:Nat} {ok:Nat→Prop} {v:Value} {xs:List ByteArray} {i:Nat} {s:ByteArray} (hR:Kd.string.R 9 w b ok v xs) (hi:xs[i]?=some s) :
 ∃ q,(Instr.indexAt 46 v (.int .i64 i)).run Tryz.prog w=.ok (.pointer (some q)) w∧(Instr.loadAt 9 (.pointer (some q))).run Tryz.prog w=.ok (.string s) w:=by
 obtain ⟨hlt,hs⟩:=List.getElem?_eq_some_iff.1 hi
 obtain ⟨A,c,rfl,hle,hC⟩:=Kd.ybD hR
 obtain ⟨ad,rfl,hc⟩:=Kd.YH hC (i:Int) Zo Zo
 obtain ⟨g,rfl⟩:=Kd.R_head hR
 rw [Int.toNat_natCast,add_at,Nat.zero_add] at hc
 have hv:yU ByteArray.empty xs (i:Int)=s:=by simp [yU,List.getD_eq_getElem?_getD,hi]
 rw [hv] at hc
 refine ⟨⟨g,i,none⟩,?_,Qz Zk hc⟩
 have h1:=run_indexAt_slice (P:=Tryz.prog) (w:=w) 46 ⟨g,0,none⟩ xs.length c .i64 (i:Int) Zk
 rw [h1,if_pos ⟨by omega,by omega⟩]
 have h2:(sizeOf (Tryz.prog.elem 46)).run Tryz.prog w=.ok 1 w:=by kernel_rfl
 rw [h2]
 simp [add_at]
section
variable {sz:Nat} {D:List Deferred} {L:Kn} {w:World} {ops:Array Oper} {K:Kn→World→Prop} {r:List Oper} {d1 d2 d:Nat} {ty1 ty2 ty:TypeId} {pos1 pos2 pos:String} {aft1 aft2 aft:Array Edge} {x y:Operand}
theorem r_word {b:Nat} {ok:Nat→Prop} {v:Value} {xs:List ByteArray} {i:Nat} {s:ByteArray} (hR:Kd.string.R 9 w b ok v xs) (hx:kv L x=some v) (hy:kv L y=some (.int .i64 i)) (hi:xs[i]?=some s)
 (h:∀ q,yZ Tryz.prog sz D ops K r ((d2,.string s)::(d1,.pointer (some q))::L) w) (hd1:d1<sz:=by decide) (hd2:d2<sz:=by decide) :
 yZ Tryz.prog sz D ops K (⟨some d1,.indexAddr 46 x y,ty1,pos1,aft1,none⟩ :: ⟨some d2,.load 9 (.tmp d1),ty2,pos2,aft2,none⟩ :: r) L w:=by
 obtain ⟨q,h1,h2⟩:=idx_word hR hi
 exact YR (fun a ha=>qv (ha.kv hx) (ha.kv hy) h1) (r_ld (p:=.pointer (some q)) lkv_eq h2 (h q) hd2) hd1
theorem r_llen {b:Nat} {ok:Nat→Prop} {v:Value} {xs:List ByteArray} {j:Nat} (hR:Kd.string.R 9 w b ok v xs) (hx:lkv L j=some v)
 (h:yZ Tryz.prog sz D ops K r ((d,.int .i64 xs.length)::L) w) (hd:d<sz:=by decide) :
 yZ Tryz.prog sz D ops K (⟨some d,.call { callee:=.builtin .len,args:=#[.tmp j],argTypes:=#[46] },ty,pos,aft,none⟩ :: r) L w:=by
 obtain ⟨A,c,rfl⟩:=Kd.YF hR
 refine YR (fun a ha=>?_) h hd
 have hx':a.tmps[j]?.getD undef=.slice A xs.length c:=by have:=ha.at_ j _ hx;simpa [Act.eval] using this
 simp [execOp,go_sem,hx',run_len_slice (P:=Tryz.prog) (w:=w) 46 _ A xs.length c Zk,goInt]
end
theorem JT {w:World} {a b:Nat} {c1 c2:Array Value} {t1 t2:TypeId} (h1:w.heap[a]?=some (.cells c1 t1 (0,0))) (h2:w.heap[b]?=some (.cells c2 t2 (0,0))) (ht:t1≠t2):a≠b:=fun e=>by
 subst e
 rw [h1] at h2
 simp only [Option.some.injEq,Obj.cells.injEq] at h2
 exact ht h2.2.1
theorem store_flt {w:World} {g x y:Nat} (hc:ybA w g x):(Instr.storeAt 31 (.pointer (some ⟨g,0,none⟩)) (.float .f64 y)).run Tryz.prog w=.ok () (w.setCell ⟨g,0,none⟩ (.float .f64 y)):=by
 have h1:w.cell? ⟨g,0,none⟩=some (.float .f64 x):=(yg hc 0).trans rfl
 have h2:=yf hc 0
 have h3:(isAgg 31).run Tryz.prog w=.ok false w:=by kernel_rfl
 have h4:(sizeOf 31).run Tryz.prog w=.ok 1 w:=by kernel_rfl
 simp [Instr.storeAt,Instr.sureAddr,go_sem,h1,h2,h3,h4]
theorem QR {w:World} {g:Nat} {p p':Nat→Option Nat} (h:Q9 w g p):∃ w',(Instr.storeAt 56 (.pointer (some ⟨g,0,none⟩)) (.agg (Yx p').toArray)).run Tryz.prog w=.ok () w'∧Q9 w' g p'∧JQ g w w':=by
 have hsz:∀ q,(Yx q).toArray.size=142:=fun q=>by rw [List.size_toArray,Qa]
 refine ⟨w.setCells g 0 (Yx p'),?_,?_,?_⟩
 · have ht:w.there g 0 (Yx p').toArray.size:=by
    rw [hsz]
    intro j hj
    rw [yg h,Nat.zero_add]
    exact ⟨by rw [List.getElem?_toArray,List.getElem?_eq_getElem (by rw [Qa];exact hj)];rfl,yf h _⟩
   have:=run_storeAt_mid (P:=Tryz.prog) w g 0 56 (Yx p').toArray ht (by rw [hsz];kernel_rfl) (by
    rw [List.all_toArray]
    simp [Yx,ptrs,ptrV,Value.oneCell'])
   exact this
 · obtain ⟨cur,h1,h2,h3⟩:=yb3 (Yx p') 0 w _ h (by rw [hsz,Qa];omega)
   have:cur=(Yx p').toArray:=by
    apply Array.toList_inj.1
    rw [h3,List.take_zero,List.nil_append,Qa,List.drop_eq_nil_of_le (by rw [Array.length_toList,hsz];omega),List.append_nil]
   subst this;exact h1
 · obtain ⟨h1,h2,h3,h4⟩:=ybi g (Yx p') 0 w
   exact ⟨h4,fun j hj=>yb2 _ _ _ hj,fun B w0 hB hb=>by
    have:∀ (vs:List Value) (o:Nat) (w:World),Below B w0 w→Below B w0 (w.setCells g o vs):=fun vs=>by
     induction vs with
     | nil=>intro o w h;exact h
     | cons v r ih=>intro o w h;exact ih (o+1) _ (h.setCell (p:=⟨g,o,none⟩) hB v)
    exact this _ _ _ hb⟩
structure NInv (w0 w:World) (g4 gl g7:Nat) (p n:Nat→Option Nat) (t l:ByteArray):Prop where
 h4:Q9 w g4 (fun _=>none)
 hl:qk w gl t l
 h7:Q9 w g7 p
 held:yad w w0.heap.size p n
 o4:w0.heap.size≤g4
 ol:w0.heap.size≤gl
 o7:w0.heap.size≤g7
 n47:g4≠g7
 hB:Below w0.heap.size w0 w
section
variable {w0 w w':World} {g4 gl g7:Nat} {p n:Nat→Option Nat} {t l:ByteArray}
theorem NInv.below (h:NInv w0 w g4 gl g7 p n t l) (hb:Below w.heap.size w w'):NInv w0 w' g4 gl g7 p n t l:=
 ⟨yI h.h4 hb,yI h.hl hb,yI h.h7 hb,h.held.below hb,h.o4,h.ol,h.o7,h.n47,yw h.hB hb⟩
theorem NInv.scan (h:NInv w0 w g4 gl g7 p n t l) {t' l':ByteArray} (hT:JQ gl w w') (hl:qk w' gl t' l'):NInv w0 w' g4 gl g7 p n t' l':=by
 refine ⟨(hT.other _ (JT h.h4 h.hl Zd)).trans h.h4,hl,(hT.other _ (JT h.h7 h.hl Zd)).trans h.h7,fun i=>?_,h.o4,h.ol,h.o7,h.n47,hT.below _ _ h.ol h.hB⟩
 rcases h.held i with hh|⟨b,x,h1,h2,h3,h4⟩
 · exact .inl hh
 · exact .inr ⟨b,x,h1,h2,h3,(hT.other _ (JT h4 h.hl Zd)).trans h4⟩
theorem NInv.set (h:NInv w0 w g4 gl g7 p n t l) {j b x:Nat} (hj:j<141) (hF:ybA w b x) (hb:w0.heap.size≤b):NInv w0 (w.setCell ⟨g7,1+j,none⟩ (ptrV (some b))) g4 gl g7 (upd p j b) (upd n j x) t l:=by
 have hT:=(JQ.refl g7 w).set (1+j) (ptrV (some b))
 have hF':=(hT.other _ (JT hF h.h7 Zd)).trans hF
 refine ⟨(hT.other _ h.n47).trans h.h4,(hT.other _ (JT h.hl h.h7 Zd)).trans h.hl,yy h.h7 _ _ (stat_upd hj),fun i=>?_,h.o4,h.ol,h.o7,h.n47,hT.below _ _ h.o7 h.hB⟩
 by_cases e:i=j
 · subst e
   exact .inr ⟨b,x,by simp [upd],by simp [upd],hb,hF'⟩
 · rcases h.held i with hh|⟨b',x',h1,h2,h3,h4⟩
   · exact .inl ⟨by simp [upd,e,hh.1],by simp [upd,e,hh.2]⟩
   · exact .inr ⟨b',x',by simp [upd,e,h1],by simp [upd,e,h2],h3,(hT.other _ (JT h4 h.h7 Zd)).trans h4⟩
end
end Go.Proofs.YtlmennkeggmdbaaGreatDoor
namespace Go.Proofs.YtlmennkeggmdbaaGreatDoor
open Go.RowKit Go.Proofs.YtlmennkeggmdbaaGreatDoorW.PrintWords Go.Proofs.YtlmennkeggmdbaaGreatDoorW.PrintLast Go.Proofs.YtlmennkeggmdbaaGreatDoorW.PrintMore
structure Grp where
 tc:Bool
 ks:List (List UInt8 × Int)
def QT (tc:Bool):Nat:=if tc then 0 else 123
def cntG (tc:Bool):Nat:=if tc then 123 else 18
def labG (tc:Bool):List (ByteArray × Nat):=if tc then qw else QN
def ybj (tc:Bool) (n:Nat→Option Nat) (k:List UInt8 × Int):Nat→Option Nat:=match lab (labG tc) (mkB k.1) with
 | some j=>upd n (QT tc+j) (FloatKind.f64.nearest k.2)
 | none=>n
def runG (n:Nat→Option Nat) (g:Grp):Nat→Option Nat:=g.ks.foldl (ybj g.tc) n
def JR (n:Nat→Option Nat) (gs:List Grp):Nat→Option Nat:=gs.foldl runG n
structure GoodK (tc:Bool) (k:List UInt8 × Int):Prop where
 lab:∃ j,lab (labG tc) (mkB k.1)=some j∧j<cntG tc
 small:k.2.natAbs≤9007199254740992
 plain:∀ b ∈ k.1,b≠32∧b≠10∧b≠13
structure ybB (g:Grp):Prop where
 ne:g.ks≠[]
 ks:∀ k ∈ g.ks,GoodK g.tc k
def qB (g:Grp):List (List UInt8):=(Jp g.tc++[58])::g.ks.map (·.1)
def valL (g:Grp):List (List UInt8):=(Jp g.tc++[58])::g.ks.map (fun k=>qE k.2)
def Jw:List Grp→List UInt8
 | []=>[]
 | g::r=>Ju (qB g)++10::(Ju (valL g)++10::Jw r)
theorem joinB_mem {b:UInt8}:∀ {ws:List (List UInt8)},b ∈ Ju ws→b=32∨∃ x ∈ ws,b ∈ x
 | [],h=>by cases h
 | [x],h=>.inr ⟨x,by simp,h⟩
 | x::y::r,h=>by
  rw [Qh] at h
  rcases List.mem_append.1 h with h|h
  · exact .inr ⟨x,by simp,h⟩
  · rcases List.mem_cons.1 h with h|h
    · exact .inl h
    · rcases joinB_mem h with h|⟨z,hz,h⟩
      · exact .inl h
      · exact .inr ⟨z,by simp [List.mem_cons.1 hz],h⟩
theorem ycu:∀ (ws:List (List UInt8)),ws.length≤(Ju ws).length+1
 | []=>by simp
 | [x]=>by simp
 | x::y::r=>by
  rw [Qh]
  have:=ycu (y::r)
  simp only [List.length_cons,List.length_append] at this ⊢
  omega
theorem sText_plain {v:Int} (h:v.natAbs≤9007199254740992):∀ b ∈ qE v,b≠32∧b≠10∧b≠13:=by
 intro b hb
 have key:b=45∨(48≤b.toNat∧b.toNat≤57):=by
  unfold qE numT at hb
  rcases List.mem_append.1 hb with hb|hb
  · left
    split at hb
    · simpa using hb
    · cases hb
  · exact .inr (dig_range20 Zo b hb)
 rcases key with rfl|⟨h1,h2⟩
 · decide
 · refine ⟨?_,?_,?_⟩ <;> (rintro rfl; revert h1 h2; decide)
theorem ydb (tc:Bool):∀ b ∈ Jp tc++[58],b≠32∧b≠10∧b≠13:=by
 cases tc <;> decide
theorem yaQ {g:Grp} (h:ybB g):∀ x ∈ qB g,∀ b ∈ x,b≠32∧b≠10∧b≠13:=by
 intro x hx
 rcases List.mem_cons.1 hx with rfl|hx
 · exact ydb _
 · obtain ⟨k,hk,rfl⟩:=List.mem_map.1 hx
   exact (h.ks k hk).plain
theorem ybz {g:Grp} (h:ybB g):∀ x ∈ valL g,∀ b ∈ x,b≠32∧b≠10∧b≠13:=by
 intro x hx
 rcases List.mem_cons.1 hx with rfl|hx
 · exact ydb _
 · obtain ⟨k,hk,rfl⟩:=List.mem_map.1 hx
   exact sText_plain (h.ks k hk).small
theorem yax {ws:List (List UInt8)} (h:∀ x ∈ ws,∀ b ∈ x,b≠32∧b≠10∧b≠13):∀ b ∈ Ju ws,b≠10∧b≠13:=fun b hb=>by
 rcases joinB_mem hb with rfl|⟨x,hx,hb⟩
 · decide
 · exact (h x hx b hb).2
theorem join_ne (tc:Bool) (r:List (List UInt8)):Ju ((Jp tc++[58])::r)≠[]:=by
 cases r with
 | nil=>cases tc <;> simp [Ju]
 | cons y r=>rw [Qh]; cases tc <;> simp
structure Words (w:World) (b:Nat) (v:Value) (xs:List ByteArray):Prop where
 R:Kd.string.R 9 w b (fun k=>b≤k) v xs
theorem Words.of {w:World} {b:Nat} {ok:Nat→Prop} {v:Value} {xs:List ByteArray} (h:Kd.string.R 9 w b ok v xs):Words w b v xs:=⟨Kd.Yr (Kd.JP h) (fun k hk=>hk.2.1)⟩
theorem Words.below {w w':World} {b:Nat} {v:Value} {xs:List ByteArray} (h:Words w b v xs) (hb:Below w.heap.size w w'):Words w' b v xs:=⟨Kd.Y1 h.R hb⟩
theorem Words.turned {w w':World} {b g:Nat} {v:Value} {xs:List ByteArray} (h:Words w b v xs) (hT:JQ g w w') (hg:g<b):Words w' b v xs:=⟨Kd.qn h.R (fun k hk _=>hT.other k Zo)⟩
theorem fold_take {α β:Type} (f:α→β→α) (a:α) (l:List β) {j:Nat} {x:β} (h:l[j]?=some x):(l.take (j+1)).foldl f a=f ((l.take j).foldl f a) x:=by
 rw [List.take_add_one,h]
 simp
end Go.Proofs.YtlmennkeggmdbaaGreatDoor
namespace Go.Proofs.YtlmennkeggmdbaaGreatDoor
open Go.RowKit Go.Proofs.YtlmennkeggmdbaaGreatDoorW.PrintWords Go.Proofs.YtlmennkeggmdbaaGreatDoorW.PrintLast Go.Proofs.YtlmennkeggmdbaaGreatDoorW.PrintMore
abbrev J5:Nat→Option Nat:=fun _=>none
abbrev qe:Obj:=.cells (Yx J5).toArray 56 (0,0)
theorem QP (w:World):(Instr.alloc 56 true (.tuple #[])).run Tryz.prog w=.ok (.pointer (some ⟨w.heap.size,0,none⟩)) (w.alloc qe):=by kernel_rfl
theorem run_allocF (w:World):(Instr.alloc 31 true (.tuple #[])).run Tryz.prog w=.ok (.pointer (some ⟨w.heap.size,0,none⟩)) (w.alloc (.cells #[.float .f64 0] 31 (0,0))):=by kernel_rfl
theorem lkv_lt {B:Nat}:∀ {M:Kn},(∀ x ∈ M,x.1<B)→∀ {i:Nat} {v:Value},lkv M i=some v→i<B
 | [],_,_,_,h=>by cases h
 | (j,u)::r,hM,i,v,h=>by
  simp only [lkv] at h
  cases hb:Nat.beq i j with
  | true=>
   obtain rfl:=Nat.eq_of_beq_eq_true hb
   exact hM (i,u) (by simp)
  | false=>
   rw [hb] at h
   simp only [cond_false] at h
   exact lkv_lt (fun x hx=>hM x (by simp [hx])) h
def inKn (g4 gl g7:Nat) (v8 v9:Value) (nm:ByteArray) (i:Nat):Kn:=[(4,.pointer (some ⟨g4,0,none⟩)),(5,.nilIface),(6,.pointer (some ⟨gl,0,none⟩)),(7,.pointer (some ⟨g7,0,none⟩)),(8,v8),(9,v9),(10,.string nm),(11,.int .i64 i)]
theorem in_lt {g4 gl g7:Nat} {v8 v9:Value} {nm:ByteArray} {i:Nat} {j:Nat} {v:Value} (h:lkv (inKn g4 gl g7 v8 v9 nm i) j=some v):j<62:=
 lkv_lt (by
  intro x hx
  simp only [inKn,List.mem_cons,List.not_mem_nil,or_false] at hx
  rcases hx with rfl|rfl|rfl|rfl|rfl|rfl|rfl|rfl <;> simp) h
def outKn (g4 gl g7:Nat):Kn:=[(4,.pointer (some ⟨g4,0,none⟩)),(5,.nilIface),(6,.pointer (some ⟨gl,0,none⟩)),(7,.pointer (some ⟨g7,0,none⟩))]
theorem skip_wp {P:Program} {o:Oper} {a:Act} {w w1:World} {K:Act→World→Prop} {Q:Exit→Act→World→Prop} (hrun:(execOp a.eval o).run P w=.ok .skip w1) (hd:o.dst=none) (h:K a w1):o.wp P a w K Q:=by
 unfold Oper.wp
 rw [hrun,Oper.upon_skip,hd]
 exact h
theorem ydl {fn:Func} {a:Act} {L:Kn} {sz:Nat} {w:World} {R:Ending→World→Prop} {g:Nat} {p:Nat→Option Nat} {v:Value} {t u:Nat} (hr:fn.results=#[.cell t 56,.tmp u]) (h:Q9 w g p) (ht:lkv L t=some (.pointer (some ⟨g,0,none⟩))) (hu:lkv L u=some v)
 (hR:R (.returned (.tuple #[.agg (Yx p).toArray,v])) w):Has sz [] L a→bodyPost Tryz.prog fn R .ret a w:=fun ha=>by
 refine bodyPost_ret (v:=.tuple #[.agg (Yx p).toArray,v]) ?_ ha.defers hR
 have e:=ha.at_ u v hu
 have e':a.tmps.getD u undef=v:=e
 refine qb (rs:=[.cell t 56,.tmp u]) (vs:=[.agg (Yx p).toArray,v]) hr (by simp) ?_
 refine .cell g 56 _ (0,0) _ (ha.at_ t _ ht) h Tryz.underlying56 rfl (by rw [List.size_toArray,Qa];kernel_rfl) ?_
 rw [← e']
 exact .tmp .nil
set_option maxRecDepth 100000 in
set_option maxHeartbeats 4000000 in
theorem parse_walk (gs:List Grp) (hgood:∀ g ∈ gs,ybB g) (hlen:(Jw gs).length≤65000) (path:ByteArray) (w:World) (hV0:Vars w) :
 Calls Tryz.prog 41 #[.string (mkB (Jw gs)),.string path] w fun e w'=>∃ p,e=.returned (.tuple #[.agg (Yx p).toArray,.nilIface])∧yad w' w.heap.size p (JR J5 gs)∧Below w.heap.size w w':=by
 refine YS 559 Tryz.func41 rfl Zk (by simp) ?_
 refine yF (YR (fun a ha=>YT (QP w)) (Yb rfl (yx ?_)))
 have hg4:=YP w qe
 have hB1:Below w.heap.size w (w.alloc qe):=yl (Below.refl _ _) _
 generalize hw1:(w.alloc qe)=w1 at hg4 hB1 ⊢
 refine yF (yR rfl (YJ Tryz.func53 Zk rfl rfl ((ydF (mkB (Jw gs)) w1).mono ?_)))
 rintro e w2 ⟨rfl,hl,hB2⟩
 refine ⟨_,rfl,Yb rfl (yx ?_)⟩
 refine yF (YR (fun a ha=>ya7 (vs:=#[]) (v:=.agg (Yx J5).toArray) (by simp) Zk) (YR (fun a ha=>YT (QP w2)) ?_))
 have hg7:=YP w2 qe
 have hB3:Below w2.heap.size w2 (w2.alloc qe):=yl (Below.refl _ _) _
 generalize hw3:(w2.alloc qe)=w3 at hg7 hB3 ⊢
 obtain ⟨w4,hrun,hg74,hT4⟩:=QR (p':=J5) hg7
 refine Qt rfl rfl hrun (yx ?_)
 have hs1:w.heap.size≤w1.heap.size:=yt hB1
 have hs2:w1.heap.size≤w2.heap.size:=yt hB2
 have hInv:NInv w w4 w.heap.size w1.heap.size w2.heap.size J5 J5 (mkB (Jw gs)) ⟨#[]⟩:=by
  have h43:=yI (yI hg4 hB2) hB3
  have hl3:=yI hl hB3
  exact ⟨(hT4.other _ (Nat.ne_of_lt (YQ (yI hg4 hB2)))).trans h43,(hT4.other _ (JT hl3 hg7 Zd)).trans hl3,hg74,held_none _ _,Nat.le_refl _,hs1,Nat.le_trans hs1 hs2,Nat.ne_of_lt (YQ (yI hg4 hB2)),hT4.below _ _ (Nat.le_trans hs1 hs2) (yw (yw hB1 hB2) hB3)⟩
 generalize w1.heap.size=gl at hInv ⊢
 generalize w2.heap.size=g7 at hInv ⊢
 refine Yg (YU (ybG (fun n L w'=>∃ rest p nn l,n=rest.length∧L=outKn w.heap.size gl g7∧NInv w w' w.heap.size gl g7 p nn (mkB (Jw rest)) l∧JR nn rest=JR J5 gs∧(Jw rest).length≤65000∧∀ g ∈ rest,ybB g) gs.length (M:=outKn w.heap.size gl g7) ⟨rfl,rfl,rfl,rfl,trivial⟩ ⟨gs,J5,J5,_,rfl,rfl,hInv,rfl,hlen,hgood⟩ ?_))
 rintro n L w5 ⟨rest,p,nn,l,rfl,rfl,hI,hrun2,hlr,hgr⟩
 cases rest with
 | nil=>
  refine Yg (yF (yR rfl (YJ Tryz.func54 Zk rfl rfl ((scan_end hI.hl).mono ?_))))
  rintro e w6 ⟨rfl,hl6,hT6⟩
  refine ⟨_,rfl,yx (Jt rfl (yat fun a ha=>?_))⟩
  have hI6:=hI.scan hT6 hl6
  simp only [Exit.then,Exit.inBlock,reduceIte]
  have hrn:nn=JR J5 gs:=hrun2
  rw [← hrn]
  have ha3:Has 559 [] [(4,.pointer (some ⟨w.heap.size,0,none⟩)),(6,.pointer (some ⟨gl,0,none⟩)),(7,.pointer (some ⟨g7,0,none⟩))] a:=ha.sub ⟨rfl,rfl,rfl,trivial⟩
  clear ha
  refine wp_seq ?_
  refine yai (k:=556) (n:=5) (B:=[0,0,2,7,15]) (E:=[0,1]) (L:=[2,3,4])
   (Y:=fun j=>([.agg (Yx p).toArray,.pointer (some ⟨gl,0,none⟩)]:List Value).getD j undef)
   (fun q a' w'=>Has 559 [] ((if q=0 then [] else if q=3 then [(5,.nilIface)] else [(558,.nilIface)])++[(4,.pointer (some ⟨w.heap.size,0,none⟩)),(6,.pointer (some ⟨gl,0,none⟩)),(7,.pointer (some ⟨g7,0,none⟩))]) a'∧Q9 w' g7 p∧(q<2→∃ t l,NInv w w' w.heap.size gl g7 p nn t l)∧(2≤q→Q9 w' w.heap.size p∧yad w' w.heap.size p nn∧Below w.heap.size w w'))
   (fun a' w'=>Has 559 [] [(4,.pointer (some ⟨w.heap.size,0,none⟩)),(6,.pointer (some ⟨gl,0,none⟩)),(7,.pointer (some ⟨g7,0,none⟩))] a'∧Q9 w' g7 p)
   Zk rfl Zk Zk Zd Zd Zd Zd Zd Zd Zk ?_ ?_ ?_ ?_ ?_ ?_ ?_
  · intro j o hj ho
    left
    simp only [List.mem_cons,List.not_mem_nil,or_false] at hj
    rcases hj with rfl|rfl <;> (obtain rfl:=Option.some.inj ho; rfl)
  · rintro q a' w' hp ⟨hF,hS,_⟩
    have hF2:Has 559 [] [(4,.pointer (some ⟨w.heap.size,0,none⟩)),(6,.pointer (some ⟨gl,0,none⟩)),(7,.pointer (some ⟨g7,0,none⟩))] a':=by
     have hp3:q<3:=hp
     match q,hp3 with
     | 0,_=>exact hF
     | 1,_=>exact hF.sub ⟨rfl,rfl,rfl,trivial⟩
     | 2,_=>exact hF.sub ⟨rfl,rfl,rfl,trivial⟩
    exact ⟨⟨hF2,hS⟩,fun j hj=>by
     simp only [List.mem_cons,List.not_mem_nil,or_false] at hj
     rw [hF.size];omega⟩
  · rintro j o hj ho a' W hgot ⟨hF,hS⟩
    simp only [List.mem_cons,List.not_mem_nil,or_false] at hj
    rcases hj with rfl|rfl
    · obtain rfl:=Option.some.inj ho
      exact run_load (hF.kv (x:=.tmp 7) rfl) (run_loadVar_row W g7 56 56 _ (0,0) _ hS Tryz.underlying56 rfl (by rw [List.size_toArray,Qa];kernel_rfl))
    · obtain rfl:=Option.some.inj ho
      exact yV (hF.kv rfl)
  · rintro q j a' w' hp hj ⟨hF,hr⟩
    simp only [List.mem_cons,List.not_mem_nil,or_false] at hj
    refine ⟨hF.put_none _ ?_,hr⟩
    have hp3:q<3:=hp
    match q,hp3 with
    | 0,_=>rcases hj with rfl|rfl <;> rfl
    | 1,_=>rcases hj with rfl|rfl <;> rfl
    | 2,_=>rcases hj with rfl|rfl <;> rfl
  · intro q hp
    have hp3:q<3:=hp
    match q,hp3 with
    | 0,_=>
     refine ⟨_,rfl,?_⟩
     rintro a' w' ⟨hF,hS,hN,_⟩ hgot
     obtain ⟨t,l,hI'⟩:=hN Zd
     refine ⟨YZ rfl,fun K hKf=>?_⟩
     refine ya0 Tryz.func60 Zk rfl #[.pointer (some ⟨gl,0,none⟩)] rfl (args_1 (hgot 1 Zd Zd)) ?_
     refine (err_walk hI'.hl).mono ?_
     rintro e w7 ⟨rfl,rfl⟩
     refine ⟨_,rfl,hKf _ _ ⟨hF.put _ Zd,hS,fun _=>⟨t,l,hI'⟩,fun h=>absurd h Zd⟩ (fun j hj=>yb _ ?_)⟩
     simp only [List.mem_cons,List.not_mem_nil,or_false] at hj
     omega
    | 1,_=>
     refine ⟨_,rfl,?_⟩
     rintro a' w' ⟨hF,hS,hN,_⟩ hgot
     obtain ⟨t,l,hI'⟩:=hN Zd
     refine ⟨YZ rfl,fun K hKf=>?_⟩
     obtain ⟨w7,hrun7,hS7,hT7⟩:=QR (p':=p) hI'.h4
     refine skip_wp (run_store (p:=.pointer (some ⟨w.heap.size,0,none⟩)) (v:=.agg (Yx p).toArray) (hF.kv (x:=.tmp 4) rfl) (hgot 0 Zd Zd) hrun7) rfl (hKf _ _ ⟨hF,(hT7.other _ (Ne.symm hI'.n47)).trans hS,fun h=>absurd h Zd,fun _=>⟨hS7,fun i=>?_,hT7.below _ _ (Nat.le_refl _) hI'.hB⟩⟩ (fun j hj=>rfl))
     rcases hI'.held i with hh|⟨b,x,h1,h2,h3,h4⟩
     · exact .inl hh
     · exact .inr ⟨b,x,h1,h2,h3,(hT7.other _ (JT h4 hI'.h4 Zd)).trans h4⟩
    | 2,_=>
     refine ⟨_,rfl,?_⟩
     rintro a' w' ⟨hF,hS,_,hN⟩ hgot
     refine ⟨YZ rfl,fun K hKf=>?_⟩
     refine J4 (v:=.nilIface) (YL (hF.kv rfl)) (hKf _ _ ⟨(hF.sub (M:=[(4,.pointer (some ⟨w.heap.size,0,none⟩)),(6,.pointer (some ⟨gl,0,none⟩)),(7,.pointer (some ⟨g7,0,none⟩))]) ⟨rfl,rfl,rfl,trivial⟩).put _ Zd,hS,fun h=>absurd h Zd,fun _=>hN Zd⟩ (fun j hj=>yb _ ?_))
     simp only [List.mem_cons,List.not_mem_nil,or_false] at hj
     omega
  · exact ⟨ha3,(hI6.below (Qf (Below.refl _ _))).h7,fun _=>⟨_,_,hI6.below (Qf (Below.refl _ _))⟩,fun h=>absurd h Zd⟩
  · rintro a' w' ⟨hF,hS,_,hN⟩ hgot
    obtain ⟨h1,h2,h3⟩:=hN Zd
    simp only [Exit.then]
    exact wp_ret (ydl (fn:=Tryz.f41) (L:=[(5,.nilIface),(4,.pointer (some ⟨w.heap.size,0,none⟩))]) (t:=4) (u:=5) rfl h1 rfl rfl ⟨p,rfl,h2,h3⟩ (hF.sub ⟨rfl,rfl,trivial⟩))
 | cons g r=>
  have hG:ybB g:=hgr g (by simp)
  have htx:Jw (g::r)=Ju (qB g)++10::(Ju (valL g)++10::Jw r):=rfl
  have hlx:(Ju (qB g)).length+1+((Ju (valL g)).length+1+(Jw r).length)≤65000:=by
   rw [htx] at hlr;simp only [List.length_append,List.length_cons] at hlr;omega
  have hN:g.ks.length≤65000:=by
   have:=ycu (qB g)
   simp only [qB,List.length_cons,List.length_map] at this
   simp only [qB] at hlx
   omega
  refine Yg (yF (yR rfl (YJ Tryz.func54 Zk rfl rfl ((scan_line (L:=Ju (qB g)) (R:=Ju (valL g)++10::Jw r) hI.hl rfl (fun x hx=>(yax (yaQ hG) x hx).1) (join_ne _ _) (fun x hx=>(yax (yaQ hG) x (List.mem_of_getLast? hx)).2) Zo).mono ?_))))
  rintro e w6 ⟨rfl,hl6,hT6⟩
  have hI6:=hI.scan hT6 hl6
  refine ⟨_,rfl,yx (QI rfl (Jg (YU ?_)))⟩
  refine yF (yR rfl (YJ Tryz.func56 Zk rfl rfl ((text_walk hI6.hl).mono ?_)))
  rintro e w7 ⟨rfl,rfl⟩
  refine ⟨_,rfl,YJ Tryz.func55 Zk rfl rfl ((ydu (qB g) (by simp [qB]) (fun x hx b hb=>(yaQ hG x hx b hb).1) Zo (by simp [qB];omega) w7).mono ?_)⟩
  rintro e w8 ⟨v8,rfl,hR8,hB8⟩
  refine ⟨_,rfl,Yb rfl (yx ?_)⟩
  have hI8:=hI6.below hB8
  have hg7s:g7<w7.heap.size:=YQ hI6.h7
  have hgls:gl<w7.heap.size:=YQ hI6.hl
  have hW8:=Words.of hR8
  generalize w7.heap.size=b8 at hW8 hg7s hgls
  refine yF (yR rfl (YJ Tryz.func54 Zk rfl rfl ((scan_line (L:=Ju (valL g)) (R:=Jw r) hI8.hl rfl (fun x hx=>(yax (ybz hG) x hx).1) (join_ne _ _) (fun x hx=>(yax (ybz hG) x (List.mem_of_getLast? hx)).2) Zo).mono ?_)))
  rintro e w9 ⟨rfl,hl9,hT9⟩
  have hI9:=hI8.scan hT9 hl9
  have hW89:=hW8.turned hT9 hgls
  refine ⟨_,rfl,yx ?_⟩
  refine yF (yR rfl (YJ Tryz.func56 Zk rfl rfl ((text_walk hI9.hl).mono ?_)))
  rintro e w10 ⟨rfl,rfl⟩
  refine ⟨_,rfl,YJ Tryz.func55 Zk rfl rfl ((ydu (valL g) (by simp [valL]) (fun x hx b hb=>(ybz hG x hx b hb).1) Zo (by simp [valL];omega) w10).mono ?_)⟩
  rintro e w11 ⟨v9,rfl,hR9,hB11⟩
  refine ⟨_,rfl,Yb rfl (yx ?_)⟩
  have hI11:=hI9.below hB11
  have hg7t:g7<w10.heap.size:=YQ hI9.h7
  have hW9:=Words.of hR9
  have hW8t:=hW89.below hB11
  generalize w10.heap.size=b9 at hW9 hg7t
  have hw0:((qB g).map mkB)[0]?=some (mkB (Jp g.tc++[58])):=by simp [qB]
  refine yF (yR rfl (r_word (i:=0) hW8t.R rfl rfl hw0 fun q=>YJ Tryz.func57 Zk rfl rfl ((trim_walk g.tc w11).mono ?_)))
  rintro e w12 ⟨rfl,hB12⟩
  refine ⟨_,rfl,Yb rfl (yx ?_)⟩
  have hI12:=hI11.below hB12
  have hW812:=hW8t.below hB12
  have hW912:=hW9.below hB12
  refine Yg (yF (yR rfl (r_llen hW812.R rfl (yR rfl (r_llen hW912.R rfl (r_neqi rfl rfl false (by simp [qB,valL]) (yx (Jt rfl (Jg ?_)))))))))
  refine yF (Yb rfl (yx ?_))
  refine YU (ybG (fun n L u=>∃ j p,j≤g.ks.length∧n=g.ks.length - j∧L=inKn w.heap.size gl g7 v8 v9 (mkB (Jp g.tc)) (j+1)∧NInv w u w.heap.size gl g7 p ((g.ks.take j).foldl (ybj g.tc) nn) (mkB (Jw r)) (mkB (Ju (valL g)))∧Words u b8 v8 ((qB g).map mkB)∧Words u b9 v9 ((valL g).map mkB)) g.ks.length (M:=inKn w.heap.size gl g7 v8 v9 (mkB (Jp g.tc)) 1) ⟨rfl,rfl,rfl,rfl,rfl,rfl,rfl,rfl,trivial⟩ ⟨0,p,Nat.zero_le _,rfl,rfl,hI12,hW812,hW912⟩ ?_)
  rintro n L u ⟨j,p,hj,rfl,rfl,hI,h8,h9⟩
  have hl8:((qB g).map mkB).length=g.ks.length+1:=by simp [qB]
  by_cases hjl:j<g.ks.length
  · obtain ⟨k,hk⟩:∃ k,g.ks[j]?=some k:=⟨_,List.getElem?_eq_getElem hjl⟩
    have hgk:=hG.ks k (List.mem_of_getElem? hk)
    have hw8:((qB g).map mkB)[j+1]?=some (mkB k.1):=by simp [qB,hk]
    have hw9:((valL g).map mkB)[j+1]?=some (mkB (qE k.2)):=by simp [valL,hk]
    obtain ⟨jj,hlab,hjj⟩:=hgk.lab
    have hVu:=hV0.step hI.hB
    have hge:w.heap.size≤u.heap.size:=yt hI.hB
    have o8:=hg7s
    have o9:=hg7t
    have hfold:=fold_take (ybj g.tc) nn g.ks hk
    generalize ((g.ks.take j).foldl (ybj g.tc) nn)=n at hfold hI
    refine Yg (yF (yR rfl (yR rfl (r_llen h8.R rfl (yaj rfl rfl true (decide_eq_true (by rw [hl8];omega)) (yx (QI rfl (Jg ?_))))))))
    refine Yg (YU ?_)
    refine yF (yR rfl (yR rfl (r_word h9.R rfl rfl hw9 fun q=>?_)))
    refine YJ Tryz.func59 Zk rfl rfl ((float_walk k.2 hgk.small u hVu).mono ?_)
    rintro e w1 ⟨rfl,hB1⟩
    refine ⟨_,rfl,yR rfl (Jj rfl (J8 _ _) (Jj rfl (J9 _ _) (YR (fun a ha=>YT (run_allocF w1)) ?_)))⟩
    have hf:=YP w1 (.cells #[.float .f64 0] 31 (0,0))
    have hB2:Below u.heap.size u (w1.alloc (.cells #[.float .f64 0] 31 (0,0))):=yl hB1 _
    have hge1:u.heap.size≤w1.heap.size:=yt hB1
    generalize (w1.alloc (.cells #[.float .f64 0] 31 (0,0)))=w2 at hf hB2 ⊢
    generalize w1.heap.size=gf at hf hge1 ⊢
    refine Qt rfl rfl (store_flt hf) (Yb rfl (yx ?_))
    have hF3:ybA (w2.setCell ⟨gf,0,none⟩ (.float .f64 (FloatKind.f64.nearest k.2))) gf (FloatKind.f64.nearest k.2):=yy hf 0 _ rfl
    have hB3:Below u.heap.size u (w2.setCell ⟨gf,0,none⟩ (.float .f64 (FloatKind.f64.nearest k.2))):=((JQ.refl gf w2).set 0 _).below _ _ hge1 hB2
    generalize (w2.setCell ⟨gf,0,none⟩ (.float .f64 (FloatKind.f64.nearest k.2)))=w3 at hF3 hB3 ⊢
    have hI3:=hI.below hB3
    have h83:=h8.below hB3
    have h93:=h9.below hB3
    refine Yg (yF (yR rfl (r_bin (res:=.bool false) rfl rfl Zk (yx (Jt rfl (Jg ?_))))))
    refine yF (yR rfl (yR rfl (r_word h83.R rfl rfl hw8 fun q2=>Yb rfl (yx ?_))))
    refine yF (yR rfl (yx (YU ?_)))
    have hstep:ybj g.tc n k=upd n (QT g.tc+jj) (FloatKind.f64.nearest k.2):=by unfold ybj;rw [hlab]
    have hoj:QT g.tc+jj<141:=by
     revert hjj; unfold QT cntG; cases g.tc <;> simp <;> omega
    have hI4:=hI3.set (j:=QT g.tc+jj) hoj hF3 Zo
    have h84:=h83.turned ((JQ.refl g7 w3).set (1+(QT g.tc+jj)) (ptrV (some gf))) o8
    have h94:=h93.turned ((JQ.refl g7 w3).set (1+(QT g.tc+jj)) (ptrV (some gf))) o9
    rw [← hstep,← hfold] at hI4
    obtain ⟨tc,ks⟩:=g
    cases tc with
    | true=>
     refine yaO rfl Zk Zd Zd (yF (yR rfl (yx (YU ?_))))
     refine arms_walk (sw:=64) (fld:=1) (T:=52) (m:=123) (o:=0) (g:=g7) (b:=gf) (j:=jj) (s:=mkB k.1) (M:=inKn w.heap.size gl g7 v8 v9 (mkB (Jp true)) (j+1)) (fa_stat1 g7 0) (fun i hi W=>fa_tcp hi g7 _ W) hjj Zd hI3.h7 (fun a ha=>?_) (ls:=qw) (k:=65) ?hA _ rfl rfl rfl Zd Zd Zd hlab ?hM
     case hA=>repeat (first|exact Arms.nil|refine Arms.cons ?_)
     case hM=>exact fun i v h=>⟨in_lt h,Sub.get (M:=inKn w.heap.size gl g7 v8 v9 (mkB (Jp true)) (j+1)) ⟨rfl,rfl,rfl,rfl,rfl,rfl,rfl,rfl,trivial⟩ i v h⟩
     simp only [Exit.then,Exit.inBlock]
     refine ybF ha (at_r (yR rfl (QY rfl rfl (m:=((j+1+1:Nat):Int)) (by simp only [List.length_cons] at hN hjl;rw [wrap_i64 Zo Zo];omega) (Yb rfl (yx fun a ha=>?_)))))
     exact ⟨_,inKn w.heap.size gl g7 v8 v9 (mkB (Jp true)) (j+1+1),Nat.sub_lt_sub_left hjl (Nat.lt_succ_self j),ha.sub ⟨rfl,rfl,rfl,rfl,rfl,rfl,rfl,rfl,trivial⟩,j+1,_,hjl,rfl,rfl,hI4,h84,h94⟩
    | false=>
     refine Jk rfl Zk Zd Zd (yaO rfl Zk Zd Zd (yF (yR rfl (yx (YU ?_)))))
     refine arms_walk (sw:=483) (fld:=2) (T:=54) (m:=18) (o:=123) (g:=g7) (b:=gf) (j:=jj) (s:=mkB k.1) (M:=inKn w.heap.size gl g7 v8 v9 (mkB (Jp false)) (j+1)) (fa_stat2 g7 0) (fun i hi W=>fa_ip hi g7 _ W) hjj Zd hI3.h7 (fun a ha=>?_) (ls:=QN) (k:=484) ?hA _ rfl rfl rfl Zd Zd Zd hlab ?hM
     case hA=>repeat (first|exact Arms.nil|refine Arms.cons ?_)
     case hM=>exact fun i v h=>⟨in_lt h,Sub.get (M:=inKn w.heap.size gl g7 v8 v9 (mkB (Jp false)) (j+1)) ⟨rfl,rfl,rfl,rfl,rfl,rfl,rfl,rfl,trivial⟩ i v h⟩
     simp only [Exit.then,Exit.inBlock]
     refine ybF ha (at_r (yR rfl (QY rfl rfl (m:=((j+1+1:Nat):Int)) (by simp only [List.length_cons] at hN hjl;rw [wrap_i64 Zo Zo];omega) (Yb rfl (yx fun a ha=>?_)))))
     exact ⟨_,inKn w.heap.size gl g7 v8 v9 (mkB (Jp false)) (j+1+1),Nat.sub_lt_sub_left hjl (Nat.lt_succ_self j),ha.sub ⟨rfl,rfl,rfl,rfl,rfl,rfl,rfl,rfl,trivial⟩,j+1,_,hjl,rfl,rfl,hI4,h84,h94⟩
  · refine Yg (yF (yR rfl (yR rfl (r_llen h8.R rfl (yaj rfl rfl false (decide_eq_false (by rw [hl8];omega)) (yx (Jt rfl (yat fun a ha=>?_))))))))
    simp only [Exit.then,Exit.inBlock,reduceIte]
    have hjn:j=g.ks.length:=by omega
    subst hjn
    rw [List.take_length] at hI
    exact ⟨_,outKn w.heap.size gl g7,Nat.lt_succ_self _,ha.sub ⟨rfl,rfl,rfl,rfl,trivial⟩,r,_,_,_,rfl,rfl,hI,hrun2,by omega,fun g' hg'=>hgr g' (by simp [hg'])⟩
end Go.Proofs.YtlmennkeggmdbaaGreatDoor
