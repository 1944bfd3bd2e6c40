/- Part 4 of 34 of the proof of the tied card of FnNetstatRead. -/
import Derived.Test.YtlmennkeggmdbaaGreatDoorVz
import Derived.Test.YtlmennkeggmdbaaGreatDoorV3
import Derived.Deep.MidRow
import Derived.Laws.ResultCell
import Derived.Lib.LazyBuf
import Derived.Lib.ConvBytes
import Derived.Laws.IdiomStrings
set_option linter.unusedVariables false
set_option linter.unusedSimpArgs false
namespace Go.Proofs.YtlmennkeggmdbaaGreatDoor
open Go.RowKit Go.Proofs.YtlmennkeggmdbaaGreatDoorW.PrintWords Go.Proofs.YtlmennkeggmdbaaGreatDoorW.PrintLast Go.Proofs.YtlmennkeggmdbaaGreatDoorW.PrintMore
def Ready (w0 w:World) (g gr:Nat) (v:Value) (node:S34) (y:Value):Prop:=
 ∃ x0 x1 x2 x3 x4 x5 x6 x7,y=.agg #[x0,x1,x2,x3,x4,x5,x6,x7]∧Kd.M k34 w w0.heap.size (fun k=>(k≠g∧k≠gr)∧some k≠v.ownBlock) node [x0,x1,x2,x3,x4,x5,x6,x7]
def Mid (w0 w:World) (g gr:Nat) (onm:ByteArray) (kids:List S34) (v v1:Value):Prop:=
 Kd.R k34 34 w w0.heap.size (fun k=>k≠g∧k≠gr) v1 kids∧w.heap[g]?=some (.cells (Yl onm v) 34 (0,0))∧(∃ cs:Array Value,cs.size=8∧w.heap[gr]?=some (.cells cs 34 (0,0)))∧Below w0.heap.size w0 w
structure CallI (k:Nat) (a:Act) (w0:World) (g gr gv:Nat) (onm:ByteArray) (kids:List S34) (v:Value) (node:S34) (T fo:Nat) (vals:Array Value) (arg:Value) (b:Nat→Bool) (a':Act) (w':World):Prop where
 size:a'.tmps.size=a.tmps.size
 defers:a'.defers=a.defers
 old:∀ j:Nat,j<k→a'.eval (.tmp j)=a.eval (.tmp j)
 i0:b 0=true→a'.eval (.tmp k)=.pointer (some ⟨g,7,none⟩)
 i1:b 1=true→a'.eval (.tmp (k+1))=v
 i2:b 2=true→a'.eval (.tmp (k+2))=.pointer (some ⟨gv,fo,none⟩)
 i3:b 3=true→a'.eval (.tmp (k+3))=arg
 i7:b 7=true→a'.eval (.tmp (k+7))=.pointer (some ⟨g,7,none⟩)
 src:w'.heap[gv]?=some (.cells vals T (0,0))
 p0:b 5=false→NS w0 w' g gr onm kids v
 p4:b 4=true→b 5=false→Ready w0 w' g gr v node (a'.eval (.tmp (k+4)))
 p5:b 5=true→b 6=false→∃ (W:World) (x0 x1 x2 x3 x4 x5 x6 x7:Value),w'=W.alloc (.cells #[x0,x1,x2,x3,x4,x5,x6,x7] 34)∧a'.eval (.tmp (k+5))=.slice (some ⟨W.heap.size,0,none⟩) 1 1 ∧
  Kd.M k34 W w0.heap.size (fun k=>(k≠g∧k≠gr)∧some k≠v.ownBlock) node [x0,x1,x2,x3,x4,x5,x6,x7]∧NS w0 W g gr onm kids v∧W.heap[gv]?=some (.cells vals T (0,0))
 p6:b 6=true→b 8=false→∃ A c,a'.eval (.tmp (k+6))=.slice A (kids++[node]).length c∧Mid w0 w' g gr onm (kids++[node]) v (.slice A (kids++[node]).length c)
 p8:b 8=true→∃ v',NS w0 w' g gr onm (kids++[node]) v'
section
variable {k:Nat} {a:Act} {w0:World} {g gr gv:Nat} {onm:ByteArray} {kids:List S34} {v:Value} {node:S34} {T fo:Nat} {vals:Array Value} {arg:Value} {b:Nat→Bool} {a':Act} {w':World}
theorem CallI.put (h:CallI k a w0 g gr gv onm kids v node T fo vals arg b a' w') (i d:Nat) (u:Value) (hi:i<9) (hd:d=k+i) (hb:b i=false) (hsz:d<a.tmps.size)
 (q0:i=0→u=.pointer (some ⟨g,7,none⟩)) (q1:i=1→u=v) (q2:i=2→u=.pointer (some ⟨gv,fo,none⟩)) (q3:i=3→u=arg) (q7:i=7→u=.pointer (some ⟨g,7,none⟩)) (hi4:i≠4) (hi5:i≠5) (hi6:i≠6) (hi8:i≠8) :
 CallI k a w0 g gr gv onm kids v node T fo vals arg (up b i) (a'.put (some d) u) w':=by
 subst hd
 have hs:k+i<a'.tmps.size:=by rw [h.size];exact hsz
 have hn:∀ j:Nat,j≠k+i→(a'.put (some (k+i)) u).eval (.tmp j)=a'.eval (.tmp j):=fun j hj=>yb _ hj
 have hu:∀ j:Nat,j≠i→up b i j=b j:=fun j hj=>QS hj
 have hm:(a'.put (some (k+i)) u).eval (.tmp (k+i))=u:=ya _ hs
 refine ⟨by rw [size_put];exact h.size,by rw [yJ];exact h.defers,fun j hj=>(hn j Zo).trans (h.old j hj),?_,?_,?_,?_,?_,h.src,?_,?_,?_,?_,?_⟩
 · by_cases e:i=0
   · subst e;intro _;exact hm.trans (q0 rfl)
   · rw [hu 0 (Ne.symm e)];intro h0;exact (hn _ Zo).trans (h.i0 h0)
 · by_cases e:i=1
   · subst e;intro _;exact hm.trans (q1 rfl)
   · rw [hu 1 (Ne.symm e)];intro h0;exact (hn _ Zo).trans (h.i1 h0)
 · by_cases e:i=2
   · subst e;intro _;exact hm.trans (q2 rfl)
   · rw [hu 2 (Ne.symm e)];intro h0;exact (hn _ Zo).trans (h.i2 h0)
 · by_cases e:i=3
   · subst e;intro _;exact hm.trans (q3 rfl)
   · rw [hu 3 (Ne.symm e)];intro h0;exact (hn _ Zo).trans (h.i3 h0)
 · by_cases e:i=7
   · subst e;intro _;exact hm.trans (q7 rfl)
   · rw [hu 7 (Ne.symm e)];intro h0;exact (hn _ Zo).trans (h.i7 h0)
 · rw [hu 5 (Ne.symm hi5)];exact h.p0
 · rw [hu 4 (Ne.symm hi4),hu 5 (Ne.symm hi5),hn _ Zo];exact h.p4
 · rw [hu 5 (Ne.symm hi5),hu 6 (Ne.symm hi6),hn _ Zo];exact h.p5
 · rw [hu 6 (Ne.symm hi6),hu 8 (Ne.symm hi8),hn _ Zo];exact h.p6
 · rw [hu 8 (Ne.symm hi8)];exact h.p8
end
set_option maxRecDepth 100000 in
theorem ycZ {id k:Nat} {Q:Exit→Act→World→Prop} {rest:Code} {a:Act} {w0 w:World} {g gr gv:Nat} {onm:ByteArray} {kids:List S34} {v:Value} {T fi fo LT:Nat} {vals:Array Value} {arg:Value} {node:S34} {f:FuncId} {fn:Func} {aops:Array Operand} {args:Array Value}
 {d0 d1 d2 d3 d4 d5 d6 d7 d8:TypeId} {ts:Array TypeId} {p0 p1 p2 p3 p4 p5 p6 p7 p8:String}
 (hf:Tryz.prog.funcs[f]?=some fn) (hname:(fn.name == "runtime.NumGoroutine")=false) (hbody:fn.body.isSome=true)
 (hfa:∀ W:World,(Instr.fieldAt T (.pointer (some ⟨gv,0,none⟩)) fi).run Tryz.prog W=.ok (.pointer (some ⟨gv,fo,none⟩)) W)
 (hld:∀ W:World,W.heap[gv]?=some (.cells vals T (0,0))→(Instr.loadAt LT (.pointer (some ⟨gv,fo,none⟩))).run Tryz.prog W=.ok arg W)
 (hargs:∀ a':Act,(∀ j:Nat,j<k→a'.eval (.tmp j)=a.eval (.tmp j))→a'.eval (.tmp (k+3))=arg→aops.map a'.eval=args)
 (hcall:∀ W:World,Below w0.heap.size w0 W→Calls Tryz.prog f args W fun e w1=>∃ x0 x1 x2 x3 x4 x5 x6 x7,e=.returned (.agg #[x0,x1,x2,x3,x4,x5,x6,x7])∧Kd.M k34 w1 W.heap.size (fun _=>True) node [x0,x1,x2,x3,x4,x5,x6,x7]∧Below W.heap.size W w1)
 (hT:T≠34) (hk:5<k) (hsz:k+7<a.tmps.size) (hl:(kids.length+1) * 96≤140737488355328)
 (e3:a.eval (.tmp 3)=.pointer (some ⟨gv,0,none⟩)) (e4:a.eval (.tmp 4)=.pointer (some ⟨gr,0,none⟩)) (e5:a.eval (.tmp 5)=.pointer (some ⟨g,0,none⟩)) (hv:w.heap[gv]?=some (.cells vals T (0,0))) (hS:NS w0 w g gr onm kids v)
 (h:∀ a' w' v',a'.tmps.size=a.tmps.size→a'.defers=a.defers→a'.eval (.tmp 3)=.pointer (some ⟨gv,0,none⟩)→a'.eval (.tmp 4)=.pointer (some ⟨gr,0,none⟩)→a'.eval (.tmp 5)=.pointer (some ⟨g,0,none⟩) →
  w'.heap[gv]?=some (.cells vals T (0,0))→NS w0 w' g gr onm (kids++[node]) v'→rest.wp Tryz.prog Q a' w') :
 (Code.seq (.region id #[⟨some k,.fieldAddr 34 (.tmp 5) 7,d0,p0,#[],none⟩,⟨some (k+1),.load 32 (.tmp k),d1,p1,#[⟨0,.data⟩],none⟩,⟨some (k+2),.fieldAddr T (.tmp 3) fi,d2,p2,#[],none⟩,⟨some (k+3),.load LT (.tmp (k+2)),d3,p3,#[⟨2,.data⟩],none⟩,
  ⟨some (k+4),.call { callee:=.value (.func f),args:=aops,argTypes:=ts },d4,p4,#[⟨3,.data⟩],none⟩,⟨some (k+5),.buildSlice 32 1 #[(0,.tmp (k+4))],d5,p5,#[⟨4,.data⟩],none⟩,
  ⟨some (k+6),.call { callee:=.builtin .append,args:=#[.tmp (k+1),.tmp (k+5)],argTypes:=#[32,32] },d6,p6,#[⟨1,.data⟩,⟨5,.data⟩,⟨4,.chain⟩],none⟩,
  ⟨some (k+7),.fieldAddr 34 (.tmp 5) 7,d7,p7,#[⟨0,.phase⟩,⟨1,.phase⟩,⟨2,.phase⟩,⟨3,.phase⟩,⟨4,.phase⟩,⟨5,.phase⟩,⟨6,.phase⟩],none⟩,
  ⟨none,.store 32 (.tmp (k+7)) (.tmp (k+6)),d8,p8,#[⟨7,.data⟩,⟨6,.data⟩,⟨6,.chain⟩,⟨0,.phase⟩,⟨1,.phase⟩,⟨2,.phase⟩,⟨3,.phase⟩,⟨4,.phase⟩,⟨5,.phase⟩,⟨6,.phase⟩],none⟩] true) rest).wp Tryz.prog Q a w:=by
 refine wp_seq ?_
 refine QQ (n:=9) (S:=fun _=>True) (ds:=[]) #[false,false,false,false,false,false,false,false,false] Zk rfl rfl trivial (fun _=>?_)
 have hd:∀ {o:Oper} {a':Act} {opl:Array Oper},o.guard=none→Region.wanted o (yielded opl a'.tmps)=true:=fun hg=>by simp [Region.wanted,hg]
 refine inv_ (B:=[0,1,0,4,12,28,63,127,255]) [0,1,2,3,4,5,6,7,8] (CallI k a w0 g gr gv onm kids v node T fo vals arg) rfl Zk Zk Zk ?_ ?_ ?_
 · exact ⟨rfl,rfl,fun _ _=>rfl,(fun h=>by cases h),(fun h=>by cases h),(fun h=>by cases h),(fun h=>by cases h),(fun h=>by cases h),hv,fun _=>⟨Kd.qh hS.own,hS.blk,hS.res,hS.ge,hS.ger,hS.ne,hS.below.drew⟩,(fun h=>by cases h),(fun h=>by cases h),(fun h=>by cases h),(fun h=>by cases h)⟩
 · refine qc ?_ (qc ?_ (qc ?_ (qc ?_ (qc ?_ (qc ?_ (qc ?_ (qc ?_ (qc ?_ steps_nil))))))))
   · intro b a' w' hI hb hpre hpost
     refine ⟨_,rfl,fun K hK=>?_⟩
     refine QD (hd rfl) rfl (yG (p:=.pointer (some ⟨g,0,none⟩)) ((hI.old 5 hk).trans e5) (Q0 ..)) (hK.out _ _ ?_)
     exact hI.put 0 k _ Zd rfl hb Zo (fun _=>rfl) (fun h=>absurd h Zd) (fun h=>absurd h Zd) (fun h=>absurd h Zd) (fun h=>absurd h Zd) Zd Zd Zd Zd
   · intro b a' w' hI hb hpre hpost
     refine ⟨_,rfl,fun K hK=>?_⟩
     have b6:b 6=false:=hpost 6 Zd
     have hblk:w'.heap[g]?=some (.cells (Yl onm v) 34 (0,0)):=by
      cases b5:b 5 with
      | false=>exact (hI.p0 b5).blk
      | true=>
       obtain ⟨W,x0,x1,x2,x3,x4,x5,x6,x7,rfl,_,_,hN,_⟩:=hI.p5 b5 b6
       exact Yw hN.blk _
     refine QD (hd rfl) rfl (run_load (hI.i0 (hpre 0 Zd)) (ya8 hblk rfl)) (hK.out _ _ ?_)
     exact hI.put 1 (k+1) _ Zd rfl hb Zo (fun h=>absurd h Zd) (fun _=>rfl) (fun h=>absurd h Zd) (fun h=>absurd h Zd) (fun h=>absurd h Zd) Zd Zd Zd Zd
   · intro b a' w' hI hb hpre hpost
     refine ⟨_,rfl,fun K hK=>?_⟩
     refine QD (hd rfl) rfl (yG (p:=.pointer (some ⟨gv,0,none⟩)) ((hI.old 3 Zo).trans e3) (hfa _)) (hK.out _ _ ?_)
     exact hI.put 2 (k+2) _ Zd rfl hb Zo (fun h=>absurd h Zd) (fun h=>absurd h Zd) (fun _=>rfl) (fun h=>absurd h Zd) (fun h=>absurd h Zd) Zd Zd Zd Zd
   · intro b a' w' hI hb hpre hpost
     refine ⟨_,rfl,fun K hK=>?_⟩
     refine QD (hd rfl) rfl (run_load (hI.i2 (hpre 2 Zd)) (hld _ hI.src)) (hK.out _ _ ?_)
     exact hI.put 3 (k+3) _ Zd rfl hb Zo (fun h=>absurd h Zd) (fun h=>absurd h Zd) (fun h=>absurd h Zd) (fun _=>rfl) (fun h=>absurd h Zd) Zd Zd Zd Zd
   · intro b a' w' hI hb hpre hpost
     refine ⟨_,rfl,fun K hK=>?_⟩
     have b5:b 5=false:=hpost 5 Zd
     have b6:b 6=false:=hpost 6 Zd
     have b8:b 8=false:=hpost 8 Zd
     have hN:=hI.p0 b5
     refine goes_ hf hname hbody args (hd rfl) rfl rfl (hargs _ hI.old (hI.i3 (hpre 3 Zd))) ?_
     refine (hcall w' hN.below).mono ?_
     rintro e w1 ⟨x0,x1,x2,x3,x4,x5,x6,x7,rfl,hM,hB⟩
     refine ⟨_,rfl,hK.out _ _ ?_⟩
     change CallI k a w0 g gr gv onm kids v node T fo vals arg (up b 4) (a'.put (some (k+4)) _) _
     have hn:∀ j:Nat,j≠k+4→(a'.put (some (k+4)) (.agg #[x0,x1,x2,x3,x4,x5,x6,x7])).eval (.tmp j)=a'.eval (.tmp j):=fun j hj=>yb _ hj
     have hu:∀ j:Nat,j≠4→up b 4 j=b j:=fun j hj=>QS hj
     obtain ⟨cr,hcr,hr⟩:=hN.res
     have hN1:NS w0 w1 g gr onm kids v:=⟨Kd.Y1 hN.own hB,yI hN.blk hB,⟨cr,hcr,yI hr hB⟩,hN.ge,hN.ger,hN.ne,yw hN.below hB⟩
     refine ⟨by rw [size_put];exact hI.size,by rw [yJ];exact hI.defers,fun j hj=>(hn j Zo).trans (hI.old j hj),?_,?_,?_,?_,?_,yI hI.src hB,fun _=>hN1,?_,?_,?_,?_⟩
     · rw [hu 0 Zd,hn _ Zo];exact hI.i0
     · rw [hu 1 Zd,hn _ Zo];exact hI.i1
     · rw [hu 2 Zd,hn _ Zo];exact hI.i2
     · rw [hu 3 Zd,hn _ Zo];exact hI.i3
     · rw [hu 7 Zd,hn _ Zo];exact hI.i7
     · intro _ _
       rw [ya _ (by rw [hI.size];omega)]
       refine ⟨x0,x1,x2,x3,x4,x5,x6,x7,rfl,?_⟩
       have hg:=YQ hN.blk
       have hgr:=YQ hr
       refine k34.Jq (fun j hj=>?_) (k34.JU (yt hN.below) (k34.Jr hM))
       have hj2:=hj.2.1
       refine ⟨⟨by omega,by omega⟩,fun e=>?_⟩
       obtain ⟨cells,hc⟩:=Kd.yap hN.own j e.symm
       have:=YQ hc
       omega
     · rw [hu 5 Zd,b5];intro h;cases h
     · rw [hu 6 Zd,b6];intro h;cases h
     · rw [hu 8 Zd,b8];intro h;cases h
   · intro b a' w' hI hb hpre hpost
     refine ⟨_,rfl,fun K hK=>?_⟩
     have b4:b 4=true:=hpre 4 Zd
     have b6:b 6=false:=hpost 6 Zd
     have b8:b 8=false:=hpost 8 Zd
     have hN:=hI.p0 hb
     obtain ⟨x0,x1,x2,x3,x4,x5,x6,x7,hx,hM⟩:=hI.p4 b4 hb
     refine QD (hd rfl) rfl (run_lit1 hx (run_lit34 ..)) (hK.out _ _ ?_)
     change CallI k a w0 g gr gv onm kids v node T fo vals arg (up b 5) (a'.put (some (k+5)) _) _
     have hn:∀ (u:Value) (j:Nat),j≠k+5→(a'.put (some (k+5)) u).eval (.tmp j)=a'.eval (.tmp j):=fun u j hj=>yb _ hj
     have hu:∀ j:Nat,j≠5→up b 5 j=b j:=fun j hj=>QS hj
     refine ⟨by rw [size_put];exact hI.size,by rw [yJ];exact hI.defers,fun j hj=>(hn _ j Zo).trans (hI.old j hj),?_,?_,?_,?_,?_,Yw hI.src _,?_,?_,?_,?_,?_⟩
     · rw [hu 0 Zd,hn _ _ Zo];exact hI.i0
     · rw [hu 1 Zd,hn _ _ Zo];exact hI.i1
     · rw [hu 2 Zd,hn _ _ Zo];exact hI.i2
     · rw [hu 3 Zd,hn _ _ Zo];exact hI.i3
     · rw [hu 7 Zd,hn _ _ Zo];exact hI.i7
     · rw [Q3];intro h;cases h
     · rw [Q3];intro _ h;cases h
     · intro _ _
       exact ⟨w',x0,x1,x2,x3,x4,x5,x6,x7,rfl,ya _ (by rw [hI.size];omega),hM,hN,hI.src⟩
     · rw [hu 6 Zd,b6];intro h;cases h
     · rw [hu 8 Zd,b8];intro h;cases h
   · intro b a' w' hI hb hpre hpost
     refine ⟨_,rfl,fun K hK=>?_⟩
     have b5:b 5=true:=hpre 5 Zd
     have b8:b 8=false:=hpost 8 Zd
     obtain ⟨W,x0,x1,x2,x3,x4,x5,x6,x7,rfl,he5,hM,hN,hsrc⟩:=hI.p5 b5 hb
     obtain ⟨cr,hcr,hr⟩:=hN.res
     refine Kd.Q6 k34 (w0:=w0) w0.heap.size (hd rfl) (.tmp (k+1)) (.tmp (k+5)) 32 34 (.agg #[(.string ⟨#[]⟩),(.int .i64 0),(.bool false),(.int .i64 0),(.int .u64 0),(.float .f64 0),(.string ⟨#[]⟩),(.slice none 0 0)]) 96 rfl Tryz.underlying32 info34 rfl Zd Zo
      v kids node [x0,x1,x2,x3,x4,x5,x6,x7] (fun k=>k≠g∧k≠gr) (fun k=>(k≠g∧k≠gr)∧some k≠v.ownBlock) (hI.i1 (hpre 1 Zd)) he5 hM (fun _ hk=>hk) ?_ hN.own hN.below (yt hN.below) hl ?_
     · exact fun k hk=>⟨by have:=YQ hN.blk;omega,by have:=YQ hr;omega⟩
     intro v1 w1 hR hbl hg hat
     obtain ⟨A,c,hv1⟩:=Kd.YF hR
     subst hv1
     refine hK.out _ _ ?_
     change CallI k a w0 g gr gv onm kids v node T fo vals arg (up b 6) (a'.put (some (k+6)) _) _
     have hn:∀ (u:Value) (j:Nat),j≠k+6→(a'.put (some (k+6)) u).eval (.tmp j)=a'.eval (.tmp j):=fun u j hj=>yb _ hj
     have hu:∀ j:Nat,j≠6→up b 6 j=b j:=fun j hj=>QS hj
     have hsrc1:w1.heap[gv]?=some (.cells vals T (0,0)):=by
      refine YV hsrc hg (fun e=>?_)
      obtain ⟨cells,hc⟩:=Kd.yap hN.own gv e.symm
      rw [hsrc] at hc
      injection hc with hc
      injection hc with _ hc
      exact hT hc
     refine ⟨by rw [size_put];exact hI.size,by rw [yJ];exact hI.defers,fun j hj=>(hn _ j Zo).trans (hI.old j hj),?_,?_,?_,?_,?_,hsrc1,?_,?_,?_,?_,?_⟩
     · rw [hu 0 Zd];intro h0;exact (hn _ _ Zo).trans (hI.i0 h0)
     · rw [hu 1 Zd];intro h0;exact (hn _ _ Zo).trans (hI.i1 h0)
     · rw [hu 2 Zd];intro h0;exact (hn _ _ Zo).trans (hI.i2 h0)
     · rw [hu 3 Zd];intro h0;exact (hn _ _ Zo).trans (hI.i3 h0)
     · rw [hu 7 Zd];intro h0;exact (hn _ _ Zo).trans (hI.i7 h0)
     · rw [hu 5 Zd,b5];intro h;cases h
     · rw [hu 5 Zd,b5];intro _ h;cases h
     · rw [Q3];intro _ h;cases h
     · intro _ _
       exact ⟨A,c,ya _ (by rw [hI.size];omega),hR,YV hN.blk hg (Kd.Q7 hN.own (fun k hk=>hk.1)),⟨cr,hcr,YV hr hg (Kd.Q7 hN.own (fun k hk=>hk.2))⟩,hbl⟩
     · rw [hu 8 Zd,b8];intro h;cases h
   · intro b a' w' hI hb hpre hpost
     refine ⟨_,rfl,fun K hK=>?_⟩
     refine QD (hd rfl) rfl (yG (p:=.pointer (some ⟨g,0,none⟩)) ((hI.old 5 hk).trans e5) (Q0 ..)) (hK.out _ _ ?_)
     exact hI.put 7 (k+7) _ Zd rfl hb Zo (fun h=>absurd h Zd) (fun h=>absurd h Zd) (fun h=>absurd h Zd) (fun h=>absurd h Zd) (fun _=>rfl) Zd Zd Zd Zd
   · intro b a' w' hI hb hpre hpost
     refine ⟨_,rfl,fun K hK=>?_⟩
     have b5:b 5=true:=hpre 5 Zd
     have b6:b 6=true:=hpre 6 Zd
     obtain ⟨A,c,he6,hR,hblk,⟨cr,hcr,hr⟩,hbl⟩:=hI.p6 b6 hb
     refine skip_ (hd rfl) rfl (run_store (hI.i7 (hpre 7 Zd)) he6 (run_st7 hblk (by simp))) (hK.out _ _ ?_)
     change CallI k a w0 g gr gv onm kids v node T fo vals arg (up b 8) a' _
     have hu:∀ j:Nat,j≠8→up b 8 j=b j:=fun j hj=>QS hj
     have hgv:gv≠g:=blk_ne hI.src hblk hT
     refine ⟨hI.size,hI.defers,hI.old,?_,?_,?_,?_,?_,yH hI.src hgv _,?_,?_,?_,?_,?_⟩
     · rw [hu 0 Zd];exact hI.i0
     · rw [hu 1 Zd];exact hI.i1
     · rw [hu 2 Zd];exact hI.i2
     · rw [hu 3 Zd];exact hI.i3
     · rw [hu 7 Zd];exact hI.i7
     · rw [hu 5 Zd,b5];intro h;cases h
     · rw [hu 5 Zd,b5];intro _ h;cases h
     · rw [hu 6 Zd,b6];intro _ h;cases h
     · rw [Q3];intro _ h;cases h
     · intro _
       exact ⟨.slice A (kids++[node]).length c,Kd.YN hR (p:=⟨g,7,none⟩) (fun k hk=>hk.1) _,yy hblk 7 _ rfl,⟨cr,hcr,yH hr (fun e=>hS.ne e.symm) _⟩,hS.ge,hS.ger,hS.ne,yu hbl hS.ge⟩
 · intro b a' w' hall hI
   obtain ⟨v',hN⟩:=hI.p8 (hall 8 Zd)
   exact h a' w' v' hI.size hI.defers ((hI.old 3 Zo).trans e3) ((hI.old 4 Zo).trans e4) ((hI.old 5 hk).trans e5) hI.src hN
end Go.Proofs.YtlmennkeggmdbaaGreatDoor

namespace Go.Proofs.YtlmennkeggmdbaaGreatDoor
open Go.RowKit Go.Proofs.YtlmennkeggmdbaaGreatDoorW.PrintWords Go.Proofs.YtlmennkeggmdbaaGreatDoorW.PrintLast Go.Proofs.YtlmennkeggmdbaaGreatDoorW.PrintMore
def Runs (P:Program) (K:Act→World→Prop):List Oper→Act→World→Prop
 | [],a,w=>K a w
 | o::r,a,w=>o.guard=none∧((∃ v w1,(execOp a.eval o).run P w=.ok (.value v) w1∧Runs P K r (a.put o.dst v) w1)∨(o.dst=none∧∃ w1,(execOp a.eval o).run P w=.ok .skip w1∧Runs P K r a w1))
section
variable {P:Program} {K:Act→World→Prop} {a:Act} {w w1:World} {o:Oper} {r:List Oper} {v:Value}
theorem Yd (h:K a w):Runs P K [] a w:=h
theorem yq (hg:o.guard=none) (hrun:(execOp a.eval o).run P w=.ok (.value v) w1) (h:Runs P K r (a.put o.dst v) w1):Runs P K (o::r) a w:=⟨hg,.inl ⟨v,w1,hrun,h⟩⟩
theorem yal (hg:o.guard=none) (hd:o.dst=none) (hrun:(execOp a.eval o).run P w=.ok .skip w1) (h:Runs P K r a w1):Runs P K (o::r) a w:=⟨hg,.inr ⟨hd,w1,hrun,h⟩⟩
theorem qO {ops:Array Oper} {Q:Exit→Act→World→Prop}:∀ {l:List Oper} {a:Act} {w:World},Runs P (fun a w=>Q .normal a w) l a w→wpList P ops Q l a w
 | [],_,_,h=>h
 | o::r,a,w,⟨hg,h⟩=>by
  rcases h with ⟨v,w1,hrun,h⟩|⟨hd,w1,hrun,h⟩
  · exact Kd.yB hg hrun (qO h)
  · exact JH hg hd hrun (qO h)
end
theorem yY {P:Program} {id:Nat} {ops:Array Oper} {rest:Code} {Q:Exit→Act→World→Prop} {a:Act} {w:World}
 (h:Runs P (fun a w=>rest.wp P Q a w) ops.toList a w):(Code.seq (.region id ops false) rest).wp P Q a w:=
 wp_seq (wp_region_list (qO h))
structure Early (k m:Nat) (Y:Nat→Value) (a a':Act) (b:Nat→Bool):Prop where
 size:a'.tmps.size=a.tmps.size
 defers:a'.defers=a.defers
 old:∀ j:Nat,j<k→a'.eval (.tmp j)=a.eval (.tmp j)
 got:∀ j:Nat,j<m→b j=true→a'.eval (.tmp (k+j))=Y j
theorem Early.put {k m:Nat} {Y:Nat→Value} {a a':Act} {b:Nat→Bool} (h:Early k m Y a a' b) {i:Nat} (hi:i<m) (hsz:k+m≤a.tmps.size):Early k m Y a (a'.put (some (k+i)) (Y i)) (up b i):=by
 refine ⟨by rw [size_put];exact h.size,by rw [yJ];exact h.defers,fun j hj=>(yb _ Zo).trans (h.old j hj),fun j hj hb=>?_⟩
 by_cases e:j=i
 · subst e;exact ya _ (by rw [h.size];omega)
 · rw [QS e] at hb
   exact (yb _ Zo).trans (h.got j hj hb)
end Go.Proofs.YtlmennkeggmdbaaGreatDoor
namespace Go.Proofs.YtlmennkeggmdbaaGreatDoor
open Go.RowKit Go.Proofs.YtlmennkeggmdbaaGreatDoorW.PrintWords Go.Proofs.YtlmennkeggmdbaaGreatDoorW.PrintLast Go.Proofs.YtlmennkeggmdbaaGreatDoorW.PrintMore
section
variable {P:Program} {ρ:Operand→Value} {d:Option Tmp} {ty:TypeId} {pos:String} {aft:Array Edge} {gd:Option (Nat × Bool)} {w w1:World}
theorem qv {ST:Nat} {x y:Operand} {u i v:Value} (hx:ρ x=u) (hy:ρ y=i) (hl:(Instr.indexAt ST u i).run P w=.ok v w):(execOp ρ ⟨d,.indexAddr ST x y,ty,pos,aft,gd⟩).run P w=.ok (.value v) w:=by
 subst hx hy;exact Y8 hl
theorem ya7 {T:Nat} {xs:Array (Nat × Operand)} {vs:Array (Nat × Value)} {v:Value} (hx:xs.map (fun p=>(p.1,ρ p.2))=vs) (hl:(Instr.build T vs).run P w=.ok v w):(execOp ρ ⟨d,.build T xs,ty,pos,aft,gd⟩).run P w=.ok (.value v) w:=by
 have:(execOp ρ ⟨d,.build T xs,ty,pos,aft,gd⟩)=(do pure (Next.value (← Instr.build T (xs.map fun p=>(p.1,ρ p.2)))):Sem Next):=by simp [execOp]
 rw [this,hx];exact Y8 hl
theorem JF {x:Operand} {n:Nat} {u v:Value} (hx:ρ x=u) (hl:(Instr.extract u n).run P w=.ok v w):(execOp ρ ⟨d,.extract x n,ty,pos,aft,gd⟩).run P w=.ok (.value v) w:=by
 subst hx;exact Y8 hl
theorem Y0 {x y:Operand} {T T':Nat} {op:BinOp} {u v r:Value} (hx:ρ x=u) (hy:ρ y=v) (hl:(do eqGuard op T x y u v;binOp op T u v:Sem Value).run P w=.ok r w):(execOp ρ ⟨d,.binOp op T x y T',ty,pos,aft,gd⟩).run P w=.ok (.value r) w:=by
 subst hx hy;exact Y8 hl
end
theorem Qm {a:Act} {d:Option Tmp} {ty:TypeId} {pos:String} {aft:Array Edge} {gd:Option (Nat × Bool)} {x n cap:Nat} {ST:TypeId} {A:Option Addr} (hu:Tryz.prog.underlying ST=some (.slice (Tryz.prog.elem ST))) (hx:a.eval (.tmp x)=.slice A n cap) (W:World) :
 (execOp a.eval ⟨d,.call { callee:=.builtin .len,args:=#[.tmp x],argTypes:=#[ST] },ty,pos,aft,gd⟩).run Tryz.prog W=.ok (.value (.int .i64 n)) W:=by
 have hx':a.tmps[x]?.getD undef=.slice A n cap:=by simpa [Act.eval] using hx
 simp [execOp,go_sem,hx',run_len_slice (h:=hu),goInt]
theorem idx_of {ST:TypeId} (hu:Tryz.prog.underlying ST=some (.slice (Tryz.prog.elem ST))) (h1:(Tryz.prog.info? (Tryz.prog.elem ST)).map (·.size)=some 1) {g c cap j:Nat} (hj:j<c) (W:World) :
 (Instr.indexAt ST (.slice (some ⟨g,0,none⟩) c cap) (.int .i64 j)).run Tryz.prog W=.ok (.pointer (some ⟨g,j,none⟩)) W:=by
 rw [run_indexAt_slice (h:=hu),if_pos ⟨by omega,by omega⟩]
 cases hq:Tryz.prog.info? (Tryz.prog.elem ST) with
 | none=>rw [hq] at h1;cases h1
 | some i=>
  rw [hq] at h1
  have h1:i.size=1:=by simpa using h1
  simp [sizeOf,typeInfo,hq,h1,Addr.add]
  intro h;omega
theorem Qz {T:TypeId} {v:Value} {W:World} {g j:Nat} (hT:(isAgg T).run Tryz.prog W=.ok false W) (hc:W.cell? ⟨g,j,none⟩=some v):(Instr.loadAt T (.pointer (some ⟨g,j,none⟩))).run Tryz.prog W=.ok v W:=by
 simp [Instr.loadAt,Instr.sureAddr,go_sem,hc,hT]
end Go.Proofs.YtlmennkeggmdbaaGreatDoor
namespace Go.Proofs.YtlmennkeggmdbaaGreatDoor
open Go.RowKit Go.Proofs.YtlmennkeggmdbaaGreatDoorW.PrintWords Go.Proofs.YtlmennkeggmdbaaGreatDoorW.PrintLast Go.Proofs.YtlmennkeggmdbaaGreatDoorW.PrintMore
theorem YA {ops:Array Oper} {o oj:Oper} {a:Act} {j d:Nat} {b:Bool} (hg:o.guard=some (j,b)) (hj:ops[j]?=some oj) (hd:oj.dst=some d) (hs:d<a.tmps.size) (hv:a.eval (.tmp d)=.bool b):Region.wanted o (yielded ops a.tmps)=true:=by
 have h1:a.tmps[d]?=some (.bool b):=by
  have:a.tmps.getD d undef=.bool b:=hv
  rw [Array.getD_eq_getD_getElem?] at this
  rw [Array.getElem?_eq_getElem hs] at this ⊢
  exact congrArg some this
 simp [Region.wanted,yielded,hg,hj,hd,h1]
theorem Jv {P:Program} {w:World} {ρ:Operand→Value} {d ty pos aft gd} {c x y:Operand} {b:Bool} (hc:ρ c=.bool b):(execOp ρ ⟨d,.pick c x y,ty,pos,aft,gd⟩).run P w=.ok (.value (if b then ρ x else ρ y)) w:=by
 simp [execOp,asBool,hc]
structure EarlyA (k m d:Nat) (Y:Nat→Value) (a a':Act) (b:Nat→Bool):Prop where
 size:a'.tmps.size=a.tmps.size
 defers:a'.defers=a.defers
 old:∀ j:Nat,j<k→j≠d→a'.eval (.tmp j)=a.eval (.tmp j)
 got:∀ j:Nat,j<m→b j=true→a'.eval (.tmp (k+j))=Y j
structure RecS (w0:World) (T L g cap g0 g1:Nat) (K:IntKind) (x:Nat→Int) (cells:List Value) (n:Nat) (a:Act) (w:World):Prop where
 size:a.tmps.size=n
 defers:a.defers=[]
 e0:a.eval (.tmp 0)=.slice (some ⟨g,0,none⟩) L cap
 e2:a.eval (.tmp 2)=.pointer (some ⟨g0,0,none⟩)
 e4:a.eval (.tmp 4)=.int .i64 L
 e5:a.eval (.tmp 5)=.pointer (some ⟨g1,0,none⟩)
 ge0:w0.heap.size≤g0
 ge1:w0.heap.size≤g1
 ne:g0≠g1
 there0:w.there g0 0 L
 range:w.rangeAt g1 0 cells
 there1:w.there g1 0 L
 below:Below w0.heap.size w0 w
 nums:∀ j:Nat,j<L→w.cell? ⟨g,j,none⟩=some (.int K (x j))
end Go.Proofs.YtlmennkeggmdbaaGreatDoor
namespace Go.Proofs.YtlmennkeggmdbaaGreatDoor
open Go.RowKit Go.Proofs.YtlmennkeggmdbaaGreatDoorW.PrintWords Go.Proofs.YtlmennkeggmdbaaGreatDoorW.PrintLast Go.Proofs.YtlmennkeggmdbaaGreatDoorW.PrintMore
section
variable {a:Act} {d:Option Tmp} {ty:TypeId} {pos:String} {aft:Array Edge} {gd:Option (Nat × Bool)} {w w1:World} {x y:Operand}
theorem ya9 {i n:Int} (hx:a.eval x=.int .i64 i) (hy:a.eval y=.int .i64 n):(execOp a.eval ⟨d,.binOp .lss 3 x y 3,ty,pos,aft,gd⟩).run Tryz.prog w=.ok (.value (.bool (decide (i<n)))) w:=
 Y0 hx hy Zk
theorem ybZ {i n:Int} (hx:a.eval x=.int .i64 i) (hy:a.eval y=.int .i64 n):(execOp a.eval ⟨d,.binOp .add 3 x y 3,ty,pos,aft,gd⟩).run Tryz.prog w=.ok (.value (.int .i64 (IntKind.i64.wrap (i+n)))) w:=
 Y0 hx hy Zk
theorem yba {T:TypeId} (hx:a.eval x=.nilIface) (hl:∀ W:World,(do eqGuard .neq T x (.const .nilIface) .nilIface .nilIface;binOp .neq T .nilIface .nilIface:Sem Value).run Tryz.prog W=.ok (.bool false) W) :
 (execOp a.eval ⟨d,.binOp .neq T x (.const .nilIface) T,ty,pos,aft,gd⟩).run Tryz.prog w=.ok (.value (.bool false)) w:=Y0 hx rfl (hl _)
theorem run_litv {T:TypeId} {u v:Value} (hx:a.eval x=u) (hl:(Instr.buildSlice T 1 #[(0,u)]).run Tryz.prog w=.ok v w1):(execOp a.eval ⟨d,.buildSlice T 1 #[(0,x)],ty,pos,aft,gd⟩).run Tryz.prog w=.ok (.value v) w1:=by
 have:(execOp a.eval ⟨d,.buildSlice T 1 #[(0,x)],ty,pos,aft,gd⟩)=(do pure (Next.value (← Instr.buildSlice T 1 #[(0,a.eval x)])):Sem Next):=by simp [execOp]
 rw [this,hx];exact Y8 hl
end
theorem J8 (u v:Value) (w:World):(Instr.extract (.tuple #[u,v]) 0).run Tryz.prog w=.ok u w:=by kernel_rfl
theorem J9 (u v:Value) (w:World):(Instr.extract (.tuple #[u,v]) 1).run Tryz.prog w=.ok v w:=by kernel_rfl
theorem wrap_i64 {i:Int} (h0 : -9223372036854775808≤i) (h:i<9223372036854775808):IntKind.i64.wrap i=i:=by
 simp [IntKind.wrap,IntKind.bits,IntKind.signed]
 omega
theorem wrap_u64 {i:Int} (h0:0≤i) (h:i<18446744073709551616):IntKind.u64.wrap i=i:=by
 simp [IntKind.wrap,IntKind.bits,IntKind.signed]
 omega
theorem yas {a:Act} {j:Nat} {v:Value} (h:a.eval (.tmp j)=v):#[Operand.tmp j].map a.eval=#[v]:=by simp [h]
end Go.Proofs.YtlmennkeggmdbaaGreatDoor
namespace Go.Proofs.YtlmennkeggmdbaaGreatDoor
open Go.RowKit Go.Proofs.YtlmennkeggmdbaaGreatDoorW.PrintWords Go.Proofs.YtlmennkeggmdbaaGreatDoorW.PrintLast Go.Proofs.YtlmennkeggmdbaaGreatDoorW.PrintMore
section
variable {a:Act} {d:Option Tmp} {ty:TypeId} {pos:String} {aft:Array Edge} {gd:Option (Nat × Bool)} {w w1:World} {x y:Operand}
theorem yV {v:Value} (hx:a.eval x=v):(execOp a.eval ⟨d,.move x,ty,pos,aft,gd⟩).run Tryz.prog w=.ok (.value v) w:=by
 subst hx;rfl
theorem YL {v:Value} (hx:a.eval x=v):(execOp a.eval ⟨d,.assign x,ty,pos,aft,gd⟩).run Tryz.prog w=.ok (.value v) w:=by
 subst hx;rfl
theorem Y4 {p:Addr} (hx:a.eval x=.pointer (some p)):(execOp a.eval ⟨d,.nilCheck x,ty,pos,aft,gd⟩).run Tryz.prog w=.ok (.value (.pointer (some p))) w:=by
 simp [execOp,hx]
theorem Qu {x:Nat} {s:ByteArray} (hx:a.eval (.tmp x)=.string s):(execOp a.eval ⟨d,.call { callee:=.builtin .len,args:=#[.tmp x],argTypes:=#[9] },ty,pos,aft,gd⟩).run Tryz.prog w=.ok (.value (.int .i64 s.size)) w:=by
 have hx':a.tmps[x]?.getD undef=.string s:=by simpa [Act.eval] using hx
 simp [execOp,go_sem,hx',run_len_string (h:=Tryz.underlying9),goInt]
theorem ydp {s:ByteArray} {i:Nat} (hx:a.eval x=.string s) (hy:a.eval y=.int .i64 i) (hi:i<s.size):(execOp a.eval ⟨d,.index 9 x y,ty,pos,aft,gd⟩).run Tryz.prog w=.ok (.value (.int .u8 (s[i]'hi).toNat)) w:=by
 have h1:(Instr.index 9 (a.eval x) (a.eval y)).run Tryz.prog w=.ok (.int .u8 (s[i]'hi).toNat) w:=by
  rw [hx,hy,run_index_string (h:=Tryz.underlying9),dif_pos ⟨by omega,by omega⟩]
  rfl
 exact Y8 h1
theorem run_sto {s:ByteArray} {n:Nat} (hx:a.eval x=.string s) (hy:a.eval y=.int .i64 n) (hn:n≤s.size):(execOp a.eval ⟨d,.slice 9 x none (some y) none,ty,pos,aft,gd⟩).run Tryz.prog w=.ok (.value (.string (s.extract 0 n))) w:=by
 have h1:(Instr.sliceAt 9 (a.eval x) none (some (a.eval y)) none).run Tryz.prog w=.ok (.string (s.extract 0 n)) w:=by
  rw [hx,hy,run_sliceAt_string (h:=Tryz.underlying9),run_slice_string_h (ht:=Tryz.underlying9)]
  · rfl
  · omega
  · omega
 exact Y8 h1
theorem run_sfrom {s:ByteArray} {n:Nat} (hx:a.eval x=.string s) (hy:a.eval y=.int .i64 n) (hn:n≤s.size):(execOp a.eval ⟨d,.slice 9 x (some y) none none,ty,pos,aft,gd⟩).run Tryz.prog w=.ok (.value (.string (s.extract n s.size))) w:=by
 have h1:(Instr.sliceAt 9 (a.eval x) (some (a.eval y)) none none).run Tryz.prog w=.ok (.string (s.extract n s.size)) w:=by
  rw [hx,hy,run_sliceAt_string (h:=Tryz.underlying9),run_slice_string_l (ht:=Tryz.underlying9)]
  · rfl
  · omega
  · omega
 exact Y8 h1
theorem run_seq {s:ByteArray} {c:ByteArray} (hx:a.eval x=.string s):(execOp a.eval ⟨d,.binOp .eql 9 x (.const (.string c)) 9,ty,pos,aft,gd⟩).run Tryz.prog w=.ok (.value (.bool (s.toList == c.toList))) w:=
 Y0 hx rfl Zk
end
def RunsG (P:Program) (ops:Array Oper) (K:Act→World→Prop):List Oper→Act→World→Prop
 | [],a,w=>K a w
 | o::r,a,w=>(Region.wanted o (yielded ops a.tmps)=true∧∃ v w1,(execOp a.eval o).run P w=.ok (.value v) w1∧RunsG P ops K r (a.put o.dst v) w1)∨(Region.wanted o (yielded ops a.tmps)=false∧RunsG P ops K r (a.put o.dst undef) w)
section
variable {P:Program} {ops:Array Oper} {K:Act→World→Prop} {a:Act} {w w1:World} {o:Oper} {r:List Oper} {v:Value}
theorem rg_nil (h:K a w):RunsG P ops K [] a w:=h
theorem YG (hg:o.guard=none) (hrun:(execOp a.eval o).run P w=.ok (.value v) w1) (h:RunsG P ops K r (a.put o.dst v) w1):RunsG P ops K (o::r) a w:=.inl ⟨by simp [Region.wanted,hg],v,w1,hrun,h⟩
theorem YI (hw:Region.wanted o (yielded ops a.tmps)=true) (hrun:(execOp a.eval o).run P w=.ok (.value v) w1) (h:RunsG P ops K r (a.put o.dst v) w1):RunsG P ops K (o::r) a w:=.inl ⟨hw,v,w1,hrun,h⟩
theorem ya4 {Q:Exit→Act→World→Prop}:∀ {l:List Oper} {a:Act} {w:World},RunsG P ops (fun a w=>Q .normal a w) l a w→wpList P ops Q l a w
 | [],_,_,h=>h
 | o::r,a,w,.inl ⟨hw,v,w1,hrun,h⟩=>by
  refine yaw hw (Kd.yB rfl ?_ (ya4 h))
  exact hrun
 | o::r,a,w,.inr ⟨hw,h⟩=>ydt hw (ya4 h)
theorem off_of {j d:Nat} {b b':Bool} {oj:Oper} (hg:o.guard=some (j,b)) (hj:ops[j]?=some oj) (hd:oj.dst=some d) (hs:d<a.tmps.size) (hv:a.eval (.tmp d)=.bool b') (hne:b'≠b):Region.wanted o (yielded ops a.tmps)=false:=by
 have h1:a.tmps[d]?=some (.bool b'):=by
  have:a.tmps.getD d undef=.bool b':=hv
  rw [Array.getD_eq_getD_getElem?] at this
  rw [Array.getElem?_eq_getElem hs] at this ⊢
  exact congrArg some this
 simp [Region.wanted,yielded,hg,hj,hd,h1,hne]
end
def ybt (t l:ByteArray):Array Value:=#[.string t,.string l,.int .i64 65536,.nilIface]
abbrev qk (w:World) (b:Nat) (t l:ByteArray):Prop:=w.heap[b]?=some (.cells (ybt t l) 120 (0,0))
theorem Qq (W:World) (b:Nat):(Instr.fieldAt 120 (.pointer (some ⟨b,0,none⟩)) 0).run Tryz.prog W=.ok (.pointer (some ⟨b,0,none⟩)) W:=by kernel_rfl
theorem Qg (W:World) (b:Nat):(Instr.fieldAt 120 (.pointer (some ⟨b,0,none⟩)) 1).run Tryz.prog W=.ok (.pointer (some ⟨b,1,none⟩)) W:=by kernel_rfl
theorem fa_lines2 (W:World) (b:Nat):(Instr.fieldAt 120 (.pointer (some ⟨b,0,none⟩)) 2).run Tryz.prog W=.ok (.pointer (some ⟨b,2,none⟩)) W:=by kernel_rfl
theorem yce (W:World) (b:Nat):(Instr.fieldAt 120 (.pointer (some ⟨b,0,none⟩)) 3).run Tryz.prog W=.ok (.pointer (some ⟨b,3,none⟩)) W:=by kernel_rfl
section
variable {w:World} {b:Nat} {t l:ByteArray} (h:qk w b t l)
 include h
theorem yay:(Instr.loadAt 9 (.pointer (some ⟨b,0,none⟩))).run Tryz.prog w=.ok (.string t) w:=Qz Zk ((yg h 0).trans rfl)
theorem ycL:(Instr.loadAt 9 (.pointer (some ⟨b,1,none⟩))).run Tryz.prog w=.ok (.string l) w:=Qz Zk ((yg h 1).trans rfl)
theorem ld_most:(Instr.loadAt 3 (.pointer (some ⟨b,2,none⟩))).run Tryz.prog w=.ok (.int .i64 65536) w:=Qz Zk ((yg h 2).trans rfl)
theorem ld_err:(Instr.loadAt 82 (.pointer (some ⟨b,3,none⟩))).run Tryz.prog w=.ok .nilIface w:=Qz Zk ((yg h 3).trans rfl)
theorem st_text (s:ByteArray):(Instr.storeAt 9 (.pointer (some ⟨b,0,none⟩)) (.string s)).run Tryz.prog w=.ok () (w.setCell ⟨b,0,none⟩ (.string s)):=by
 have hc:w.cell? ⟨b,0,none⟩=some (.string t):=(yg h 0).trans rfl
 have hf:=yf h 0
 simp [Instr.storeAt,Instr.sureAddr,go_sem,hc,hf]
theorem st_line (s:ByteArray):(Instr.storeAt 9 (.pointer (some ⟨b,1,none⟩)) (.string s)).run Tryz.prog w=.ok () (w.setCell ⟨b,1,none⟩ (.string s)):=by
 have hc:w.cell? ⟨b,1,none⟩=some (.string l):=(yg h 1).trans rfl
 have hf:=yf h 1
 simp [Instr.storeAt,Instr.sureAddr,go_sem,hc,hf]
theorem set_text (s:ByteArray):qk (w.setCell ⟨b,0,none⟩ (.string s)) b s l:=yy h 0 _ rfl
theorem ydr (s:ByteArray):qk (w.setCell ⟨b,1,none⟩ (.string s)) b t s:=yy h 1 _ rfl
end
end Go.Proofs.YtlmennkeggmdbaaGreatDoor
namespace Go.Proofs.YtlmennkeggmdbaaGreatDoor
open Go.RowKit Go.Proofs.YtlmennkeggmdbaaGreatDoorW.PrintWords Go.Proofs.YtlmennkeggmdbaaGreatDoorW.PrintLast Go.Proofs.YtlmennkeggmdbaaGreatDoorW.PrintMore
theorem early_all {P:Program} {id k n:Nat} {ops:Array Oper} {B:List Nat} {Y:Nat→Value} {rest:Code} {Q:Exit→Act→World→Prop} {a:Act} {w:World}
 (hmix:P.follows .mixedOrders=true) (hn:ops.size=n) (hW:qd (JM .any ops).2 B=true) (hO:Qx (JM .any ops).2 (List.range n)=true)
 (hB:((List.range n).all fun d=>(B.getD d 0)<2 ^ d)=true)
 (hd:((List.range n).all fun i=>match ops[i]? with|some o=>o.dst == some (k+i)|none=>false)=true)
 (hgd:∀ (i:Nat) (o:Oper),i<n→ops[i]?=some o→o.guard=none∨∃ j bb,o.guard=some (j,bb)∧(B.getD i 0).testBit j=true∧Y j=.bool bb)
 (hy:∀ (i:Nat) (o:Oper),i<n→ops[i]?=some o→∀ a':Act,(∀ j,(B.getD i 0).testBit j=true→a'.eval (.tmp (k+j))=Y j)→(∀ j:Nat,j<k→a'.eval (.tmp j)=a.eval (.tmp j))→∀ W:World,W.heap=w.heap→(execOp a'.eval o).run P W=.ok (.value (Y i)) W)
 (hsz:k+n≤a.tmps.size)
 (h:∀ (a':Act),a'.tmps.size=a.tmps.size→a'.defers=a.defers→(∀ j:Nat,j<k→a'.eval (.tmp j)=a.eval (.tmp j))→(∀ j:Nat,j<n→a'.eval (.tmp (k+j))=Y j)→rest.wp P Q a' w.drew) :
 (Code.seq (.region id ops true) rest).wp P Q a w:=by
 have hBd:∀ d,d<n→(B.getD d 0)<2 ^ d:=fun d hd=>by
  have:=List.all_eq_true.1 hB d (List.mem_range.2 hd)
  simpa using this
 have hdd:∀ i,i<n→∃ o,ops[i]?=some o∧o.dst=some (k+i):=fun i hi=>by
  have:=List.all_eq_true.1 hd i (List.mem_range.2 hi)
  cases ho:ops[i]? with
  | none=>rw [ho] at this;simp at this
  | some o=>rw [ho] at this;exact ⟨o,rfl,by simpa using this⟩
 have hbit:∀ d j,d<n→(B.getD d 0).testBit j=true→j<d:=fun d j hd hj=>by
  by_cases hjd:j<d
  · exact hjd
  · have:=Nat.testBit_lt_two_pow (Nat.lt_of_lt_of_le (hBd d hd) (Nat.pow_le_pow_right Zd (Nat.not_lt.1 hjd)))
    rw [this] at hj;cases hj
 refine wp_seq ?_
 refine QQ (n:=n) (S:=fun _=>True) (ds:=[]) _ hmix hn rfl trivial (fun _=>?_)
 refine inv_ (B:=B) (List.range n) (fun b a' w'=>w'=w.drew∧Early k n Y a a' b) rfl hW hO ?_ ?_ ?_ ?_
 · have:(JM Region.Mode.any ops).2.length=n:=by simp [JM,hn]
   rw [this]
   have e1:lof n (List.range n) (fun _=>false)=(Array.replicate n false).toList:=by
    apply List.ext_getElem?
    intro i
    by_cases hi:i<n
    · simp [lof,hi]
    · simp [lof,hi]
   rw [e1]
   simp
 · exact ⟨rfl,⟨rfl,rfl,fun _ _=>rfl,fun _ _ hb=>by cases hb⟩⟩
 · intro i hi b a' w' hI hb hpre hpost
   have hin:i<n:=List.mem_range.1 hi
   have hpre':∀ j,(B.getD i 0).testBit j=true→b j=true:=fun j hj=>hpre j (by
    rw [Bool.and_eq_true]
    refine ⟨?_,hj⟩
    have:=hbit i j hin hj
    simp;omega)
   obtain ⟨rfl,hE⟩:=hI
   obtain ⟨o,ho,hdst⟩:=hdd i hin
   have hgot:∀ j,(B.getD i 0).testBit j=true→a'.eval (.tmp (k+j))=Y j:=fun j hj=>hE.got j (by have:=hbit i j hin hj;omega) (hpre' j hj)
   refine ⟨o,ho,fun K hK=>?_⟩
   have hw:Region.wanted o (yielded ops a'.tmps)=true:=by
    rcases hgd i o hin ho with hg|⟨j,bb,hg,hj,hyj⟩
    · simp [Region.wanted,hg]
    · obtain ⟨oj,hoj,hdj⟩:=hdd j (by have:=hbit i j hin hj;omega)
      exact YA hg hoj hdj (by rw [hE.size];have:=hbit i j hin hj;omega) ((hgot j hj).trans hyj)
   rw [hdst]
   exact QD hw hdst (hy i o hin ho a' hgot hE.old _ rfl) (hK.out _ _ ⟨rfl,hE.put hin hsz⟩)
 · intro b a' w' hall hI
   obtain ⟨rfl,hE⟩:=hI
   exact h a' hE.size hE.defers hE.old (fun j hj=>hE.got j hj (hall j (by simp;omega)))
theorem ycm {P:Program} {w w1:World} {ρ:Operand→Value} {d ty pos aft gd} {S T:Nat} {x:Operand} {p v:Value} (hx:ρ x=p) (hl:(convert S T p).run P w=.ok v w1) :
 (execOp ρ ⟨d,.convert S T x,ty,pos,aft,gd⟩).run P w=.ok (.value v) w1:=by
 subst hx;exact Y8 hl
set_option maxRecDepth 100000 in
theorem ydF (t:ByteArray) (w:World):Calls Tryz.prog 53 #[.string t] w fun e w'=>e=.returned (.pointer (some ⟨w.heap.size,0,none⟩))∧qk w' w.heap.size t ⟨#[]⟩∧Below w.heap.size w w':=by
 go_enter Tryz.func53,Tryz.ntmps53
 generalize ha0:(Act.mk _ _)=a0
 have hsz:a0.tmps.size=Tryz.f53.ntmps:=by rw [← ha0];rfl
 replace hsz:a0.tmps.size=6:=hsz.trans Zk
 have hdf:a0.defers=[]:=by rw [← ha0]
 have e0:a0.eval (.tmp 0)=.string t:=by rw [← ha0];rfl
 clear ha0
 refine yY ?_
 refine yq rfl run_assign ?_
 refine Yd ?_
 refine yY ?_
 refine yq rfl run_move ?_
 refine yq rfl (ya7 (vs:=#[(0,.string t),(2,.int .i64 65536)]) (v:=.agg (ybt t ⟨#[]⟩)) ?_ Zk) ?_
 · have h1:((a0.put (some 2) (a0.eval (.const (.pointer none)))).put (some 3) ((a0.put (some 2) (a0.eval (.const (.pointer none)))).eval (.tmp 0))).eval (.tmp 3)=.string t:=by
    rw [ya _ Zs,yb _ Zd];exact e0
   have h2:∀ (b:Act) (v:Value),b.eval (.const v)=v:=fun _ _=>rfl
   simp only [List.map_toArray,List.map_cons,List.map_nil,h2] at h1 ⊢
   rw [h1]
 refine yq rfl (yaC (ya _ Zs) (show _=Result.ok (.pointer (some ⟨w.heap.size,0,none⟩)) (w.alloc (.cells (ybt t ⟨#[]⟩) 120)) by kernel_rfl)) ?_
 refine yq rfl run_assign ?_
 refine Yd ?_
 refine wp_ret ?_
 refine Jd rfl (by simp only [yJ];exact hdf) (ya _ Zs) ⟨?_,YP _ _,yl (Below.refl _ _) _⟩
 rw [ya _ Zs]
set_option maxRecDepth 100000 in
theorem err_walk {w:World} {b:Nat} {t l:ByteArray} (h:qk w b t l):Calls Tryz.prog 60 #[.pointer (some ⟨b,0,none⟩)] w fun e w'=>e=.returned .nilIface∧w'=w:=by
 go_enter Tryz.func60,Tryz.ntmps60
 generalize ha0:(Act.mk _ _)=a0
 have hsz:a0.tmps.size=Tryz.f60.ntmps:=by rw [← ha0];rfl
 replace hsz:a0.tmps.size=7:=hsz.trans Zk
 have hdf:a0.defers=[]:=by rw [← ha0]
 have e0:a0.eval (.tmp 0)=.pointer (some ⟨b,0,none⟩):=by rw [← ha0];rfl
 clear ha0
 refine yY ?_
 refine yq rfl run_assign ?_
 refine Yd ?_
 refine yY ?_
 refine yq rfl run_move ?_
 refine yq rfl (Y4 (p:=⟨b,0,none⟩) ?_) ?_
 · rw [ya _ Zs,yb _ Zd];exact e0
 refine yq rfl (yG (ya _ Zs) (yce _ _)) ?_
 refine yq rfl (run_load (ya _ Zs) (ld_err h)) ?_
 refine yq rfl run_assign ?_
 refine Yd ?_
 refine wp_ret ?_
 refine Jd rfl (by simp only [yJ];exact hdf) (ya _ Zs) ⟨?_,rfl⟩
 rw [ya _ Zs]
end Go.Proofs.YtlmennkeggmdbaaGreatDoor
