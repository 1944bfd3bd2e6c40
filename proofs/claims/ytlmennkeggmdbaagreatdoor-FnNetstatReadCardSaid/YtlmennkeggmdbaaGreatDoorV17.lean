/- Part 17 of 34 of the proof of the tied card of FnNetstatRead. -/
import Derived.Test.YtlmennkeggmdbaaGreatDoorVz
import Derived.Test.YtlmennkeggmdbaaGreatDoorV6
import Derived.Test.YtlmennkeggmdbaaGreatDoorV16
import Derived.Test.YtlmennkeggmdbaaGreatDoorV3
set_option linter.unusedVariables false
set_option linter.unusedSimpArgs false
namespace Go.Proofs.YtlmennkeggmdbaaGreatDoor
open Go.RowKit Go.Proofs.YtlmennkeggmdbaaGreatDoorW.PrintWords Go.Proofs.YtlmennkeggmdbaaGreatDoorW.PrintLast Go.Proofs.YtlmennkeggmdbaaGreatDoorW.PrintMore
inductive Apps (T c:Nat):Nat→List ByteArray→Code→Prop
 | nil {i id:Nat} {d0 d1:TypeId} {p0 p1:String} {a0 a1:Array Edge}:Apps T c i [] (Code.seq (.region id #[⟨some (8+8 * i),.load 34 (.tmp 5),d0,p0,a0,none⟩,⟨none,.store 34 (.tmp 4) (.tmp (8+8 * i)),d1,p1,a1,none⟩] false) .ret)
 | cons {i:Nat} {nm:ByteArray} {nms:List ByteArray} {rest:Code} {id:Nat} {d0 d1 d2 d3 d4 d5 d6 d7 d8:TypeId} {ts:Array TypeId} {p0 p1 p2 p3 p4 p5 p6 p7 p8:String} (h:Apps T c (i+1) nms rest):Apps T c i (nm::nms)
  (Code.seq (.region id #[⟨some (8+8 * i),.fieldAddr 34 (.tmp 5) 7,d0,p0,#[],none⟩,⟨some (8+8 * i+1),.load 32 (.tmp (8+8 * i)),d1,p1,#[⟨0,.data⟩],none⟩,⟨some (8+8 * i+2),.fieldAddr T (.tmp 3) i,d2,p2,#[],none⟩,⟨some (8+8 * i+3),.load 50 (.tmp (8+8 * i+2)),d3,p3,#[⟨2,.data⟩],none⟩,
   ⟨some (8+8 * i+4),.call { callee:=.value (.func 61),args:=#[.const (.string nm),.tmp (8+8 * i+3),.func (c+i)],argTypes:=ts },d4,p4,#[⟨3,.data⟩],none⟩,⟨some (8+8 * i+5),.buildSlice 32 1 #[(0,.tmp (8+8 * i+4))],d5,p5,#[⟨4,.data⟩],none⟩,
   ⟨some (8+8 * i+6),.call { callee:=.builtin .append,args:=#[.tmp (8+8 * i+1),.tmp (8+8 * i+5)],argTypes:=#[32,32] },d6,p6,#[⟨1,.data⟩,⟨5,.data⟩,⟨4,.chain⟩],none⟩,
   ⟨some (8+8 * i+7),.fieldAddr 34 (.tmp 5) 7,d7,p7,#[⟨0,.phase⟩,⟨1,.phase⟩,⟨2,.phase⟩,⟨3,.phase⟩,⟨4,.phase⟩,⟨5,.phase⟩,⟨6,.phase⟩],none⟩,
   ⟨none,.store 32 (.tmp (8+8 * i+7)) (.tmp (8+8 * i+6)),d8,p8,#[⟨7,.data⟩,⟨6,.data⟩,⟨6,.chain⟩,⟨0,.phase⟩,⟨1,.phase⟩,⟨2,.phase⟩,⟨3,.phase⟩,⟨4,.phase⟩,⟨5,.phase⟩,⟨6,.phase⟩],none⟩] true) rest)
def Js (n:Nat→Option Nat):Nat→List ByteArray→List S34
 | _,[]=>[]
 | i,nm::r=>yaA nm (n i)::Js n (i+1) r
theorem apps_wp {T c m fc:Nat} {fn:Func} {R:Ending→World→Prop} {w0:World} {g gr gv:Nat} {onm:ByteArray} {p n:Nat→Option Nat} {vals:Array Value} {base:Nat}
 (hfa:∀ i,i<m→∀ W:World,(Instr.fieldAt T (.pointer (some ⟨gv,0,none⟩)) i).run Tryz.prog W=.ok (.pointer (some ⟨gv,i,none⟩)) W) (hval:∀ i,i<m→vals[i]?=some (ptrV (p i))) (hT:T≠34)
 (hc:c=62+fc) (hfc:fc+m≤141) (hH:yad w0 base p n) (hres:fn.results=#[.cell 4 34]) :
 ∀ (nms:List ByteArray) (i:Nat) (code:Code),Apps T c i nms code→i+nms.length≤m→∀ (a:Act) (w:World) (v:Value) (kids:List S34),8+8 * m<a.tmps.size→a.defers=[]→kids.length+nms.length≤1000 →
 a.eval (.tmp 3)=.pointer (some ⟨gv,0,none⟩)→a.eval (.tmp 4)=.pointer (some ⟨gr,0,none⟩)→a.eval (.tmp 5)=.pointer (some ⟨g,0,none⟩)→w.heap[gv]?=some (.cells vals T (0,0))→NS w0 w g gr onm kids v →
 (∀ w' v',Kd.R k34 34 w' w0.heap.size (fun _=>True) v' (kids++Js n i nms)→Below w0.heap.size w0 w'→R (.returned (.agg (Yl onm v'))) w')→code.wp Tryz.prog (bodyPost Tryz.prog fn R) a w:=by
 intro nms
 induction nms with
 | nil=>
  intro i code hA hm a w v kids hsz hd hl e3 e4 e5 hv hS h
  cases hA
  refine node_end (k:=8+8 * i) hres Zo (by simp at hm;omega) hd e4 e5 hS (fun w' v' hR hB=>h w' v' (by simpa [Js] using hR) hB)
 | cons nm nms ih=>
  intro i code hA hm a w v kids hsz hd hl e3 e4 e5 hv hS h
  cases hA with
  | cons hA=>
   have hi:i<m:=by simp at hm;omega
   refine ycZ (k:=8+8 * i) (T:=T) (fi:=i) (fo:=i) (LT:=50) (vals:=vals) (arg:=ptrV (p i)) (node:=yaA nm (n i)) (f:=61) (args:=#[.string nm,ptrV (p i),.func (.func (c+i)) #[] #[]])
    Tryz.func61 Zk rfl (hfa i hi) (fun W hW=>Qz Zk ((yg hW i).trans (hval i hi))) ?_ ?_ hT Zo Zo (by simp at hl;omega) e3 e4 e5 hv hS ?_
   · intro a' _ ha
     have h1:∀ u:Value,a'.eval (.const u)=u:=fun _=>rfl
     have h2:∀ f:Nat,a'.eval (.func f)=.func (.func f) #[] #[]:=fun _=>rfl
     simp [ha,h1,h2]
   · intro W hW
     subst hc
     have:=point_walk (i:=fc+i) Zo nm (p i) (n i) W (by
      rcases (hH.below hW) i with h|⟨b,x,h1,h2,_,h4⟩
      · exact .inl h
      · exact .inr ⟨b,x,h1,h2,h4⟩)
     rw [show 62+(fc+i)=62+fc+i by omega] at this
     refine this.mono ?_
     rintro e w1 ⟨x0,x1,x2,x3,x4,x5,x6,x7,he,hM,hB⟩
     exact ⟨x0,x1,x2,x3,x4,x5,x6,x7,he,hM,hB⟩
   · intro a' w' v' hs hd' h3 h4 h5 hv' hS'
     refine ih (i+1) _ hA (by simp at hm;omega) a' w' v' (kids++[yaA nm (n i)]) (by rw [hs];exact hsz) (hd'.trans hd) (by simp at hl ⊢;omega) h3 h4 h5 hv' hS' ?_
     intro w2 v2 hR hB
     refine h w2 v2 ?_ hB
     rw [List.append_assoc] at hR
     exact hR
theorem yb1 (T:TypeId) (cs:Array Value) (W:World):(Instr.box T (.agg cs)).run Tryz.prog W=.ok (.pointer (some ⟨W.heap.size,0,none⟩)) (W.alloc (.cells cs T)):=by kernel_rfl
set_option maxRecDepth 100000 in
theorem tcp_walk (nm:ByteArray) (p n:Nat→Option Nat) (base:Nat) (w:World) (hH:yad w base p n) :
 Calls Tryz.prog 42 #[.string nm,.agg (ptrs p 123).toArray] w fun e w'=>∃ v,e=.returned (.agg (Yl nm v))∧Kd.R k34 34 w' w.heap.size (fun _=>True) v (Js n 0 Y9)∧Below w.heap.size w w':=by
 refine YS 993 Tryz.func42 rfl Zk (by simp) (fun a0 ha=>?_)
 refine ybv (T:=52) (fun W=>yb1 _ _ W) (by rw [ha.size];decide) (ha.at_ 0 _ rfl) (ha.at_ 1 _ rfl) ?_
 intro a1 w1 g gr gv v1 hs1 hd1 h3 h4 h5 hv hS
 refine apps_wp (m:=123) (fc:=0) (T:=52) (c:=62) (base:=base) (p:=p) (n:=n) (fun i hi W=>by have:=fa_tcp hi gv 0 W;rwa [Nat.zero_add] at this) (fun i hi=>by rw [List.getElem?_toArray];exact qW p hi) Zd rfl Zd hH rfl Y9 0 _ ?hA (by rw [ycQ];decide) a1 w1 v1 [] (by rw [hs1,ha.size];decide) (hd1.trans ha.defers) (by rw [ycQ];decide) h3 h4 h5 hv hS ?_
 case hA=>repeat (first|exact Apps.nil|refine Apps.cons ?_)
 intro w3 v3 hR hB
 exact ⟨v3,rfl,hR,hB⟩
set_option maxRecDepth 100000 in
theorem ip_walk (nm:ByteArray) (p n:Nat→Option Nat) (base:Nat) (w:World) (hH:yad w base p n) :
 Calls Tryz.prog 43 #[.string nm,.agg (ptrs p 18).toArray] w fun e w'=>∃ v,e=.returned (.agg (Yl nm v))∧Kd.R k34 34 w' w.heap.size (fun _=>True) v (Js n 0 Jy)∧Below w.heap.size w w':=by
 refine YS 153 Tryz.func43 rfl Zk (by simp) (fun a0 ha=>?_)
 refine ybv (T:=54) (fun W=>yb1 _ _ W) (by rw [ha.size];decide) (ha.at_ 0 _ rfl) (ha.at_ 1 _ rfl) ?_
 intro a1 w1 g gr gv v1 hs1 hd1 h3 h4 h5 hv hS
 refine apps_wp (m:=18) (fc:=123) (T:=54) (c:=185) (base:=base) (p:=p) (n:=n) (fun i hi W=>by have:=fa_ip hi gv 0 W;rwa [Nat.zero_add] at this) (fun i hi=>by rw [List.getElem?_toArray];exact qW p hi) Zd rfl Zd hH rfl Jy 0 _ ?hA (by rw [ip_len];decide) a1 w1 v1 [] (by rw [hs1,ha.size];decide) (hd1.trans ha.defers) (by rw [ip_len];decide) h3 h4 h5 hv hS ?_
 case hA=>repeat (first|exact Apps.nil|refine Apps.cons ?_)
 intro w3 v3 hR hB
 exact ⟨v3,rfl,hR,hB⟩
theorem run_bi64 (w:World) (nm:ByteArray) (x:Int):(Instr.build 34 #[(0,.string nm),(1,.int .i64 2),(3,.int .i64 x)]).run Tryz.prog w=.ok (.agg #[.string nm,.int .i64 2,.bool false,.int .i64 x,.int .u64 0,.float .f64 0,.string ⟨#[]⟩,.slice none 0 0]) w:=by kernel_rfl
abbrev iNode (nm:ByteArray) (x:Int):S34:=⟨nm,2,false,x,0,0,⟨#[]⟩,[]⟩
abbrev ya3 (nm:ByteArray) (kids:List S34):S34:=⟨nm,8,false,0,0,0,⟨#[]⟩,kids⟩
theorem app_i64 {id k:Nat} {Q:Exit→Act→World→Prop} {rest:Code} {a:Act} {w0 w:World} {g gr gv:Nat} {onm nm:ByteArray} {kids:List S34} {v:Value} {T fi:Nat} {vals:Array Value} {x:Int}
 {d0 d1 d2 d3 d5 d6 d7 d8 d9:TypeId} {p0 p1 p2 p3 p5 p6 p7 p8 p9:String} {a0 a1 a2 a3 a5 a6 a7 a8 a9:Array Edge}
 (hfa:∀ W:World,(Instr.fieldAt T (.pointer (some ⟨gv,0,none⟩)) fi).run Tryz.prog W=.ok (.pointer (some ⟨gv,fi,none⟩)) W) (hx:vals[fi]?=some (.int .i64 x)) (hT:T≠34)
 (hk:5<k) (hsz:k+7<a.tmps.size) (hl:(kids.length+1) * 96≤140737488355328)
 (e3:a.eval (.tmp 3)=.pointer (some ⟨gv,0,none⟩)) (e4:a.eval (.tmp 4)=.pointer (some ⟨gr,0,none⟩)) (e5:a.eval (.tmp 5)=.pointer (some ⟨g,0,none⟩)) (hv:w.heap[gv]?=some (.cells vals T (0,0))) (hS:NS w0 w g gr onm kids v)
 (h:∀ a' w' v',a'.tmps.size=a.tmps.size→a'.defers=a.defers→a'.eval (.tmp 3)=.pointer (some ⟨gv,0,none⟩)→a'.eval (.tmp 4)=.pointer (some ⟨gr,0,none⟩)→a'.eval (.tmp 5)=.pointer (some ⟨g,0,none⟩) →
  w'.heap[gv]?=some (.cells vals T (0,0))→NS w0 w' g gr onm (kids++[iNode nm x]) v'→rest.wp Tryz.prog Q a' w') :
 (Code.seq (.region id #[⟨some k,.fieldAddr 34 (.tmp 5) 7,d0,p0,a0,none⟩,⟨some (k+1),.load 32 (.tmp k),d1,p1,a1,none⟩,⟨some (k+2),.fieldAddr T (.tmp 3) fi,d2,p2,a2,none⟩,⟨some (k+3),.load 3 (.tmp (k+2)),d3,p3,a3,none⟩,
  ⟨some (k+4),.build 34 #[(0,.const (.string nm)),(1,.const (.int .i64 2)),(3,.tmp (k+3))],d5,p5,a5,none⟩,⟨some (k+5),.buildSlice 32 1 #[(0,.tmp (k+4))],d6,p6,a6,none⟩,
  ⟨some (k+6),.call { callee:=.builtin .append,args:=#[.tmp (k+1),.tmp (k+5)],argTypes:=#[32,32] },d7,p7,a7,none⟩,⟨some (k+7),.fieldAddr 34 (.tmp 5) 7,d8,p8,a8,none⟩,⟨none,.store 32 (.tmp (k+7)) (.tmp (k+6)),d9,p9,a9,none⟩] false) rest).wp Tryz.prog Q a w:=by
 refine wp_seq ?_
 refine wp_region_list ?_
 refine Kd.yB rfl (yG e5 (Q0 ..)) ?_
 refine Kd.yB rfl (run_load (ya _ Zo) (ya8 hS.blk rfl)) ?_
 refine Kd.yB rfl (yG ((yb _ Zo).trans ((yb _ Zo).trans e3)) (hfa _)) ?_
 refine Kd.yB rfl (run_load (ya _ Zs) (Jz (fun _=>by kernel_rfl) hv hx)) ?_
 refine Kd.yB rfl (run_build3 (fun _=>rfl) (ya _ Zs) (run_bi64 ..)) ?_
 refine app_tail (node:=iNode nm x) rfl (fun w'=>leaf_M (iNode nm x) rfl _ _ _) hS hl ?_ (ya _ Zs) ?_ Zs Zs Zs Zo Zo Zo Zo ?_
 · rw [yb _ Zo,yb _ Zo,yb _ Zo,ya _ Zs];rfl
 · rw [yb _ Zo,yb _ Zo,yb _ Zo,yb _ Zo,yb _ Zo];exact e5
 intro a' w' v' hs hd he hN hb
 have hj:∀ j:Nat,j<6→a'.eval (.tmp j)=a.eval (.tmp j):=fun j hj=>by
  rw [he j Zo Zo Zo,yb _ Zo,yb _ Zo,yb _ Zo,yb _ Zo,yb _ Zo]
 exact h a' w' v' (by rw [hs];simp only [size_put]) (by rw [hd];simp only [yJ]) ((hj 3 Zo).trans e3) ((hj 4 Zo).trans e4) ((hj 5 Zo).trans e5) (hb _ _ _ hv hT) hN
def JW (n:Nat→Option Nat):List S34:=[iNode ⟨#[80,73,68]⟩ 0,ya3 yac (Js n 0 Y9),ya3 ipB (Js (fun i=>n (123+i)) 0 Jy)]
theorem load_tcp {p:Nat→Option Nat} {W:World} {gv:Nat} {T:TypeId} (hW:W.heap[gv]?=some (.cells (Yx p).toArray T (0,0))):(Instr.loadAt 52 (.pointer (some ⟨gv,1,none⟩))).run Tryz.prog W=.ok (.agg (ptrs p 123).toArray) W:=by
 refine run_loadAt_mid W gv 1 52 (ptrs p 123) _ (fun j v hj=>?_) Tryz.underlying52 rfl (by rw [Qr];kernel_rfl)
 have hlt:j<123:=by have:=(List.getElem?_eq_some_iff.1 hj).1;rwa [Qr] at this
 rw [yg hW (1+j),List.getElem?_toArray,← hj,qW p hlt,Nat.add_comm 1 j]
 exact qW p Zo
theorem load_ip {p:Nat→Option Nat} {W:World} {gv:Nat} {T:TypeId} (hW:W.heap[gv]?=some (.cells (Yx p).toArray T (0,0))):(Instr.loadAt 54 (.pointer (some ⟨gv,124,none⟩))).run Tryz.prog W=.ok (.agg (ptrs (fun i=>p (123+i)) 18).toArray) W:=by
 refine run_loadAt_mid W gv 124 54 (ptrs (fun i=>p (123+i)) 18) _ (fun j v hj=>?_) Tryz.underlying54 rfl (by rw [Qr];kernel_rfl)
 have hlt:j<18:=by have:=(List.getElem?_eq_some_iff.1 hj).1;rwa [Qr] at this
 rw [yg hW (124+j),List.getElem?_toArray,← hj,qW _ hlt,show 124+j=(123+j)+1 by omega]
 exact qW p Zo
set_option maxRecDepth 100000 in
theorem net_walk (nm:ByteArray) (p n:Nat→Option Nat) (base:Nat) (w:World) (hH:yad w base p n) :
 Calls Tryz.prog 20 #[.string nm,.agg (Yx p).toArray] w fun e w'=>∃ v,e=.returned (.agg (Yl nm v))∧Kd.R k34 34 w' w.heap.size (fun _=>True) v (JW n)∧Below w.heap.size w w':=by
 refine YS 33 Tryz.func20 rfl Zk (by simp) (fun a0 ha=>?_)
 refine ybv (T:=56) (fun W=>yb1 _ _ W) (by rw [ha.size];decide) (ha.at_ 0 _ rfl) (ha.at_ 1 _ rfl) ?_
 intro a1 w1 g gr gv v1 hs1 hd1 h3 h4 h5 hv hS
 refine app_i64 (k:=8) (nm:=⟨#[80,73,68]⟩) (x:=0) (fun W=>by have:=fa_stat0 gv 0 W;rwa [Nat.zero_add] at this) rfl Zd Zd (by rw [hs1,ha.size];decide) Zd h3 h4 h5 hv hS ?_
 intro a2 w2 v2 hs2 hd2 h3 h4 h5 hv hS
 refine ycZ (k:=16) (T:=56) (fi:=1) (fo:=1) (LT:=52) (vals:=(Yx p).toArray) (arg:=.agg (ptrs p 123).toArray) (node:=ya3 yac (Js n 0 Y9)) (f:=42) (args:=#[.string yac,.agg (ptrs p 123).toArray])
  Tryz.func42 Zk rfl (fun W=>by have:=fa_stat1 gv 0 W;rwa [Nat.zero_add] at this) (fun W hW=>load_tcp hW) ?_ ?_ Zd Zd (by rw [hs2,hs1,ha.size];decide) Zd h3 h4 h5 hv hS ?_
 · intro a' _ hk
   have h1:∀ u:Value,a'.eval (.const u)=u:=fun _=>rfl
   simp [hk,h1]
 · intro W hW
   refine (tcp_walk yac p n base W (hH.below hW)).mono ?_
   rintro e w1 ⟨v,rfl,hR,hB⟩
   exact ⟨_,_,_,_,_,_,_,_,rfl,ya1 _ _ _ (ya3 yac (Js n 0 Y9)) hR,hB⟩
 intro a3 w3 v3 hs3 hd3 h3 h4 h5 hv hS
 refine ycZ (k:=24) (T:=56) (fi:=2) (fo:=124) (LT:=54) (vals:=(Yx p).toArray) (arg:=.agg (ptrs (fun i=>p (123+i)) 18).toArray) (node:=ya3 ipB (Js (fun i=>n (123+i)) 0 Jy)) (f:=43) (args:=#[.string ipB,.agg (ptrs (fun i=>p (123+i)) 18).toArray])
  Tryz.func43 Zk rfl (fun W=>by have:=fa_stat2 gv 0 W;rwa [Nat.zero_add] at this) (fun W hW=>load_ip hW) ?_ ?_ Zd Zd (by rw [hs3,hs2,hs1,ha.size];decide) (by simp) h3 h4 h5 hv hS ?_
 · intro a' _ hk
   have h1:∀ u:Value,a'.eval (.const u)=u:=fun _=>rfl
   simp [hk,h1]
 · intro W hW
   refine (ip_walk ipB _ _ base W ((hH.below hW).shift 123)).mono ?_
   rintro e w1 ⟨v,rfl,hR,hB⟩
   exact ⟨_,_,_,_,_,_,_,_,rfl,ya1 _ _ _ (ya3 ipB (Js (fun i=>n (123+i)) 0 Jy)) hR,hB⟩
 intro a4 w4 v4 hs4 hd4 h3 h4 h5 hv hS
 refine node_end (k:=32) rfl Zd (by rw [hs4,hs3,hs2,hs1,ha.size];decide) (by rw [hd4,hd3,hd2,hd1,ha.defers]) h4 h5 hS ?_
 intro w5 v5 hR hB
 exact ⟨v5,rfl,hR,hB⟩
theorem net1_walk (p n:Nat→Option Nat) (base:Nat) (w:World) (hH:yad w base p n) :
 Calls Tryz.prog 19 #[.agg (Yx p).toArray] w fun e w'=>∃ v,e=.returned (.agg (Yl ⟨#[]⟩ v))∧Kd.R k34 34 w' w.heap.size (fun _=>True) v (JW n)∧Below w.heap.size w w':=by
 refine YS 5 Tryz.func19 rfl Zk (by simp) ?_
 refine yF (YR (fun a ha=>yaC (ha.at_ 0 _ rfl) (yb1 _ _ w)) ?_)
 have hv0:=YP w (.cells (Yx p).toArray 56 (0,0))
 have hB0:Below w.heap.size w (w.alloc (.cells (Yx p).toArray 56 (0,0))):=yl (Below.refl _ _) _
 have hz0:(w.alloc (.cells (Yx p).toArray 56 (0,0))).heap.size=w.heap.size+1:=by simp
 generalize (w.alloc (.cells (Yx p).toArray 56 (0,0)))=w1 at hv0 hB0 hz0 ⊢
 refine YR (fun a ha=>YT (Jh w1)) (yx ?_)
 have hg0:=YP w1 (.cells Qc 34 (0,0))
 have hv1:=Yw hv0 (.cells Qc 34 (0,0))
 have hB1:Below w.heap.size w (w1.alloc (.cells Qc 34 (0,0))):=yl hB0 _
 generalize (w1.alloc (.cells Qc 34 (0,0)))=w2 at hg0 hv1 hB1 ⊢
 rw [hz0] at hg0 ⊢
 refine yF (r_ld rfl (v:=.agg (Yx p).toArray) ?_ (YJ Tryz.func20 Zk rfl rfl ((net_walk ⟨#[]⟩ p n base w2 ((hH.below hB1))).mono ?_)))
 · exact run_loadVar_row w2 w.heap.size 56 56 _ (0,0) _ hv1 Tryz.underlying56 rfl (by simp only [List.size_toArray,Qa];kernel_rfl)
 rintro e w3 ⟨v,rfl,hR,hB⟩
 refine ⟨_,rfl,?_⟩
 obtain ⟨A,c,hv2⟩:=Kd.YF hR
 subst hv2
 obtain ⟨w4,hrun,hb4,hoth,hbel⟩:=J3 (s1:=⟨#[]⟩) (k:=8) (b:=false) (i:=0) (u:=0) (f:=0) (s2:=⟨#[]⟩) (A:=A) (n:=(JW n).length) (c:=c) (yI hg0 hB) rfl
 refine Qt rfl rfl hrun (yx (JA fun a ha=>?_))
 refine qT (fn:=Tryz.f19) (t:=2) rfl ha rfl hb4 rfl ⟨_,rfl,?_,hbel _ _ Zo (yw hB1 hB)⟩
 have hR':=Kd.ybm hR hg0
 exact Kd.Ji (Kd.Yr (Kd.qn hR' (fun j hj _=>hoth j hj.2)) (fun _ _=>trivial)) (yt hB1)
end Go.Proofs.YtlmennkeggmdbaaGreatDoor
namespace Go.Proofs.YtlmennkeggmdbaaGreatDoor
open Go.RowKit Go.Proofs.YtlmennkeggmdbaaGreatDoorW.PrintWords Go.Proofs.YtlmennkeggmdbaaGreatDoorW.PrintLast Go.Proofs.YtlmennkeggmdbaaGreatDoorW.PrintMore
theorem ycs {P:Program} {ops:Array Oper} {Q:Exit→Act→World→Prop} {rest:List Oper} {oi:Oper} {a:Act} {w:World} {d:Deferred} (hd:oi.dst=none) (hg:oi.guard=none) (hrun:(execOp a.eval oi).run P w=.ok (.defer d) w)
 (h:wpList P ops Q rest { a with defers:=d::a.defers } w):wpList P ops Q (oi::rest) a w:=by
 refine wpList_plain hg fun K hK=>?_
 unfold Oper.wp
 rw [hrun,Oper.upon_defer,hd]
 exact hK _ _ h
theorem run_mf {P:Program} {a:Act} {d ty pos aft gd} {w:World} {f i j:Nat} {v u:Value} (h:a.eval (.tmp i)=v) (h':a.eval (.tmp j)=u) :
 (execOp a.eval ⟨d,.makeFunc (.func f) #[] #[.tmp i,.tmp j],ty,pos,aft,gd⟩).run P w=.ok (.value (.func (.func f) #[] #[v,u])) w:=by
 unfold execOp
 simp [Instr.makeFunc,h,h']
theorem run_mff {P:Program} {a:Act} {d ty pos aft gd} {w:World} {f i:Nat} {v:Value} (h:a.eval (.tmp i)=v) :
 (execOp a.eval ⟨d,.makeFunc (.func f) #[.tmp i] #[],ty,pos,aft,gd⟩).run P w=.ok (.value (.func (.func f) #[v] #[])) w:=by
 unfold execOp
 simp [Instr.makeFunc,h]
theorem run_df {P:Program} {a:Act} {d ty pos aft gd} {w:World} {x:Nat} {f:FuncId} {cap:Array Value} (h:a.eval (.tmp x)=.func (.func f) #[] cap) :
 (execOp a.eval ⟨d,.defer { callee:=.value (.tmp x),args:=#[],argTypes:=#[] },ty,pos,aft,gd⟩).run P w=.ok (.defer { target:=.fn (.func f) cap,args:=#[] }) w:=by
 unfold execOp
 simp [resolve,Deferred.ofValue,h]
theorem ydk {P:Program} {fn:Func} {p p':Tmp} {ty ty':TypeId} (h:fn.results=#[.cell p ty,.cell p' ty']) (tmps:Array Value) (w:World) (g g':Nat) (t:TypeId) (cs:Array Value) (fr:Nat × Nat) (d:TypeDesc) (v:Value)
 (hp:tmps.getD p undef=.pointer (some ⟨g,0,none⟩)) (hg:w.heap[g]?=some (.cells cs t fr))
 (hu:P.underlying ty=some d) (hd:(match d with|.struct _|.array _ _=>true|_=>false)=true) (hi:(P.info? ty).map (·.size)=some cs.size)
 (hp':tmps.getD p' undef=.pointer (some ⟨g',0,none⟩)) (hl:(loadVar ty' ⟨g',0,none⟩).run P w=.ok v w) :
 (results fn tmps).run P w=.ok (.tuple #[.agg cs,v]) w:=by
 have h1:tmps[p]?.getD undef=.pointer (some ⟨g,0,none⟩):=by simpa using hp
 have h2:tmps[p']?.getD undef=.pointer (some ⟨g',0,none⟩):=by simpa using hp'
 simp [results,h,h1,h2,asAddr,run_loadVar_row w g t ty cs fr d hg hu hd hi,hl]
theorem catch_idle (p q:Addr) (w:World) :
 CallsD Tryz.prog 37 #[.pointer (some p),.pointer (some q)] .returning w fun e u' w'=>e=.returned (.tuple #[])∧u'=.returning∧w'=w:=by
 refine callsD_of_wpS Tryz.func37 rfl fun c₀ cs hu=>?_
 apply wpS_seq
 apply wpS_region
 simp [wpOpsS,go_sem,recoverD,hu,Tryz.ntmps37,Exit.thenS]
 refine wpS_cond (t:=false) (by simp [Act.eval,Array.replicate]) ?_
 simp only [Bool.false_eq_true,if_false]
 refine wpS_of_wp (wp_skip ?_)
 cases c₀
 simp_all [bodyPostS,results,Tryz.results37]
theorem Has.defer {sz:Nat} {D:List Deferred} {L:Kn} {a:Act} (h:Has sz D L a) (d:Deferred):Has sz (d::D) L { a with defers:=d::a.defers }:=⟨h.size,by show d::a.defers=_;rw [h.defers],h.at_⟩
theorem calls_at_d {P:Program} {f:FuncId} {fn:Func} {c:Code} {args:Array Value} {w:World} {R:Ending→World→Prop} (sz:Nat) (hf:P.funcs[f]?=some fn) (hb:fn.body=some c) (hn:fn.ntmps=sz) (hs:args.size≤sz)
 (h:At P (bodyPostD P fn R) sz [] (knOf 0 args.toList) w c):Calls P f args w R:=by
 refine calls_of_wp_defers hf hb (h _ ⟨?_,rfl,fun j v hj=>?_⟩)
 · simp [hn];omega
 · obtain ⟨_,h2⟩:=lk_kn _ _ _ _ hj
   have h3:args[j]?=some v:=by simpa using h2
   have hj2:j<args.size:=by
    by_cases hlt:j<args.size
    · exact hlt
    · rw [Array.getElem?_eq_none Zo] at h3;cases h3
   show (args++Array.replicate (fn.ntmps - args.size) undef).getD j undef=v
   rw [Array.getD_eq_getD_getElem?,Array.getElem?_append_left hj2,h3]
   rfl
theorem run_allocI (w:World):(Instr.alloc 3 true (.tuple #[])).run Tryz.prog w=.ok (.pointer (some ⟨w.heap.size,0,none⟩)) (w.alloc (.cells #[.int .i64 0] 3 (0,0))):=by kernel_rfl
theorem rl_callf {P:Program} {sz:Nat} {D:List Deferred} {L:Kn} {w:World} {ops:Array Oper} {K:Kn→World→Prop} {r:List Oper} {d:Nat} {ty:TypeId} {pos:String} {aft:Array Edge} {f:FuncId} {fn:Func} {x:Operand} {first:Array Value} {ao:Array Operand} {ts:Array TypeId} {l:List Value} (hx:kv L x=some (.func (.func f) first #[])) (hf:P.funcs[f]?=some fn) (hname:(fn.name == "runtime.NumGoroutine")=false) (hb:fn.body.isSome=true) (hargs:kvs L ao.toList=some l)
 (h:Calls P f (first++l.toArray) w fun e w1=>∃ v,e=.returned v∧yZ P sz D ops K r ((d,v)::L) w1) (hd:d<sz:=by decide):yZ P sz D ops K (⟨some d,.call { callee:=.value x,args:=ao,argTypes:=ts },ty,pos,aft,none⟩ :: r) L w:=by
 refine .inr (.inr (.inr (.inl ⟨rfl,d,f,first++l.toArray,rfl,hd,fun a ha=>?_,h⟩)))
 have he:=QX hf hname hb (first++l.toArray) w
 have hxe:=ha.kv hx
 have ha':ao.map a.eval=l.toArray:=by
  have h1:=ha.kvs hargs
  apply Array.toList_inj.1
  rw [Array.toList_map,h1]
 unfold execOp
 simp [resolve,Deferred.ofValue,invoke,hxe,ha',he]
set_option maxRecDepth 100000 in
theorem tree_walk (recv:Value) (n:Nat→Option Nat) (w:World)
 (hread:∀ W,Below w.heap.size w W→Calls Tryz.prog 18 #[recv] W fun e W'=>∃ p,e=.returned (.tuple #[.agg (Yx p).toArray,.nilIface])∧yad W' W.heap.size p n∧Below W.heap.size W W') :
 Calls Tryz.prog 16 #[.func (.func 18) #[recv] #[],.func (.func 19) #[] #[]] w fun e w'=>∃ v,e=.returned (.tuple #[.agg (Yl ⟨#[]⟩ v),.int .i64 0])∧Kd.R k34 34 w' w.heap.size (fun _=>True) v (JW n)∧Below w.heap.size w w':=by
 refine calls_at_d 20 Tryz.func16 rfl Zk (by simp) ?_
 refine yF (YR (fun a ha=>YT (Jh w)) ?_)
 have hgr:=YP w (.cells Qc 34 (0,0))
 have hB1:Below w.heap.size w (w.alloc (.cells Qc 34 (0,0))):=yl (Below.refl _ _) _
 have hz1:(w.alloc (.cells Qc 34 (0,0))).heap.size=w.heap.size+1:=by simp
 generalize (w.alloc (.cells Qc 34 (0,0)))=w1 at hgr hB1 hz1 ⊢
 refine YR (fun a ha=>YT (run_allocI w1)) (yx ?_)
 have hgr2:=Yw hgr (.cells #[.int .i64 0] 3 (0,0))
 have hgc:=YP w1 (.cells #[.int .i64 0] 3 (0,0))
 have hB2:Below w.heap.size w (w1.alloc (.cells #[.int .i64 0] 3 (0,0))):=yl hB1 _
 have hz2:(w1.alloc (.cells #[.int .i64 0] 3 (0,0))).heap.size=w.heap.size+2:=by simp [hz1]
 generalize (w1.alloc (.cells #[.int .i64 0] 3 (0,0)))=w2 at hgr2 hgc hB2 hz2 ⊢
 rw [hz1] at hgc ⊢
 intro a ha
 refine wp_seq (wp_region_list ?_)
 refine Kd.yB rfl (run_mf (ha.at_ 4 _ rfl) (ha.at_ 5 _ rfl)) ?_
 have ha8:=ha.put (Value.func (Fn.func 37) #[] #[Value.pointer (some ⟨w.heap.size,0,none⟩),Value.pointer (some ⟨w.heap.size+1,0,none⟩)]) (show 8<20 by decide)
 refine ycs rfl rfl (run_df (ha8.at_ 8 _ rfl)) ?_
 refine wpList_nil ?_
 simp only [Exit.then]
 refine ybF (ha8.defer _) ?_
 refine yF (yR rfl (rl_callf rfl Tryz.func18 Zk rfl rfl ((hread w2 hB2).mono ?_)))
 rintro e w3 ⟨p,rfl,hH3,hB3⟩
 refine ⟨_,rfl,yR rfl (Jj rfl (J8 _ _) (Jj rfl (J9 _ _) (YR (fun a ha=>YT (QP w3)) ?_)))⟩
 have hs3:w.heap.size+2≤w3.heap.size:=by have:=yt hB3;omega
 have hgs:=YP w3 qe
 have hB3w:=yw hB2 hB3
 have hgr3:=Yw (yI hgr2 hB3) qe
 have hgc3:=Yw (yI hgc hB3) qe
 have hH3':=hH3.below (yl (Below.refl _ _) qe)
 have hB4:Below w.heap.size w (w3.alloc qe):=yl hB3w _
 have hz3:(w3.alloc qe).heap.size=w3.heap.size+1:=by simp
 generalize (w3.alloc qe)=w4 at hgs hgr3 hgc3 hH3' hB4 hz3 ⊢
 obtain ⟨w5,hrun,hgs5,hT5⟩:=QR (p':=p) hgs
 refine Qt rfl rfl hrun (Yb rfl (yx ?_))
 have hgr5:=(hT5.other w.heap.size Zo).trans hgr3
 have hgc5:=(hT5.other (w.heap.size+1) Zo).trans hgc3
 have hH5:yad w5 w2.heap.size p n:=fun i=>by
  rcases hH3' i with hh|⟨b,x,h1,h2,h3,h4⟩
  · exact .inl hh
  · exact .inr ⟨b,x,h1,h2,h3,(hT5.other _ (JT h4 hgs Zd)).trans h4⟩
 have hB5:=hT5.below _ _ Zo hB4
 have hz5:w5.heap.size=w3.heap.size+1:=hT5.size.trans hz3
 refine Yg (yF (yR rfl (r_bin (res:=.bool false) rfl rfl Zk (yx (Jt rfl (Jg ?_))))))
 refine yF (yR rfl (r_ld (v:=.agg (Yx p).toArray) rfl (run_loadVar_row w5 w3.heap.size 56 56 _ (0,0) _ hgs5 Tryz.underlying56 rfl (by rw [List.size_toArray,Qa];kernel_rfl)) (rl_callv rfl Tryz.func19 Zk rfl rfl ((net1_walk p n w2.heap.size w5 hH5).mono ?_))))
 rintro e w6 ⟨v,rfl,hR6,hB6⟩
 have hgr6:=yI hgr5 hB6
 have hgc6:=yI hgc5 hB6
 have hB6w:=yw hB5 hB6
 have hR6':=Kd.Yr (ok':=fun k=>k≠w.heap.size∧k≠w.heap.size+1) (Kd.JP hR6) (fun k hk=>⟨by have:=hk.2.1;omega,by have:=hk.2.1;omega⟩)
 obtain ⟨A,c,hv1⟩:=Kd.YF hR6'
 subst hv1
 obtain ⟨w7,hrun7,hb7,hoth7,hbel7⟩:=J3 (s1:=⟨#[]⟩) (k:=8) (b:=false) (i:=0) (u:=0) (f:=0) (s2:=⟨#[]⟩) (A:=A) (n:=(JW n).length) (c:=c) hgr6 rfl
 have hgc7:=(hoth7 (w.heap.size+1) Zo).trans hgc6
 have hB7:=hbel7 _ _ (Nat.le_refl _) hB6w
 have hR7:=Kd.qn (w1:=w7) hR6' (fun j hj _=>hoth7 j hj.1)
 refine ⟨_,rfl,Qt rfl rfl hrun7 (Qt rfl rfl (QK (x:=0) Zk Zk ((yg hgc7 0).trans rfl) (yf hgc7 0)) (yx (JA fun a ha=>?_)))⟩
 have hgr8:=yH hb7 (p:=⟨w.heap.size+1,0,none⟩) (by show w.heap.size≠w.heap.size+1;omega) (.int .i64 0)
 have hgc8:=yy hgc7 0 (.int .i64 0) rfl
 have hB8:Below w.heap.size w (w7.setCell ⟨w.heap.size+1,0,none⟩ (.int .i64 0)):=yu hB7 Zo
 have hR8:=Kd.YN hR7 (p:=⟨w.heap.size+1,0,none⟩) (fun k hk=>hk.2) (.int .i64 0)
 generalize (w7.setCell ⟨w.heap.size+1,0,none⟩ (.int .i64 0))=w8 at hgr8 hgc8 hB8 hR8 ha ⊢
 show Leaves Tryz.prog _ a.tmps _ a.defers .returning w8
 rw [ha.defers]
 refine leaves_cons (f:=37) (args:=#[.pointer (some ⟨w.heap.size,0,none⟩),.pointer (some ⟨w.heap.size+1,0,none⟩)]) (by simp) (by simp [go_sem]) ?_
 refine (catch_idle _ _ w8).mono ?_
 rintro e u' w9 ⟨rfl,rfl,rfl⟩
 refine ⟨_,ydk (v:=.int .i64 0) rfl a.tmps _ w.heap.size (w.heap.size+1) 34 (Yl ⟨#[]⟩ (.slice A (JW n).length c)) (0,0) _ (ha.at_ 4 _ rfl) hgr8 Tryz.underlying34 rfl Zk (ha.at_ 5 _ rfl) ?_,_,rfl,Kd.Ji (Kd.Yr hR8 (fun _ _=>trivial)) Zo,hB8⟩
 have hc6:=(yg hgc8 0).trans (show _=some (Value.int .i64 0) from rfl)
 exact load_int Zk Zk hc6
end Go.Proofs.YtlmennkeggmdbaaGreatDoor
namespace Go.Proofs.YtlmennkeggmdbaaGreatDoor
open Go.RowKit Go.Proofs.YtlmennkeggmdbaaGreatDoorW.PrintWords Go.Proofs.YtlmennkeggmdbaaGreatDoorW.PrintLast Go.Proofs.YtlmennkeggmdbaaGreatDoorW.PrintMore
attribute [local go_sem] Yt Yp YE YB Yj Yk Yu Yv
def qD.f (a0:ByteArray):Option (ByteArray):=some a0
set_option maxHeartbeats 8000000 in
set_option maxRecDepth 100000 in
theorem qD.calls (a0:ByteArray) (r:ByteArray) (w:World) (h:qD.f a0=some r) :
 Calls Tryz.prog 38 #[.string a0] w fun e w'=>e=.returned (.agg #[.string r])∧Below w.heap.size w w':=by
 have hu60:=Tryz.underlying60
 have HB:=yc.mk (Below.refl w.heap.size w)
 have H:(some a0)=some r:=h
 clear h
 obtain rfl:=Option.some.inj H
 go_enter Tryz.func38,Tryz.ntmps38
 go_wp2_with (first|((with_reducible refine YX (N:=2) rfl ?_);refine YW ?hg (N:=2) ?hd (cs:=#[.string (⟨#[]⟩:ByteArray)]) (t:=60) ?hr ?_;(case hd=>rfl);(case hg=>rfl);(case hr=>first|(go_simp;done)|(go_simp;rfl));intro gb101 hg w2 hbox hb;have n0_:=yc.mk (yw Zh hb);have n1_:=yc.mk (hbox);have n2_:=yc.mk ((by rw [hg];exact (yt Zh):w.heap.size≤gb101));have n3_:=yc.mk ((by rw [hg];exact (yt Zh):w.heap.size≤gb101));clear HB;have HB:=n0_;have BK101:=n1_;have GW101:=n2_;have GE101:=n3_;clear n0_ n1_ n2_ n3_;clear hb hbox hg;have hcz3_0:w2.cell? ⟨gb101,0,none⟩=some (.string (⟨#[]⟩:ByteArray)):=(yg BK101.out 0).trans rfl;have hfz3_0:=yf BK101.out 0))
 refine bodyPost_ret (results_cell_row rfl _ _ gb101 60 #[.string a0] (0,0) _ rfl (by refine Zb ?_;refine yy (cs:=#[.string (⟨#[]⟩:ByteArray)]) ?_ 0 _ rfl;refine Zb ?_;exact BK101.out) Tryz.underlying60 rfl Zk) rfl ?_
 exact ⟨by first|rfl|(simp [yK,yL] <;> rfl)|(simp [*,yK,yL] <;> rfl),by repeat (first|(with_reducible first|exact HB.out|apply yl|apply ym|apply yp|refine yu ?_ GE101.out)|exact HB.out)⟩
end Go.Proofs.YtlmennkeggmdbaaGreatDoor
namespace Go.Proofs.YtlmennkeggmdbaaGreatDoor
open Go.RowKit Go.Proofs.YtlmennkeggmdbaaGreatDoorW.PrintWords Go.Proofs.YtlmennkeggmdbaaGreatDoorW.PrintLast Go.Proofs.YtlmennkeggmdbaaGreatDoorW.PrintMore
attribute [local go_sem] Yt Yp YE YB Yj Yk Yu Yv
def QA.f (a0:ByteArray):Option (Int × ByteArray):=(qD.f a0).bind fun t364=>(some (0,t364))
set_option maxHeartbeats 8000000 in
set_option maxRecDepth 100000 in
theorem QA.calls (a0:ByteArray) (r1:Int) (r2:ByteArray) (w:World) (h:QA.f a0=some (r1,r2)) :
 Calls Tryz.prog 17 #[.string a0] w fun e w'=>e=.returned (.agg #[.int .i64 r1,.string r2])∧Below w.heap.size w w':=by
 have hu62:=Tryz.underlying62
 have HB:=yc.mk (Below.refl w.heap.size w)
 have H:((qD.f a0).bind fun t364=>(some (0,t364)))=some (r1,r2):=h
 clear h
 replace H:=Option.bind_eq_some_iff.mp H
 obtain ⟨t364,A20,H⟩:=H
 replace H:(some (0,t364))=some (r1,r2):=H
 have A2:=yc.mk A20
 clear A20
 simp only [Option.some.injEq,Prod.mk.injEq] at H
 obtain ⟨rfl,rfl⟩:=H
 go_enter Tryz.func17,Tryz.ntmps17
 go_wp2_with (first|((with_reducible refine YX (N:=2) rfl ?_);refine YW ?hg (N:=2) ?hd (cs:=#[.int .i64 0,.string (⟨#[]⟩:ByteArray)]) (t:=62) ?hr ?_;(case hd=>rfl);(case hg=>rfl);(case hr=>first|(go_simp;done)|(go_simp;rfl));intro gb363 hg w3 hbox hb;have n0_:=yc.mk (yw Zh hb);have n1_:=yc.mk (hbox);have n2_:=yc.mk ((by rw [hg];exact (yt Zh):w.heap.size≤gb363));have n3_:=yc.mk ((by rw [hg];exact (yt Zh):w.heap.size≤gb363));clear HB;have HB:=n0_;have BK363:=n1_;have GW363:=n2_;have GE363:=n3_;clear n0_ n1_ n2_ n3_;clear hb hbox hg)|((with_reducible refine yW (f:=38) rfl ?_);refine YD (some 4) rfl rfl Tryz.func38 Zk rfl #[.string a0] rfl (by (try simp only [List.map_toArray,List.map_cons,List.map_nil]);first|done|rfl|(simp only [List.length_drop,List.length_take];rfl)) ?_;(with_reducible refine (qD.calls a0 t364 _ A2.out).mono ?_);rintro e w4 ⟨rfl,hb⟩;refine ⟨_,rfl,?_⟩;have n0_:=yc.mk (yI (g:=gb363) (o:=.cells #[.int .i64 0,.string (⟨#[]⟩:ByteArray)] 62 (0,0)) (Zb BK363.out) hb);have n1_:=yc.mk (yw (Zg GE363.out) hb);clear BK363 HB;have BK363:=n0_;have HB:=n1_;clear n0_ n1_;(try clear hb);(try clear hb2);(try clear hk);(try clear hi);have hcz5_0:w4.cell? ⟨gb363,0,none⟩=some (.int .i64 0):=(yg BK363.out 0).trans rfl;have hcz5_1:w4.cell? ⟨gb363,1,none⟩=some (.string (⟨#[]⟩:ByteArray)):=(yg BK363.out 1).trans rfl;have hfz5_0:=yf BK363.out 0;have hfz5_1:=yf BK363.out 1))
 refine bodyPost_ret (results_cell_row rfl _ _ gb363 62 #[.int .i64 0,.string t364] (0,0) _ rfl (by refine Zb ?_;refine yy (cs:=#[.int .i64 0,.string (⟨#[]⟩:ByteArray)]) ?_ 1 _ rfl;refine Zb ?_;refine yy (cs:=#[.int .i64 0,.string (⟨#[]⟩:ByteArray)]) ?_ 0 _ rfl;refine Zb ?_;exact BK363.out) Tryz.underlying62 rfl Zk) rfl ?_
 exact ⟨by first|rfl|(simp [yK,yL] <;> rfl)|(simp [*,yK,yL] <;> rfl),by repeat (first|(with_reducible first|exact HB.out|apply yl|apply ym|apply yp|refine yu ?_ GE363.out)|exact HB.out)⟩
end Go.Proofs.YtlmennkeggmdbaaGreatDoor
namespace Go.Proofs.YtlmennkeggmdbaaGreatDoor
open Go.RowKit Go.Proofs.YtlmennkeggmdbaaGreatDoorW.PrintWords Go.Proofs.YtlmennkeggmdbaaGreatDoorW.PrintLast Go.Proofs.YtlmennkeggmdbaaGreatDoorW.PrintMore
attribute [local go_sem] Yt Yp YE YB Yj Yk Yu Yv
def Ql.f (a0_0:Int) (a0_1:ByteArray) (l1:List ByteArray):Option (ByteArray):=some a0_1
set_option maxHeartbeats 8000000 in
set_option maxRecDepth 100000 in
theorem Ql.calls (a0_0:Int) (a0_1:ByteArray) (A1:Option Addr) (c1:Nat) (l1:List ByteArray) (r:ByteArray) (w:World) (hr1:Kd.C Kd.string w A1 l1.length l1) (hc1:l1.length≤c1) (h:Ql.f a0_0 a0_1 l1=some r) :
 Calls Tryz.prog 39 #[.agg #[.int .i64 a0_0,.string a0_1],.slice A1 l1.length c1] w fun e w'=>e=.returned (.string r)∧Below w.heap.size w w':=by
 have hu62:=Tryz.underlying62
 have HR1:=yc.mk hr1
 have HC1:=yc.mk hc1
 clear hr1 hc1
 have HB:=yc.mk (Below.refl w.heap.size w)
 have H:(some a0_1)=some r:=h
 clear h
 obtain rfl:=Option.some.inj H
 go_enter Tryz.func39,Tryz.ntmps39
 go_wp2_with (first|((with_reducible refine YX (N:=2) rfl ?_);refine YW ?hg (N:=2) ?hd (cs:=#[.int .i64 a0_0,.string a0_1]) (t:=62) ?hr ?_;(case hd=>rfl);(case hg=>rfl);(case hr=>first|(go_simp;done)|(go_simp;rfl));intro gb396 hg w3 hbox hb;have n0_:=yc.mk (yw Zh hb);have n1_:=yc.mk (hbox);have n2_:=yc.mk ((by rw [hg];exact (yt Zh):w.heap.size≤gb396));have n3_:=yc.mk ((by rw [hg];exact (yt Zh):w.heap.size≤gb396));clear HB;have HB:=n0_;have BK396:=n1_;have GW396:=n2_;have GE396:=n3_;clear n0_ n1_ n2_ n3_;clear hb hbox hg;have hcz4_0:w3.cell? ⟨gb396,0,none⟩=some (.int .i64 a0_0):=(yg BK396.out 0).trans rfl;have hcz4_1:w3.cell? ⟨gb396,1,none⟩=some (.string a0_1):=(yg BK396.out 1).trans rfl;have hfz4_0:=yf BK396.out 0;have hfz4_1:=yf BK396.out 1))
 go_ret
 exact ⟨by first|rfl|(simp [yK,yL] <;> rfl)|(simp [*,yK,yL] <;> rfl),by repeat (first|(with_reducible first|exact HB.out|apply yl|apply ym|apply yp|refine yu ?_ GE396.out)|exact HB.out)⟩
end Go.Proofs.YtlmennkeggmdbaaGreatDoor
