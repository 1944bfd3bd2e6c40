/- Part 26 of 34 of the proof of the tied card of FnNetstatRead. -/
import Derived.Test.YtlmennkeggmdbaaGreatDoorVz
import Derived.Test.YtlmennkeggmdbaaGreatDoorV3
import Derived.Test.YtlmennkeggmdbaaGreatDoorV6
set_option linter.unusedVariables false
set_option linter.unusedSimpArgs false
namespace Go.Proofs.YtlmennkeggmdbaaGreatDoor
open Go.RowKit Go.Proofs.YtlmennkeggmdbaaGreatDoorW.PrintWords Go.Proofs.YtlmennkeggmdbaaGreatDoorW.PrintLast Go.Proofs.YtlmennkeggmdbaaGreatDoorW.PrintMore
attribute [local go_sem] Yt Yp YE YB Yj Yk Yu Yv
def Y7.f (a0:Bool):Option (Int):=if a0=true then (some 1) else (some 2)
set_option maxHeartbeats 8000000 in
set_option maxRecDepth 100000 in
theorem Y7.calls (a0:Bool) (r:Int) (w:World) (h:Y7.f a0=some r) :
 Calls Tryz.prog 12 #[.bool a0] w fun e w'=>e=.returned (.int .i64 r)∧yD w w':=by
 have H:(if a0=true then (some 1) else (some 2))=some r:=h
 clear h
 by_cases c2:a0=true
 · subst c2
   have H1:(some 1)=some r:=by rw [if_pos rfl] at H;exact H
   clear H
   have H:=H1
   clear H1
   obtain rfl:=Option.some.inj H
   go_enter Tryz.func12,Tryz.ntmps12
   go_wp2
   go_ret
   exact ⟨by first|rfl|(simp;done)|(simp [*];done)|(simp [yn];done),by repeat (first|exact yD.refl _|apply yD.step)⟩
 · replace c2:=Bool.eq_false_iff.mpr c2
   subst c2
   have H1:(some 2)=some r:=by rw [if_neg (show ¬ (false=true) by decide)] at H;exact H
   clear H
   have H:=H1
   clear H1
   obtain rfl:=Option.some.inj H
   go_enter Tryz.func12,Tryz.ntmps12
   go_wp2
   go_ret
   exact ⟨by first|rfl|(simp;done)|(simp [*];done)|(simp [yn];done),by repeat (first|exact yD.refl _|apply yD.step)⟩
end Go.Proofs.YtlmennkeggmdbaaGreatDoor
namespace Go.Proofs.YtlmennkeggmdbaaGreatDoor
open Go.RowKit Go.Proofs.YtlmennkeggmdbaaGreatDoorW.PrintWords Go.Proofs.YtlmennkeggmdbaaGreatDoorW.PrintLast Go.Proofs.YtlmennkeggmdbaaGreatDoorW.PrintMore
def Y3.f (a0:ByteArray):Option (List ByteArray):=if a0.toList=yac.toList then some Y9 else if a0.toList=ipB.toList then some Jy else none
theorem text_eq {s t:ByteArray} (h:s.toList=t.toList):s=t:=by
 rw [ByteArray.toList_eq,ByteArray.toList_eq] at h
 exact ByteArray.ext (Array.toList_inj.1 h)
set_option maxRecDepth 100000 in
theorem Y3.calls (a0:ByteArray) (r:List ByteArray) (w:World) (h:Y3.f a0=some r) :
 Calls Tryz.prog 30 #[.string a0] w fun e w'=>∃ v0_:Value,e=.returned (v0_)∧Kd.R Kd.string 9 w' w.heap.size (fun _=>True) v0_ r∧Below w.heap.size w w':=by
 unfold Y3.f at h
 split at h
 · rename_i he
   obtain rfl:=text_eq he
   obtain rfl:=Option.some.inj h
   refine YS 40 Tryz.func30 rfl Zk (by simp) ?_
   refine yF (Yb (v:=.slice none 0 0) rfl (yx (Yg (yF (yR (v:=.string yac) rfl (yx (YU ?_)))))))
   refine Jk rfl Zd Zd Zd ?_
   refine Jk rfl Zd Zd Zd ?_
   refine Jk rfl Zd Zd Zd ?_
   refine Jk rfl Zd Zd Zd ?_
   refine Jk rfl Zd Zd Zd ?_
   refine Jk rfl Zd Zd Zd ?_
   refine Jk rfl Zd Zd Zd ?_
   refine Jk rfl Zd Zd Zd ?_
   refine Jk rfl Zd Zd Zd ?_
   refine Jk rfl Zd Zd Zd ?_
   refine yaO rfl Zd Zd Zd ?_
   refine yF (YR (fun a ha=>show _=Result.ok (Next.value (.slice (some ⟨w.heap.size,0,none⟩) Y9.length Y9.length)) (w.alloc (.cells (Y9.map Value.string).toArray 9)) by kernel_rfl) (Yb rfl (yx (JA fun a ha=>?_))))
   simp only [Exit.inBlock,Exit.then]
   exact J2 (fn:=Tryz.f30) (vs:=[.slice (some ⟨w.heap.size,0,none⟩) Y9.length Y9.length]) rfl ⟨_,rfl,R_lits w Y9 Zd,yl (Below.refl _ _) _⟩ ha
 split at h
 · rename_i he
   obtain rfl:=text_eq he
   obtain rfl:=Option.some.inj h
   refine YS 40 Tryz.func30 rfl Zk (by simp) ?_
   refine yF (Yb (v:=.slice none 0 0) rfl (yx (Yg (yF (yR (v:=.string ipB) rfl (yx (YU ?_)))))))
   refine Jk rfl Zd Zd Zd ?_
   refine Jk rfl Zd Zd Zd ?_
   refine Jk rfl Zd Zd Zd ?_
   refine Jk rfl Zd Zd Zd ?_
   refine Jk rfl Zd Zd Zd ?_
   refine Jk rfl Zd Zd Zd ?_
   refine Jk rfl Zd Zd Zd ?_
   refine Jk rfl Zd Zd Zd ?_
   refine Jk rfl Zd Zd Zd ?_
   refine Jk rfl Zd Zd Zd ?_
   refine Jk rfl Zd Zd Zd ?_
   refine yaO rfl Zd Zd Zd ?_
   refine yF (YR (fun a ha=>show _=Result.ok (Next.value (.slice (some ⟨w.heap.size,0,none⟩) Jy.length Jy.length)) (w.alloc (.cells (Jy.map Value.string).toArray 9)) by kernel_rfl) (Yb rfl (yx (JA fun a ha=>?_))))
   simp only [Exit.inBlock,Exit.then]
   exact J2 (fn:=Tryz.f30) (vs:=[.slice (some ⟨w.heap.size,0,none⟩) Jy.length Jy.length]) rfl ⟨_,rfl,R_lits w Jy Zd,yl (Below.refl _ _) _⟩ ha
 cases h
end Go.Proofs.YtlmennkeggmdbaaGreatDoor
namespace Go.Proofs.YtlmennkeggmdbaaGreatDoor
open Go.RowKit Go.Proofs.YtlmennkeggmdbaaGreatDoorW.PrintWords Go.Proofs.YtlmennkeggmdbaaGreatDoorW.PrintLast Go.Proofs.YtlmennkeggmdbaaGreatDoorW.PrintMore
attribute [local go_sem] Yt Yp YE YB Yj Yk Yu Yv
def Yn.l0:Nat→ByteArray→List ByteArray→Int→Int→Option (Bool)
 | 0,_,_,_,_=>none
 | k+1,x1,x7,x8,x9=>if x9<x8 then (if 0≤x9 then (if x9<(x7.length:Int) then (if (yU ByteArray.empty x7 x9).toList=x1.toList then (some true) else (Yn.l0 k x1 x7 x8 (wrap64 (x9+1)))) else (none)) else (none)) else (some false)
def Yn.f (k:Nat) (l0:List ByteArray) (a1:ByteArray):Option (Bool):=Yn.l0 k a1 l0 (l0.length:Int) 0
theorem Yn.YY:∀ k,(∀ y0 y1 y2 y3,LeO (Yn.l0 k y0 y1 y2 y3) (Yn.l0 (k+1) y0 y1 y2 y3))
 | 0=>fun _ _ _ _ r h=>by simp [Yn.l0] at h
 | k+1=>by
  have ih0:=Yn.YY k
  · intro y0 y1 y2 y3
    unfold Yn.l0
    repeat' first
    | (with_reducible exact ih0 _ _ _ _)
    | (with_reducible exact LeO.refl _)
    | (with_reducible exact LeO.none _)
    | (with_reducible refine LeO.ite ?_ ?_)
    | (with_reducible refine LeO.bind ?_ (fun _=>?_))
    | exact ih0 _ _ _ _
    | exact LeO.none _
    | refine LeO.ite ?_ ?_
    | refine LeO.bind ?_ (fun _=>?_)
theorem Yn.mono:∀ a0 a1 k,LeO (Yn.f k a0 a1) (Yn.f (k+1) a0 a1):=by
 intro a0 a1 k
 have ih0:=Yn.YY k
 unfold Yn.f
 repeat' first
  | (with_reducible exact ih0 _ _ _ _)
  | (with_reducible exact LeO.refl _)
  | (with_reducible exact LeO.none _)
  | (with_reducible refine LeO.ite ?_ ?_)
  | (with_reducible refine LeO.bind ?_ (fun _=>?_))
  | exact ih0 _ _ _ _
  | exact LeO.none _
  | refine LeO.ite ?_ ?_
  | refine LeO.bind ?_ (fun _=>?_)
set_option maxHeartbeats 8000000 in
set_option maxRecDepth 100000 in
theorem Yn.calls (k:Nat) (A0:Option Addr) (c0:Nat) (l0:List ByteArray) (a1:ByteArray) (r:Bool) (w:World) (hr0:Kd.C Kd.string w A0 l0.length l0) (hc0:l0.length≤c0) (h:Yn.f k l0 a1=some r) :
 Calls Tryz.prog 52 #[.slice A0 l0.length c0,.string a1] w fun e w'=>e=.returned (.bool r)∧yD w w':=by
 have HR0:=yc.mk hr0
 have HC0:=yc.mk hc0
 clear hr0 hc0
 have H:(Yn.l0 k a1 l0 (l0.length:Int) 0)=some r:=h
 clear h
 have H':=yc.mk H
 clear H
 go_enter Tryz.func52,Tryz.ntmps52
 go_wp2
 go_loopg [9] k (fun kq v9 w'=>∃ (x9_1:Int),v9=.int .i64 x9_1∧yc (Yn.l0 kq a1 l0 (l0.length:Int) x9_1=some r)∧yc (kq≤k)∧yD w w')
 case atStart=>exact ⟨(0),(by first|rfl|(simp;done)|(simp [*];done)|(simp [yn];done)),H',⟨Nat.le_refl _⟩,by repeat (first|exact yD.refl _|apply yD.step)⟩
 case round=>
  clear H'
  try clear p2
  obtain ⟨x9_1,rfl,HA,HK1,⟨m1,rfl⟩⟩:=hrel
  cases gk with
  | zero=>exact absurd HA.out (by simp [Yn.l0])
  | succ k1=>
   have H:=HA.out
   clear HA
   simp only [Yn.l0] at H
   by_cases c3:x9_1<(l0.length:Int)
   · rw [if_pos c3] at H
     have c3b0:decide (x9_1<(l0.length:Int))=true:=decide_eq_true c3
     clear c3
     by_cases c4:0≤x9_1
     · rw [if_pos c4] at H
       have c4b0:decide (0≤x9_1)=true:=decide_eq_true c4
       clear c4
       by_cases c5:x9_1<(l0.length:Int)
       · rw [if_pos c5] at H
         have c5b0:decide (x9_1<(l0.length:Int))=true:=decide_eq_true c5
         clear c5
         by_cases c6:(yU ByteArray.empty l0 x9_1).toList=a1.toList
         · rw [if_pos c6] at H
           have c6b0:((yU ByteArray.empty l0 x9_1).toList == a1.toList)=true:=beq_iff_eq.mpr c6
           have c6b1:((yU ByteArray.empty l0 x9_1).toList != a1.toList)=false:=bne_eq_false_iff_eq.mpr c6
           clear c6
           obtain rfl:=Option.some.inj H
           have p238:0≤(x9_1:Int):=of_decide_eq_true (by first|(with_reducible assumption)|assumption)
           have q238:x9_1<(l0.length:Int):=of_decide_eq_true (by first|(with_reducible assumption)|assumption)
           obtain ⟨ad238,e238,hx238_0⟩:=Kd.YH HR0.out x9_1 p238 q238
           cases e238
           replace p238:=eq_true p238
           replace q238:=eq_true q238
           go_wp2
           go_ret
           exact ⟨by first|rfl|(simp;done)|(simp [*];done)|(simp [yn];done),by repeat (first|exact yD.refl _|apply yD.step)⟩
         · rw [if_neg c6] at H
           have c6b0:((yU ByteArray.empty l0 x9_1).toList == a1.toList)=false:=beq_eq_false_iff_ne.mpr c6
           have c6b1:((yU ByteArray.empty l0 x9_1).toList != a1.toList)=true:=bne_iff_ne.mpr c6
           have H':=yc.mk H
           clear H
           have p238:0≤(x9_1:Int):=of_decide_eq_true (by first|(with_reducible assumption)|assumption)
           have q238:x9_1<(l0.length:Int):=of_decide_eq_true (by first|(with_reducible assumption)|assumption)
           obtain ⟨ad238,e238,hx238_0⟩:=Kd.YH HR0.out x9_1 p238 q238
           cases e238
           replace p238:=eq_true p238
           replace q238:=eq_true q238
           go_wp2
           go_roundg k1
           case measure=>have:=HK1.out;omega
           case rel=>exact ⟨(wrap64 (x9_1+1)),(by first|rfl|(simp;done)|(simp [*];done)|(simp [yn];done)),H',⟨by have:=HK1.out;omega⟩,by repeat (first|exact yD.refl _|apply yD.step)⟩
       · rw [if_neg c5] at H
         exact absurd H (by simp)
     · rw [if_neg c4] at H
       exact absurd H (by simp)
   · rw [if_neg c3] at H
     have c3b0:decide (x9_1<(l0.length:Int))=false:=decide_eq_false c3
     clear c3
     obtain rfl:=Option.some.inj H
     go_wp2
     go_ret
     exact ⟨by first|rfl|(simp;done)|(simp [*];done)|(simp [yn];done),by repeat (first|exact yD.refl _|apply yD.step)⟩
end Go.Proofs.YtlmennkeggmdbaaGreatDoor
namespace Go.Proofs.YtlmennkeggmdbaaGreatDoor
open Go.RowKit Go.Proofs.YtlmennkeggmdbaaGreatDoorW.PrintWords Go.Proofs.YtlmennkeggmdbaaGreatDoorW.PrintLast Go.Proofs.YtlmennkeggmdbaaGreatDoorW.PrintMore
attribute [local go_sem] Yt Yp YE YB Yj Yk Yu Yv
def Yq.f (k:Nat) (a0:ByteArray):Option (Bool):=(Yn.f k (([(⟨#[84,67,80,65,98,111,114,116,79,110,77,101,109,111,114,121]⟩:ByteArray),(⟨#[84,67,80,65,98,111,114,116,79,110,84,105,109,101,111,117,116]⟩:ByteArray),(⟨#[84,67,80,65,98,111,114,116,79,110,76,105,110,103,101,114]⟩:ByteArray),(⟨#[84,67,80,65,98,111,114,116,70,97,105,108,101,100]⟩:ByteArray),(⟨#[84,67,80,77,101,109,111,114,121,80,114,101,115,115,117,114,101,115]⟩:ByteArray),(⟨#[84,67,80,77,101,109,111,114,121,80,114,101,115,115,117,114,101,115,67,104,114,111,110,111]⟩:ByteArray),(⟨#[84,67,80,83,65,67,75,68,105,115,99,97,114,100]⟩:ByteArray),(⟨#[84,67,80,68,83,65,67,75,73,103,110,111,114,101,100,79,108,100]⟩:ByteArray),(⟨#[84,67,80,68,83,65,67,75,73,103,110,111,114,101,100,78,111,85,110,100,111]⟩:ByteArray),(⟨#[84,67,80,83,112,117,114,105,111,117,115,82,84,79,115]⟩:ByteArray),(⟨#[84,67,80,77,68,53,78,111,116,70,111,117,110,100]⟩:ByteArray),(⟨#[84,67,80,77,68,53,85,110,101,120,112,101,99,116,101,100]⟩:ByteArray),(⟨#[84,67,80,77,68,53,70,97,105,108,117,114,101]⟩:ByteArray),(⟨#[84,67,80,83,97,99,107,83,104,105,102,116,101,100]⟩:ByteArray),(⟨#[84,67,80,83,97,99,107,77,101,114,103,101,100]⟩:ByteArray),(⟨#[84,67,80,83,97,99,107,83,104,105,102,116,70,97,108,108,98,97,99,107]⟩:ByteArray),(⟨#[84,67,80,66,97,99,107,108,111,103,68,114,111,112]⟩:ByteArray),(⟨#[80,70,77,101,109,97,108,108,111,99,68,114,111,112]⟩:ByteArray),(⟨#[84,67,80,77,105,110,84,84,76,68,114,111,112]⟩:ByteArray)]:List ByteArray)) a0).bind fun t242=>(some t242)
theorem Yq.mono:∀ a0 k,LeO (Yq.f k a0) (Yq.f (k+1) a0):=by
 intro a0 k
 unfold Yq.f
 repeat' first
  | (with_reducible exact Yn.mono _ _ _)
  | (with_reducible exact LeO.refl _)
  | (with_reducible exact LeO.none _)
  | (with_reducible refine LeO.ite ?_ ?_)
  | (with_reducible refine LeO.bind ?_ (fun _=>?_))
  | exact Yn.mono _ _ _
  | exact LeO.none _
  | refine LeO.ite ?_ ?_
  | refine LeO.bind ?_ (fun _=>?_)
set_option maxHeartbeats 8000000 in
set_option maxRecDepth 100000 in
theorem Yq.calls (k:Nat) (a0:ByteArray) (r:Bool) (w:World) (h:Yq.f k a0=some r) :
 Calls Tryz.prog 31 #[.string a0] w fun e w'=>e=.returned (.bool r)∧Below w.heap.size w w':=by
 have HB:=yc.mk (Below.refl w.heap.size w)
 have H:((Yn.f k (([(⟨#[84,67,80,65,98,111,114,116,79,110,77,101,109,111,114,121]⟩:ByteArray),(⟨#[84,67,80,65,98,111,114,116,79,110,84,105,109,101,111,117,116]⟩:ByteArray),(⟨#[84,67,80,65,98,111,114,116,79,110,76,105,110,103,101,114]⟩:ByteArray),(⟨#[84,67,80,65,98,111,114,116,70,97,105,108,101,100]⟩:ByteArray),(⟨#[84,67,80,77,101,109,111,114,121,80,114,101,115,115,117,114,101,115]⟩:ByteArray),(⟨#[84,67,80,77,101,109,111,114,121,80,114,101,115,115,117,114,101,115,67,104,114,111,110,111]⟩:ByteArray),(⟨#[84,67,80,83,65,67,75,68,105,115,99,97,114,100]⟩:ByteArray),(⟨#[84,67,80,68,83,65,67,75,73,103,110,111,114,101,100,79,108,100]⟩:ByteArray),(⟨#[84,67,80,68,83,65,67,75,73,103,110,111,114,101,100,78,111,85,110,100,111]⟩:ByteArray),(⟨#[84,67,80,83,112,117,114,105,111,117,115,82,84,79,115]⟩:ByteArray),(⟨#[84,67,80,77,68,53,78,111,116,70,111,117,110,100]⟩:ByteArray),(⟨#[84,67,80,77,68,53,85,110,101,120,112,101,99,116,101,100]⟩:ByteArray),(⟨#[84,67,80,77,68,53,70,97,105,108,117,114,101]⟩:ByteArray),(⟨#[84,67,80,83,97,99,107,83,104,105,102,116,101,100]⟩:ByteArray),(⟨#[84,67,80,83,97,99,107,77,101,114,103,101,100]⟩:ByteArray),(⟨#[84,67,80,83,97,99,107,83,104,105,102,116,70,97,108,108,98,97,99,107]⟩:ByteArray),(⟨#[84,67,80,66,97,99,107,108,111,103,68,114,111,112]⟩:ByteArray),(⟨#[80,70,77,101,109,97,108,108,111,99,68,114,111,112]⟩:ByteArray),(⟨#[84,67,80,77,105,110,84,84,76,68,114,111,112]⟩:ByteArray)]:List ByteArray)) a0).bind fun t242=>(some t242))=some r:=h
 clear h
 obtain ⟨y239,hy239⟩:∃ y_:List ByteArray,y_=(([(⟨#[84,67,80,65,98,111,114,116,79,110,77,101,109,111,114,121]⟩:ByteArray),(⟨#[84,67,80,65,98,111,114,116,79,110,84,105,109,101,111,117,116]⟩:ByteArray),(⟨#[84,67,80,65,98,111,114,116,79,110,76,105,110,103,101,114]⟩:ByteArray),(⟨#[84,67,80,65,98,111,114,116,70,97,105,108,101,100]⟩:ByteArray),(⟨#[84,67,80,77,101,109,111,114,121,80,114,101,115,115,117,114,101,115]⟩:ByteArray),(⟨#[84,67,80,77,101,109,111,114,121,80,114,101,115,115,117,114,101,115,67,104,114,111,110,111]⟩:ByteArray),(⟨#[84,67,80,83,65,67,75,68,105,115,99,97,114,100]⟩:ByteArray),(⟨#[84,67,80,68,83,65,67,75,73,103,110,111,114,101,100,79,108,100]⟩:ByteArray),(⟨#[84,67,80,68,83,65,67,75,73,103,110,111,114,101,100,78,111,85,110,100,111]⟩:ByteArray),(⟨#[84,67,80,83,112,117,114,105,111,117,115,82,84,79,115]⟩:ByteArray),(⟨#[84,67,80,77,68,53,78,111,116,70,111,117,110,100]⟩:ByteArray),(⟨#[84,67,80,77,68,53,85,110,101,120,112,101,99,116,101,100]⟩:ByteArray),(⟨#[84,67,80,77,68,53,70,97,105,108,117,114,101]⟩:ByteArray),(⟨#[84,67,80,83,97,99,107,83,104,105,102,116,101,100]⟩:ByteArray),(⟨#[84,67,80,83,97,99,107,77,101,114,103,101,100]⟩:ByteArray),(⟨#[84,67,80,83,97,99,107,83,104,105,102,116,70,97,108,108,98,97,99,107]⟩:ByteArray),(⟨#[84,67,80,66,97,99,107,108,111,103,68,114,111,112]⟩:ByteArray),(⟨#[80,70,77,101,109,97,108,108,111,99,68,114,111,112]⟩:ByteArray),(⟨#[84,67,80,77,105,110,84,84,76,68,114,111,112]⟩:ByteArray)]:List ByteArray)):=⟨_,rfl⟩
 replace H:((Yn.f k y239 a0).bind fun t242=>(some t242))=some r:=by first|(rw [hy239];with_reducible exact H)|(have H2_:=(Option.bind_some _ _).symm.trans H;rw [hy239];with_reducible exact H2_)|(have H2_:=(Option.bind_some _ _).symm.trans H;with_reducible exact H2_)|with_reducible exact H|(rw [hy239];exact H)|exact H
 have Ny239:=yc.mk hy239
 clear hy239
 replace H:=Option.bind_eq_some_iff.mp H
 obtain ⟨t242,A20,H⟩:=H
 replace H:(some t242)=some r:=H
 have A2:=yc.mk A20
 clear A20
 obtain rfl:=Option.some.inj H
 go_enter Tryz.func31,Tryz.ntmps31
 go_wp2_with (first|((with_reducible refine YX (N:=3) rfl ?_);refine Kd.R_lit Kd.string _ 9 ?hg (N:=3) ?hd (xs:=([(⟨#[84,67,80,65,98,111,114,116,79,110,77,101,109,111,114,121]⟩:ByteArray),(⟨#[84,67,80,65,98,111,114,116,79,110,84,105,109,101,111,117,116]⟩:ByteArray),(⟨#[84,67,80,65,98,111,114,116,79,110,76,105,110,103,101,114]⟩:ByteArray),(⟨#[84,67,80,65,98,111,114,116,70,97,105,108,101,100]⟩:ByteArray),(⟨#[84,67,80,77,101,109,111,114,121,80,114,101,115,115,117,114,101,115]⟩:ByteArray),(⟨#[84,67,80,77,101,109,111,114,121,80,114,101,115,115,117,114,101,115,67,104,114,111,110,111]⟩:ByteArray),(⟨#[84,67,80,83,65,67,75,68,105,115,99,97,114,100]⟩:ByteArray),(⟨#[84,67,80,68,83,65,67,75,73,103,110,111,114,101,100,79,108,100]⟩:ByteArray),(⟨#[84,67,80,68,83,65,67,75,73,103,110,111,114,101,100,78,111,85,110,100,111]⟩:ByteArray),(⟨#[84,67,80,83,112,117,114,105,111,117,115,82,84,79,115]⟩:ByteArray),(⟨#[84,67,80,77,68,53,78,111,116,70,111,117,110,100]⟩:ByteArray),(⟨#[84,67,80,77,68,53,85,110,101,120,112,101,99,116,101,100]⟩:ByteArray),(⟨#[84,67,80,77,68,53,70,97,105,108,117,114,101]⟩:ByteArray),(⟨#[84,67,80,83,97,99,107,83,104,105,102,116,101,100]⟩:ByteArray),(⟨#[84,67,80,83,97,99,107,77,101,114,103,101,100]⟩:ByteArray),(⟨#[84,67,80,83,97,99,107,83,104,105,102,116,70,97,108,108,98,97,99,107]⟩:ByteArray),(⟨#[84,67,80,66,97,99,107,108,111,103,68,114,111,112]⟩:ByteArray),(⟨#[80,70,77,101,109,97,108,108,111,99,68,114,111,112]⟩:ByteArray),(⟨#[84,67,80,77,105,110,84,84,76,68,114,111,112]⟩:ByteArray)]:List ByteArray)) (inner:=[.string (⟨#[84,67,80,65,98,111,114,116,79,110,77,101,109,111,114,121]⟩:ByteArray),.string (⟨#[84,67,80,65,98,111,114,116,79,110,84,105,109,101,111,117,116]⟩:ByteArray),.string (⟨#[84,67,80,65,98,111,114,116,79,110,76,105,110,103,101,114]⟩:ByteArray),.string (⟨#[84,67,80,65,98,111,114,116,70,97,105,108,101,100]⟩:ByteArray),.string (⟨#[84,67,80,77,101,109,111,114,121,80,114,101,115,115,117,114,101,115]⟩:ByteArray),.string (⟨#[84,67,80,77,101,109,111,114,121,80,114,101,115,115,117,114,101,115,67,104,114,111,110,111]⟩:ByteArray),.string (⟨#[84,67,80,83,65,67,75,68,105,115,99,97,114,100]⟩:ByteArray),.string (⟨#[84,67,80,68,83,65,67,75,73,103,110,111,114,101,100,79,108,100]⟩:ByteArray),.string (⟨#[84,67,80,68,83,65,67,75,73,103,110,111,114,101,100,78,111,85,110,100,111]⟩:ByteArray),.string (⟨#[84,67,80,83,112,117,114,105,111,117,115,82,84,79,115]⟩:ByteArray),.string (⟨#[84,67,80,77,68,53,78,111,116,70,111,117,110,100]⟩:ByteArray),.string (⟨#[84,67,80,77,68,53,85,110,101,120,112,101,99,116,101,100]⟩:ByteArray),.string (⟨#[84,67,80,77,68,53,70,97,105,108,117,114,101]⟩:ByteArray),.string (⟨#[84,67,80,83,97,99,107,83,104,105,102,116,101,100]⟩:ByteArray),.string (⟨#[84,67,80,83,97,99,107,77,101,114,103,101,100]⟩:ByteArray),.string (⟨#[84,67,80,83,97,99,107,83,104,105,102,116,70,97,108,108,98,97,99,107]⟩:ByteArray),.string (⟨#[84,67,80,66,97,99,107,108,111,103,68,114,111,112]⟩:ByteArray),.string (⟨#[80,70,77,101,109,97,108,108,111,99,68,114,111,112]⟩:ByteArray),.string (⟨#[84,67,80,77,105,110,84,84,76,68,114,111,112]⟩:ByteArray)]) (ok:=fun _=>True) (okp:=fun _=>True) ?hr ?hp (fun _ hk=>hk) trivial (Below.refl _ _) (Nat.le_refl _) (by simp) ?_;(case hd=>rfl);(case hg=>rfl);(case hr=>first|(go_simp;done)|(go_simp;rfl));(case hp=>exact (YM.one (show Kd.M Kd.string _ _ _ (⟨#[84,67,80,65,98,111,114,116,79,110,77,101,109,111,114,121]⟩:ByteArray) [.string (⟨#[84,67,80,65,98,111,114,116,79,110,77,101,109,111,114,121]⟩:ByteArray)] from rfl) (YM.one (show Kd.M Kd.string _ _ _ (⟨#[84,67,80,65,98,111,114,116,79,110,84,105,109,101,111,117,116]⟩:ByteArray) [.string (⟨#[84,67,80,65,98,111,114,116,79,110,84,105,109,101,111,117,116]⟩:ByteArray)] from rfl) (YM.one (show Kd.M Kd.string _ _ _ (⟨#[84,67,80,65,98,111,114,116,79,110,76,105,110,103,101,114]⟩:ByteArray) [.string (⟨#[84,67,80,65,98,111,114,116,79,110,76,105,110,103,101,114]⟩:ByteArray)] from rfl) (YM.one (show Kd.M Kd.string _ _ _ (⟨#[84,67,80,65,98,111,114,116,70,97,105,108,101,100]⟩:ByteArray) [.string (⟨#[84,67,80,65,98,111,114,116,70,97,105,108,101,100]⟩:ByteArray)] from rfl) (YM.one (show Kd.M Kd.string _ _ _ (⟨#[84,67,80,77,101,109,111,114,121,80,114,101,115,115,117,114,101,115]⟩:ByteArray) [.string (⟨#[84,67,80,77,101,109,111,114,121,80,114,101,115,115,117,114,101,115]⟩:ByteArray)] from rfl) (YM.one (show Kd.M Kd.string _ _ _ (⟨#[84,67,80,77,101,109,111,114,121,80,114,101,115,115,117,114,101,115,67,104,114,111,110,111]⟩:ByteArray) [.string (⟨#[84,67,80,77,101,109,111,114,121,80,114,101,115,115,117,114,101,115,67,104,114,111,110,111]⟩:ByteArray)] from rfl) (YM.one (show Kd.M Kd.string _ _ _ (⟨#[84,67,80,83,65,67,75,68,105,115,99,97,114,100]⟩:ByteArray) [.string (⟨#[84,67,80,83,65,67,75,68,105,115,99,97,114,100]⟩:ByteArray)] from rfl) (YM.one (show Kd.M Kd.string _ _ _ (⟨#[84,67,80,68,83,65,67,75,73,103,110,111,114,101,100,79,108,100]⟩:ByteArray) [.string (⟨#[84,67,80,68,83,65,67,75,73,103,110,111,114,101,100,79,108,100]⟩:ByteArray)] from rfl) (YM.one (show Kd.M Kd.string _ _ _ (⟨#[84,67,80,68,83,65,67,75,73,103,110,111,114,101,100,78,111,85,110,100,111]⟩:ByteArray) [.string (⟨#[84,67,80,68,83,65,67,75,73,103,110,111,114,101,100,78,111,85,110,100,111]⟩:ByteArray)] from rfl) (YM.one (show Kd.M Kd.string _ _ _ (⟨#[84,67,80,83,112,117,114,105,111,117,115,82,84,79,115]⟩:ByteArray) [.string (⟨#[84,67,80,83,112,117,114,105,111,117,115,82,84,79,115]⟩:ByteArray)] from rfl) (YM.one (show Kd.M Kd.string _ _ _ (⟨#[84,67,80,77,68,53,78,111,116,70,111,117,110,100]⟩:ByteArray) [.string (⟨#[84,67,80,77,68,53,78,111,116,70,111,117,110,100]⟩:ByteArray)] from rfl) (YM.one (show Kd.M Kd.string _ _ _ (⟨#[84,67,80,77,68,53,85,110,101,120,112,101,99,116,101,100]⟩:ByteArray) [.string (⟨#[84,67,80,77,68,53,85,110,101,120,112,101,99,116,101,100]⟩:ByteArray)] from rfl) (YM.one (show Kd.M Kd.string _ _ _ (⟨#[84,67,80,77,68,53,70,97,105,108,117,114,101]⟩:ByteArray) [.string (⟨#[84,67,80,77,68,53,70,97,105,108,117,114,101]⟩:ByteArray)] from rfl) (YM.one (show Kd.M Kd.string _ _ _ (⟨#[84,67,80,83,97,99,107,83,104,105,102,116,101,100]⟩:ByteArray) [.string (⟨#[84,67,80,83,97,99,107,83,104,105,102,116,101,100]⟩:ByteArray)] from rfl) (YM.one (show Kd.M Kd.string _ _ _ (⟨#[84,67,80,83,97,99,107,77,101,114,103,101,100]⟩:ByteArray) [.string (⟨#[84,67,80,83,97,99,107,77,101,114,103,101,100]⟩:ByteArray)] from rfl) (YM.one (show Kd.M Kd.string _ _ _ (⟨#[84,67,80,83,97,99,107,83,104,105,102,116,70,97,108,108,98,97,99,107]⟩:ByteArray) [.string (⟨#[84,67,80,83,97,99,107,83,104,105,102,116,70,97,108,108,98,97,99,107]⟩:ByteArray)] from rfl) (YM.one (show Kd.M Kd.string _ _ _ (⟨#[84,67,80,66,97,99,107,108,111,103,68,114,111,112]⟩:ByteArray) [.string (⟨#[84,67,80,66,97,99,107,108,111,103,68,114,111,112]⟩:ByteArray)] from rfl) (YM.one (show Kd.M Kd.string _ _ _ (⟨#[80,70,77,101,109,97,108,108,111,99,68,114,111,112]⟩:ByteArray) [.string (⟨#[80,70,77,101,109,97,108,108,111,99,68,114,111,112]⟩:ByteArray)] from rfl) (YM.one (show Kd.M Kd.string _ _ _ (⟨#[84,67,80,77,105,110,84,84,76,68,114,111,112]⟩:ByteArray) [.string (⟨#[84,67,80,77,105,110,84,84,76,68,114,111,112]⟩:ByteArray)] from rfl) (YM.none _ _)))))))))))))))))))));intro v240 w3 ho4 hb hg_ hnew_;clear hg_ hnew_;(first|rw [← Ny239.out] at ho4|(simp only [Int.reduceToNat] at ho4;rw [← Ny239.out] at ho4));have n0_:=yc.mk (Kd.Ji ho4 (yt Zh));have n1_:=yc.mk (yw Zh hb);clear HB;have HO241:=n0_;have HB:=n1_;clear n0_ n1_;clear hb ho4;obtain ⟨Ao5,co5,eo5⟩:=Kd.YF HO241.out;subst eo5)|((with_reducible refine yW (f:=52) rfl ?_);refine YD (some 5) rfl rfl Tryz.func52 Zk rfl #[.slice Ao5 y239.length co5,.string a0] rfl (by (try simp only [List.map_toArray,List.map_cons,List.map_nil]);first|done|rfl|(simp only [List.length_drop,List.length_take];rfl)) ?_;(with_reducible refine (Yn.calls k _ _ y239 a0 t242 _ ?side1 ?side2 A2.out).mono ?_);(case side1=>repeat (first|exact (Kd.YK HO241.out).2.2|(with_reducible refine Kd.qG ?_ _)|(with_reducible refine Kd.qH ?_ _)|(with_reducible refine Kd.Qv ?_)));(case side2=>exact (Kd.YK HO241.out).2.1);rintro e w' ⟨rfl,⟨nd,rfl⟩⟩;refine ⟨_,rfl,?_⟩))
 go_ret
 exact ⟨by first|rfl|(simp [yK,yL] <;> rfl)|(simp [*,yK,yL] <;> rfl),by repeat (first|(with_reducible first|exact HB.out|apply yl|apply ym|apply yp)|exact HB.out)⟩
end Go.Proofs.YtlmennkeggmdbaaGreatDoor
namespace Go.Proofs.YtlmennkeggmdbaaGreatDoor
open Go.RowKit Go.Proofs.YtlmennkeggmdbaaGreatDoorW.PrintWords Go.Proofs.YtlmennkeggmdbaaGreatDoorW.PrintLast Go.Proofs.YtlmennkeggmdbaaGreatDoorW.PrintMore
attribute [local go_sem] Yt Yp YE YB Yj Yk Yu Yv
mutual
def yE.l0:Nat→List (S71)→Int→Int→Option (Bool)
 | 0,_,_,_=>none
 | k+1,x0,x6,x7=>if x7<x6 then (yE.l1 k x0 x7 x6 x7 x7 0) else (some true)
def yE.l1:Nat→List (S71)→Int→Int→Int→Int→Int→Option (Bool)
 | 0,_,_,_,_,_,_=>none
 | k+1,x0,x3,x6,x7,x10,x11=>if x11<x10 then (if 0≤x3 then (if x3<(x0.length:Int) then (if 0≤x11 then (if x11<(x0.length:Int) then (if ((yj x0 x3).f0).toList=((yj x0 x11).f0).toList then (some false) else (yE.l1 k x0 x3 x6 x7 x10 (wrap64 (x11+1)))) else (none)) else (none)) else (none)) else (none)) else (yE.l0 k x0 x6 (wrap64 (x7+1)))
end
def yE.f (k:Nat) (l0:List (S71)):Option (Bool):=yE.l0 k l0 (l0.length:Int) 0
theorem yE.YY:∀ k,(∀ y0 y1 y2,LeO (yE.l0 k y0 y1 y2) (yE.l0 (k+1) y0 y1 y2))∧(∀ y0 y1 y2 y3 y4 y5,LeO (yE.l1 k y0 y1 y2 y3 y4 y5) (yE.l1 (k+1) y0 y1 y2 y3 y4 y5))
 | 0=>⟨fun _ _ _ r h=>by simp [yE.l0] at h,fun _ _ _ _ _ _ r h=>by simp [yE.l1] at h⟩
 | k+1=>by
  obtain ⟨ih0,ih1⟩:=yE.YY k
  refine ⟨?_,?_⟩
  · intro y0 y1 y2
    unfold yE.l0
    repeat' first
    | (with_reducible exact ih0 _ _ _)
    | (with_reducible exact ih1 _ _ _ _ _ _)
    | (with_reducible exact LeO.refl _)
    | (with_reducible exact LeO.none _)
    | (with_reducible refine LeO.ite ?_ ?_)
    | (with_reducible refine LeO.bind ?_ (fun _=>?_))
    | exact ih0 _ _ _
    | exact ih1 _ _ _ _ _ _
    | exact LeO.none _
    | refine LeO.ite ?_ ?_
    | refine LeO.bind ?_ (fun _=>?_)
  · intro y0 y1 y2 y3 y4 y5
    unfold yE.l1
    repeat' first
    | (with_reducible exact ih0 _ _ _)
    | (with_reducible exact ih1 _ _ _ _ _ _)
    | (with_reducible exact LeO.refl _)
    | (with_reducible exact LeO.none _)
    | (with_reducible refine LeO.ite ?_ ?_)
    | (with_reducible refine LeO.bind ?_ (fun _=>?_))
    | exact ih0 _ _ _
    | exact ih1 _ _ _ _ _ _
    | exact LeO.none _
    | refine LeO.ite ?_ ?_
    | refine LeO.bind ?_ (fun _=>?_)
theorem yE.mono:∀ a0 k,LeO (yE.f k a0) (yE.f (k+1) a0):=by
 intro a0 k
 obtain ⟨ih0,ih1⟩:=yE.YY k
 unfold yE.f
 repeat' first
  | (with_reducible exact ih0 _ _ _)
  | (with_reducible exact ih1 _ _ _ _ _ _)
  | (with_reducible exact LeO.refl _)
  | (with_reducible exact LeO.none _)
  | (with_reducible refine LeO.ite ?_ ?_)
  | (with_reducible refine LeO.bind ?_ (fun _=>?_))
  | exact ih0 _ _ _
  | exact ih1 _ _ _ _ _ _
  | exact LeO.none _
  | refine LeO.ite ?_ ?_
  | refine LeO.bind ?_ (fun _=>?_)
set_option maxHeartbeats 8000000 in
set_option maxRecDepth 100000 in
theorem yE.calls (k:Nat) (A0:Option Addr) (c0:Nat) (l0:List (S71)) (r:Bool) (w:World) (hr0:Kd.C k71 w A0 l0.length l0) (hc0:l0.length≤c0) (h:yE.f k l0=some r) :
 Calls Tryz.prog 32 #[.slice A0 l0.length c0] w fun e w'=>e=.returned (.bool r)∧yD w w':=by
 have HR0:=yc.mk hr0
 have HC0:=yc.mk hc0
 clear hr0 hc0
 have H:(yE.l0 k l0 (l0.length:Int) 0)=some r:=h
 clear h
 have H':=yc.mk H
 clear H
 go_enter Tryz.func32,Tryz.ntmps32
 go_wp2
 repeat (go_quiet (fail);try go_wp2)
 go_loopg [7] k (fun kq v7 w'=>∃ (x7_1:Int),v7=.int .i64 x7_1∧yc (yE.l0 kq l0 (l0.length:Int) x7_1=some r)∧yc (kq≤k)∧yD w w')
 case atStart=>exact ⟨(0),(by first|rfl|(simp;done)|(simp [*];done)|(simp [yn];done)),H',⟨Nat.le_refl _⟩,by repeat (first|exact yD.refl _|apply yD.step)⟩
 case round=>
  clear H'
  obtain ⟨x7_1,rfl,HA,HK1,⟨m1,rfl⟩⟩:=hrel
  cases gk with
  | zero=>exact absurd HA.out (by simp [yE.l0])
  | succ k1=>
   have H:=HA.out
   clear HA
   simp only [yE.l0] at H
   by_cases c2:x7_1<(l0.length:Int)
   · rw [if_pos c2] at H
     have c2b0:decide (x7_1<(l0.length:Int))=true:=decide_eq_true c2
     clear c2
     have H':=yc.mk H
     clear H
     go_wp2
     repeat (go_quiet (fail);try go_wp2)
     go_loopg [11] k1 (fun kq v11 w'=>∃ (x11_2:Int),v11=.int .i64 x11_2∧yc (yE.l1 kq l0 x7_1 (l0.length:Int) x7_1 x7_1 x11_2=some r)∧yc (kq≤k1)∧yD w w')
     case atStart=>exact ⟨(0),(by first|rfl|(simp;done)|(simp [*];done)|(simp [yn];done)),H',⟨Nat.le_refl _⟩,by repeat (first|exact yD.refl _|apply yD.step)⟩
     case round=>
      clear H'
      try clear c2
      try clear c2b0
      try clear p2
      obtain ⟨x11_2,rfl,HA,HK2,⟨m2,rfl⟩⟩:=hrel
      cases gk with
      | zero=>exact absurd HA.out (by simp [yE.l1])
      | succ k2=>
       have H:=HA.out
       clear HA
       simp only [yE.l1] at H
       by_cases c3:x11_2<x7_1
       · rw [if_pos c3] at H
         have c3b0:decide (x11_2<x7_1)=true:=decide_eq_true c3
         clear c3
         by_cases c4:0≤x7_1
         · rw [if_pos c4] at H
           have c4b0:decide (0≤x7_1)=true:=decide_eq_true c4
           clear c4
           by_cases c5:x7_1<(l0.length:Int)
           · rw [if_pos c5] at H
             have c5b0:decide (x7_1<(l0.length:Int))=true:=decide_eq_true c5
             clear c5
             by_cases c6:0≤x11_2
             · rw [if_pos c6] at H
               have c6b0:decide (0≤x11_2)=true:=decide_eq_true c6
               clear c6
               by_cases c7:x11_2<(l0.length:Int)
               · rw [if_pos c7] at H
                 have c7b0:decide (x11_2<(l0.length:Int))=true:=decide_eq_true c7
                 clear c7
                 by_cases c8:((yj l0 x7_1).f0).toList=((yj l0 x11_2).f0).toList
                 · rw [if_pos c8] at H
                   have c8b0:(((yj l0 x7_1).f0).toList == ((yj l0 x11_2).f0).toList)=true:=beq_iff_eq.mpr c8
                   have c8b1:(((yj l0 x7_1).f0).toList != ((yj l0 x11_2).f0).toList)=false:=bne_eq_false_iff_eq.mpr c8
                   clear c8
                   obtain rfl:=Option.some.inj H
                   have p243:0≤(x7_1:Int):=of_decide_eq_true (by first|(with_reducible assumption)|assumption)
                   have q243:x7_1<(l0.length:Int):=of_decide_eq_true (by first|(with_reducible assumption)|assumption)
                   obtain ⟨ad243,A243_1,c243_1,A243_2,c243_2,e243,hx243_0,hx243_1,hx243_2,hl243_1,hi243_1,hl243_2,hi243_2⟩:=ybo HR0.out x7_1 p243 q243
                   cases e243
                   have HR243_1:=yc.mk hi243_1
                   have HC243_1:=yc.mk hl243_1
                   clear hi243_1 hl243_1
                   have HR243_2:=yc.mk hi243_2
                   have HC243_2:=yc.mk hl243_2
                   clear hi243_2 hl243_2
                   replace p243:=eq_true p243
                   replace q243:=eq_true q243
                   have p244:0≤(x11_2:Int):=of_decide_eq_true (by first|(with_reducible assumption)|assumption)
                   have q244:x11_2<(l0.length:Int):=of_decide_eq_true (by first|(with_reducible assumption)|assumption)
                   obtain ⟨ad244,A244_1,c244_1,A244_2,c244_2,e244,hx244_0,hx244_1,hx244_2,hl244_1,hi244_1,hl244_2,hi244_2⟩:=ybo HR0.out x11_2 p244 q244
                   obtain rfl:ad243=ad244:=(by injection e244)
                   have HR244_1:=yc.mk hi244_1
                   have HC244_1:=yc.mk hl244_1
                   clear hi244_1 hl244_1
                   have HR244_2:=yc.mk hi244_2
                   have HC244_2:=yc.mk hl244_2
                   clear hi244_2 hl244_2
                   replace p244:=eq_true p244
                   replace q244:=eq_true q244
                   go_wp2
                   repeat (go_quiet (fail);try go_wp2)
                   go_ret
                   exact ⟨by first|rfl|(simp;done)|(simp [*];done)|(simp [yn];done),by repeat (first|exact yD.refl _|apply yD.step)⟩
                 · rw [if_neg c8] at H
                   have c8b0:(((yj l0 x7_1).f0).toList == ((yj l0 x11_2).f0).toList)=false:=beq_eq_false_iff_ne.mpr c8
                   have c8b1:(((yj l0 x7_1).f0).toList != ((yj l0 x11_2).f0).toList)=true:=bne_iff_ne.mpr c8
                   have H':=yc.mk H
                   clear H
                   have p243:0≤(x7_1:Int):=of_decide_eq_true (by first|(with_reducible assumption)|assumption)
                   have q243:x7_1<(l0.length:Int):=of_decide_eq_true (by first|(with_reducible assumption)|assumption)
                   obtain ⟨ad243,A243_1,c243_1,A243_2,c243_2,e243,hx243_0,hx243_1,hx243_2,hl243_1,hi243_1,hl243_2,hi243_2⟩:=ybo HR0.out x7_1 p243 q243
                   cases e243
                   have HR243_1:=yc.mk hi243_1
                   have HC243_1:=yc.mk hl243_1
                   clear hi243_1 hl243_1
                   have HR243_2:=yc.mk hi243_2
                   have HC243_2:=yc.mk hl243_2
                   clear hi243_2 hl243_2
                   replace p243:=eq_true p243
                   replace q243:=eq_true q243
                   have p244:0≤(x11_2:Int):=of_decide_eq_true (by first|(with_reducible assumption)|assumption)
                   have q244:x11_2<(l0.length:Int):=of_decide_eq_true (by first|(with_reducible assumption)|assumption)
                   obtain ⟨ad244,A244_1,c244_1,A244_2,c244_2,e244,hx244_0,hx244_1,hx244_2,hl244_1,hi244_1,hl244_2,hi244_2⟩:=ybo HR0.out x11_2 p244 q244
                   obtain rfl:ad243=ad244:=(by injection e244)
                   have HR244_1:=yc.mk hi244_1
                   have HC244_1:=yc.mk hl244_1
                   clear hi244_1 hl244_1
                   have HR244_2:=yc.mk hi244_2
                   have HC244_2:=yc.mk hl244_2
                   clear hi244_2 hl244_2
                   replace p244:=eq_true p244
                   replace q244:=eq_true q244
                   go_wp2
                   repeat (go_quiet (fail);try go_wp2)
                   go_roundg k2
                   case measure=>have:=HK1.out;have:=HK2.out;omega
                   case rel=>exact ⟨(wrap64 (x11_2+1)),(by first|rfl|(simp;done)|(simp [*];done)|(simp [yn];done)),H',⟨by have:=HK1.out;have:=HK2.out;omega⟩,by repeat (first|exact yD.refl _|apply yD.step)⟩
               · rw [if_neg c7] at H
                 exact absurd H (by simp)
             · rw [if_neg c6] at H
               exact absurd H (by simp)
           · rw [if_neg c5] at H
             exact absurd H (by simp)
         · rw [if_neg c4] at H
           exact absurd H (by simp)
       · rw [if_neg c3] at H
         have c3b0:decide (x11_2<x7_1)=false:=decide_eq_false c3
         clear c3
         have H':=yc.mk H
         clear H
         go_wp2
         repeat (go_quiet (fail);try go_wp2)
         go_roundg k2
         case measure=>have:=HK1.out;have:=HK2.out;omega
         case rel=>exact ⟨(wrap64 (x7_1+1)),(by first|rfl|(simp;done)|(simp [*];done)|(simp [yn];done)),H',⟨by have:=HK1.out;have:=HK2.out;omega⟩,by repeat (first|exact yD.refl _|apply yD.step)⟩
   · rw [if_neg c2] at H
     have c2b0:decide (x7_1<(l0.length:Int))=false:=decide_eq_false c2
     clear c2
     obtain rfl:=Option.some.inj H
     go_wp2
     repeat (go_quiet (fail);try go_wp2)
     go_ret
     exact ⟨by first|rfl|(simp;done)|(simp [*];done)|(simp [yn];done),by repeat (first|exact yD.refl _|apply yD.step)⟩
end Go.Proofs.YtlmennkeggmdbaaGreatDoor
