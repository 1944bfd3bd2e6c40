/- Part 6 of 34 of the proof of the tied card of FnNetstatRead. -/
import Derived.Test.YtlmennkeggmdbaaGreatDoorVz
import Derived.Test.YtlmennkeggmdbaaGreatDoorV5
set_option linter.unusedVariables false
set_option linter.unusedSimpArgs false
namespace Go.Proofs.YtlmennkeggmdbaaGreatDoor
open Go.RowKit Go.Proofs.YtlmennkeggmdbaaGreatDoorW.PrintWords Go.Proofs.YtlmennkeggmdbaaGreatDoorW.PrintLast Go.Proofs.YtlmennkeggmdbaaGreatDoorW.PrintMore
def Y9:List ByteArray:=[⟨#[83,121,110,99,111,111,107,105,101,115,83,101,110,116]⟩,⟨#[83,121,110,99,111,111,107,105,101,115,82,101,99,118]⟩,⟨#[83,121,110,99,111,111,107,105,101,115,70,97,105,108,101,100]⟩,⟨#[69,109,98,114,121,111,110,105,99,82,115,116,115]⟩,⟨#[80,114,117,110,101,67,97,108,108,101,100]⟩,⟨#[82,99,118,80,114,117,110,101,100]⟩,⟨#[79,102,111,80,114,117,110,101,100]⟩,⟨#[79,117,116,79,102,87,105,110,100,111,119,73,99,109,112,115]⟩,⟨#[76,111,99,107,68,114,111,112,112,101,100,73,99,109,112,115]⟩,⟨#[65,114,112,70,105,108,116,101,114]⟩,⟨#[84,87]⟩,⟨#[84,87,82,101,99,121,99,108,101,100]⟩,⟨#[84,87,75,105,108,108,101,100]⟩,⟨#[80,65,87,83,65,99,116,105,118,101]⟩,⟨#[80,65,87,83,69,115,116,97,98]⟩,⟨#[68,101,108,97,121,101,100,65,67,75,115]⟩,⟨#[68,101,108,97,121,101,100,65,67,75,76,111,99,107,101,100]⟩,⟨#[68,101,108,97,121,101,100,65,67,75,76,111,115,116]⟩,⟨#[76,105,115,116,101,110,79,118,101,114,102,108,111,119,115]⟩,⟨#[76,105,115,116,101,110,68,114,111,112,115]⟩,⟨#[84,67,80,72,80,72,105,116,115]⟩,⟨#[84,67,80,80,117,114,101,65,99,107,115]⟩,⟨#[84,67,80,72,80,65,99,107,115]⟩,⟨#[84,67,80,82,101,110,111,82,101,99,111,118,101,114,121]⟩,⟨#[84,67,80,83,97,99,107,82,101,99,111,118,101,114,121]⟩,⟨#[84,67,80,83,65,67,75,82,101,110,101,103,105,110,103]⟩,⟨#[84,67,80,83,65,67,75,82,101,111,114,100,101,114]⟩,⟨#[84,67,80,82,101,110,111,82,101,111,114,100,101,114]⟩,⟨#[84,67,80,84,83,82,101,111,114,100,101,114]⟩,⟨#[84,67,80,70,117,108,108,85,110,100,111]⟩,⟨#[84,67,80,80,97,114,116,105,97,108,85,110,100,111]⟩,⟨#[84,67,80,68,83,65,67,75,85,110,100,111]⟩,⟨#[84,67,80,76,111,115,115,85,110,100,111]⟩,⟨#[84,67,80,76,111,115,116,82,101,116,114,97,110,115,109,105,116]⟩,⟨#[84,67,80,82,101,110,111,70,97,105,108,117,114,101,115]⟩,⟨#[84,67,80,83,97,99,107,70,97,105,108,117,114,101,115]⟩,⟨#[84,67,80,76,111,115,115,70,97,105,108,117,114,101,115]⟩,⟨#[84,67,80,70,97,115,116,82,101,116,114,97,110,115]⟩,⟨#[84,67,80,83,108,111,119,83,116,97,114,116,82,101,116,114,97,110,115]⟩,⟨#[84,67,80,84,105,109,101,111,117,116,115]⟩,⟨#[84,67,80,76,111,115,115,80,114,111,98,101,115]⟩,⟨#[84,67,80,76,111,115,115,80,114,111,98,101,82,101,99,111,118,101,114,121]⟩,⟨#[84,67,80,82,101,110,111,82,101,99,111,118,101,114,121,70,97,105,108]⟩,⟨#[84,67,80,83,97,99,107,82,101,99,111,118,101,114,121,70,97,105,108]⟩,⟨#[84,67,80,82,99,118,67,111,108,108,97,112,115,101,100]⟩,⟨#[84,67,80,68,83,65,67,75,79,108,100,83,101,110,116]⟩,⟨#[84,67,80,68,83,65,67,75,79,102,111,83,101,110,116]⟩,⟨#[84,67,80,68,83,65,67,75,82,101,99,118]⟩,⟨#[84,67,80,68,83,65,67,75,79,102,111,82,101,99,118]⟩,⟨#[84,67,80,65,98,111,114,116,79,110,68,97,116,97]⟩,⟨#[84,67,80,65,98,111,114,116,79,110,67,108,111,115,101]⟩,⟨#[84,67,80,65,98,111,114,116,79,110,77,101,109,111,114,121]⟩,⟨#[84,67,80,65,98,111,114,116,79,110,84,105,109,101,111,117,116]⟩,⟨#[84,67,80,65,98,111,114,116,79,110,76,105,110,103,101,114]⟩,⟨#[84,67,80,65,98,111,114,116,70,97,105,108,101,100]⟩,⟨#[84,67,80,77,101,109,111,114,121,80,114,101,115,115,117,114,101,115]⟩,⟨#[84,67,80,77,101,109,111,114,121,80,114,101,115,115,117,114,101,115,67,104,114,111,110,111]⟩,⟨#[84,67,80,83,65,67,75,68,105,115,99,97,114,100]⟩,⟨#[84,67,80,68,83,65,67,75,73,103,110,111,114,101,100,79,108,100]⟩,⟨#[84,67,80,68,83,65,67,75,73,103,110,111,114,101,100,78,111,85,110,100,111]⟩,⟨#[84,67,80,83,112,117,114,105,111,117,115,82,84,79,115]⟩,⟨#[84,67,80,77,68,53,78,111,116,70,111,117,110,100]⟩,⟨#[84,67,80,77,68,53,85,110,101,120,112,101,99,116,101,100]⟩,⟨#[84,67,80,77,68,53,70,97,105,108,117,114,101]⟩,⟨#[84,67,80,83,97,99,107,83,104,105,102,116,101,100]⟩,⟨#[84,67,80,83,97,99,107,77,101,114,103,101,100]⟩,⟨#[84,67,80,83,97,99,107,83,104,105,102,116,70,97,108,108,98,97,99,107]⟩,⟨#[84,67,80,66,97,99,107,108,111,103,68,114,111,112]⟩,⟨#[80,70,77,101,109,97,108,108,111,99,68,114,111,112]⟩,⟨#[84,67,80,77,105,110,84,84,76,68,114,111,112]⟩,⟨#[84,67,80,68,101,102,101,114,65,99,99,101,112,116,68,114,111,112]⟩,⟨#[73,80,82,101,118,101,114,115,101,80,97,116,104,70,105,108,116,101,114]⟩,⟨#[84,67,80,84,105,109,101,87,97,105,116,79,118,101,114,102,108,111,119]⟩,⟨#[84,67,80,82,101,113,81,70,117,108,108,68,111,67,111,111,107,105,101,115]⟩,⟨#[84,67,80,82,101,113,81,70,117,108,108,68,114,111,112]⟩,⟨#[84,67,80,82,101,116,114,97,110,115,70,97,105,108]⟩,⟨#[84,67,80,82,99,118,67,111,97,108,101,115,99,101]⟩,⟨#[84,67,80,82,99,118,81,68,114,111,112]⟩,⟨#[84,67,80,79,70,79,81,117,101,117,101]⟩,⟨#[84,67,80,79,70,79,68,114,111,112]⟩,⟨#[84,67,80,79,70,79,77,101,114,103,101]⟩,⟨#[84,67,80,67,104,97,108,108,101,110,103,101,65,67,75]⟩,⟨#[84,67,80,83,89,78,67,104,97,108,108,101,110,103,101]⟩,⟨#[84,67,80,70,97,115,116,79,112,101,110,65,99,116,105,118,101]⟩,⟨#[84,67,80,70,97,115,116,79,112,101,110,65,99,116,105,118,101,70,97,105,108]⟩,⟨#[84,67,80,70,97,115,116,79,112,101,110,80,97,115,115,105,118,101]⟩,⟨#[84,67,80,70,97,115,116,79,112,101,110,80,97,115,115,105,118,101,70,97,105,108]⟩,⟨#[84,67,80,70,97,115,116,79,112,101,110,76,105,115,116,101,110,79,118,101,114,102,108,111,119]⟩,⟨#[84,67,80,70,97,115,116,79,112,101,110,67,111,111,107,105,101,82,101,113,100]⟩,⟨#[84,67,80,70,97,115,116,79,112,101,110,66,108,97,99,107,104,111,108,101]⟩,⟨#[84,67,80,83,112,117,114,105,111,117,115,82,116,120,72,111,115,116,81,117,101,117,101,115]⟩,⟨#[66,117,115,121,80,111,108,108,82,120,80,97,99,107,101,116,115]⟩,⟨#[84,67,80,65,117,116,111,67,111,114,107,105,110,103]⟩,⟨#[84,67,80,70,114,111,109,90,101,114,111,87,105,110,100,111,119,65,100,118]⟩,⟨#[84,67,80,84,111,90,101,114,111,87,105,110,100,111,119,65,100,118]⟩,⟨#[84,67,80,87,97,110,116,90,101,114,111,87,105,110,100,111,119,65,100,118]⟩,⟨#[84,67,80,83,121,110,82,101,116,114,97,110,115]⟩,⟨#[84,67,80,79,114,105,103,68,97,116,97,83,101,110,116]⟩,⟨#[84,67,80,72,121,115,116,97,114,116,84,114,97,105,110,68,101,116,101,99,116]⟩,⟨#[84,67,80,72,121,115,116,97,114,116,84,114,97,105,110,67,119,110,100]⟩,⟨#[84,67,80,72,121,115,116,97,114,116,68,101,108,97,121,68,101,116,101,99,116]⟩,⟨#[84,67,80,72,121,115,116,97,114,116,68,101,108,97,121,67,119,110,100]⟩,⟨#[84,67,80,65,67,75,83,107,105,112,112,101,100,83,121,110,82,101,99,118]⟩,⟨#[84,67,80,65,67,75,83,107,105,112,112,101,100,80,65,87,83]⟩,⟨#[84,67,80,65,67,75,83,107,105,112,112,101,100,83,101,113]⟩,⟨#[84,67,80,65,67,75,83,107,105,112,112,101,100,70,105,110,87,97,105,116,50]⟩,⟨#[84,67,80,65,67,75,83,107,105,112,112,101,100,84,105,109,101,87,97,105,116]⟩,⟨#[84,67,80,65,67,75,83,107,105,112,112,101,100,67,104,97,108,108,101,110,103,101]⟩,⟨#[84,67,80,87,105,110,80,114,111,98,101]⟩,⟨#[84,67,80,75,101,101,112,65,108,105,118,101]⟩,⟨#[84,67,80,77,84,85,80,70,97,105,108]⟩,⟨#[84,67,80,77,84,85,80,83,117,99,99,101,115,115]⟩,⟨#[84,67,80,87,113,117,101,117,101,84,111,111,66,105,103]⟩,⟨#[84,67,80,76,111,115,115]⟩,⟨#[80,65,87,83,80,97,115,115,105,118,101]⟩,⟨#[84,67,80,70,111,114,119,97,114,100,82,101,116,114,97,110,115]⟩,⟨#[84,67,80,83,99,104,101,100,117,108,101,114,70,97,105,108,101,100]⟩,⟨#[84,67,80,80,114,101,113,117,101,117,101,100]⟩,⟨#[84,67,80,68,105,114,101,99,116,67,111,112,121,70,114,111,109,66,97,99,107,108,111,103]⟩,⟨#[84,67,80,68,105,114,101,99,116,67,111,112,121,70,114,111,109,80,114,101,113,117,101,117,101]⟩,⟨#[84,67,80,80,114,101,113,117,101,117,101,68,114,111,112,112,101,100]⟩,⟨#[84,67,80,70,65,67,75,82,101,111,114,100,101,114]⟩,⟨#[84,67,80,72,80,72,105,116,115,84,111,85,115,101,114]⟩]
def Jy:List ByteArray:=[⟨#[73,110,78,111,82,111,117,116,101,115]⟩,⟨#[73,110,84,114,117,110,99,97,116,101,100,80,107,116,115]⟩,⟨#[73,110,77,99,97,115,116,80,107,116,115]⟩,⟨#[79,117,116,77,99,97,115,116,80,107,116,115]⟩,⟨#[73,110,66,99,97,115,116,80,107,116,115]⟩,⟨#[79,117,116,66,99,97,115,116,80,107,116,115]⟩,⟨#[73,110,79,99,116,101,116,115]⟩,⟨#[79,117,116,79,99,116,101,116,115]⟩,⟨#[73,110,77,99,97,115,116,79,99,116,101,116,115]⟩,⟨#[79,117,116,77,99,97,115,116,79,99,116,101,116,115]⟩,⟨#[73,110,66,99,97,115,116,79,99,116,101,116,115]⟩,⟨#[79,117,116,66,99,97,115,116,79,99,116,101,116,115]⟩,⟨#[73,110,67,115,117,109,69,114,114,111,114,115]⟩,⟨#[73,110,78,111,69,67,84,80,107,116,115]⟩,⟨#[73,110,69,67,84,49,80,107,116,115]⟩,⟨#[73,110,69,67,84,48,80,107,116,115]⟩,⟨#[73,110,67,69,80,107,116,115]⟩,⟨#[82,101,97,115,109,79,118,101,114,108,97,112,115]⟩]
def J6:List ByteArray:=[⟨#[84,67,80,65,98,111,114,116,79,110,77,101,109,111,114,121]⟩,⟨#[84,67,80,65,98,111,114,116,79,110,84,105,109,101,111,117,116]⟩,⟨#[84,67,80,65,98,111,114,116,79,110,76,105,110,103,101,114]⟩,⟨#[84,67,80,65,98,111,114,116,70,97,105,108,101,100]⟩,⟨#[84,67,80,77,101,109,111,114,121,80,114,101,115,115,117,114,101,115]⟩,⟨#[84,67,80,77,101,109,111,114,121,80,114,101,115,115,117,114,101,115,67,104,114,111,110,111]⟩,⟨#[84,67,80,83,65,67,75,68,105,115,99,97,114,100]⟩,⟨#[84,67,80,68,83,65,67,75,73,103,110,111,114,101,100,79,108,100]⟩,⟨#[84,67,80,68,83,65,67,75,73,103,110,111,114,101,100,78,111,85,110,100,111]⟩,⟨#[84,67,80,83,112,117,114,105,111,117,115,82,84,79,115]⟩,⟨#[84,67,80,77,68,53,78,111,116,70,111,117,110,100]⟩,⟨#[84,67,80,77,68,53,85,110,101,120,112,101,99,116,101,100]⟩,⟨#[84,67,80,77,68,53,70,97,105,108,117,114,101]⟩,⟨#[84,67,80,83,97,99,107,83,104,105,102,116,101,100]⟩,⟨#[84,67,80,83,97,99,107,77,101,114,103,101,100]⟩,⟨#[84,67,80,83,97,99,107,83,104,105,102,116,70,97,108,108,98,97,99,107]⟩,⟨#[84,67,80,66,97,99,107,108,111,103,68,114,111,112]⟩,⟨#[80,70,77,101,109,97,108,108,111,99,68,114,111,112]⟩,⟨#[84,67,80,77,105,110,84,84,76,68,114,111,112]⟩]
theorem ycQ:Y9.length=123:=by kernel_rfl
theorem ip_len:Jy.length=18:=by kernel_rfl
abbrev yac:ByteArray:=⟨#[84,99,112,69,120,116]⟩
abbrev ipB:ByteArray:=⟨#[73,112,69,120,116]⟩
theorem R_lits (W:World) (xs:List ByteArray) (hm:xs.length≤9223372036854775807):Kd.string.R 9 (W.alloc (.cells (xs.map Value.string).toArray 9)) W.heap.size (fun _=>True) (.slice (some ⟨W.heap.size,0,none⟩) xs.length xs.length) xs:=by
 have h2:=World.ownsRow_lit (base:=W.heap.size) (e:=9) (size:=1) W (xs.map Value.string).toArray xs.length (Nat.le_refl _) (by simpa [maxLen] using hm) (by simp)
 refine ⟨fun k hk=>trivial,xs.map Value.string,by rw [show Kd.string.sz=1 from rfl];simpa using h2,⟨by show _=_ * 1;simp,fun j p hp=>?_⟩⟩
 show _=[Value.string p]
 have hj:=(List.getElem?_eq_some_iff.1 hp)
 simp only [Nat.mul_one,show Kd.string.sz=1 from rfl]
 rw [List.drop_eq_getElem_cons (by simpa using hj.1)]
 simp [hj.2]
theorem run_seqT {a:Act} {d:Option Tmp} {ty:TypeId} {pos:String} {aft:Array Edge} {gd:Option (Nat × Bool)} {w:World} {x:Operand} {s c:ByteArray} {b:Bool} (hx:a.eval x=.string s) (hb:(s.data.toList == c.data.toList)=b) :
 (execOp a.eval ⟨d,.binOp .eql 9 x (.const (.string c)) 9,ty,pos,aft,gd⟩).run Tryz.prog w=.ok (.value (.bool b)) w:=by
 subst hb
 rw [← ByteArray.toList_eq,← ByteArray.toList_eq]
 exact run_seq hx
section
variable {Q:Exit→Act→World→Prop} {sz:Nat} {D:List Deferred} {L:Kn} {w:World} {X Y rest:Code} {s k k1 id:Nat} {t c:ByteArray} {d0 d1:TypeId} {p0 p1:String} {a0 a1:Array Edge}
theorem Jk (hs:lkv L s=some (.string t)) (hne:(t.data.toList == c.data.toList)=false) (hk:k<sz) (hk1:k1<sz) (h:At Tryz.prog Q sz D ((k,.bool false)::(k1,.bool false)::L) w Y) :
 At Tryz.prog Q sz D L w (.seq (.region id #[⟨some k1,.binOp .eql 9 (.tmp s) (.const (.string c)) 9,d0,p0,a0,none⟩,⟨some k,.assign (.tmp k1),d1,p1,a1,none⟩] false) (.cond (.tmp k) X Y)):=
 yF (YR (fun a ha=>run_seqT (ha.at_ _ _ hs) hne) (YR (fun a ha=>YL (v:=.bool false) (ha.at_ _ _ (by simp [lkv]))) (yx (Jt (by simp [kv,lkv]) h)) hk) hk1)
theorem yaO (hs:lkv L s=some (.string t)) (hne:(t.data.toList == c.data.toList)=true) (hk:k<sz) (hk1:k1<sz) (h:At Tryz.prog Q sz D ((k,.bool true)::(k1,.bool true)::L) w X) :
 At Tryz.prog Q sz D L w (.seq (.region id #[⟨some k1,.binOp .eql 9 (.tmp s) (.const (.string c)) 9,d0,p0,a0,none⟩,⟨some k,.assign (.tmp k1),d1,p1,a1,none⟩] false) (.cond (.tmp k) X Y)):=
 yF (YR (fun a ha=>run_seqT (ha.at_ _ _ hs) hne) (YR (fun a ha=>YL (v:=.bool true) (ha.at_ _ _ (by simp [lkv]))) (yx (QI (by simp [kv,lkv]) h)) hk) hk1)
end
def offs (u:Option TypeDesc):List (TypeId × Nat):=match u with
 | some (.struct fs)=>fs.toList.map fun (f:Field)=>(f.type,f.offset)
 | _=>[]
theorem ybO {T n t o m:Nat} (h:(offs (Tryz.prog.underlying T))[n]?=some (t,o)) (hz:(Tryz.prog.info? t).map (·.size)=some (m+1)) (g i:Nat) (W:World) :
 (Instr.fieldAt T (.pointer (some ⟨g,i,none⟩)) n).run Tryz.prog W=.ok (.pointer (some ⟨g,i+o,none⟩)) W:=by
 unfold offs at h
 split at h
 · rename_i fs hu
   rw [List.getElem?_map] at h
   obtain ⟨f,hf,he⟩:=Option.map_eq_some_iff.1 h
   simp only [Prod.mk.injEq] at he
   obtain ⟨rfl,rfl⟩:=he
   have hf':fs[n]?=some f:=by simpa using hf
   cases hq:Tryz.prog.info? f.type with
   | none=>rw [hq] at hz;simp at hz
   | some i'=>
    have hs:i'.size=m+1:=by rw [hq] at hz;simpa using hz
    simp [Instr.fieldAt,run_underlying hu,hf',Instr.sureAddr,fieldPlace,sizeOf,typeInfo,hq,hs,Sem.run_bind,Addr.add_mid]
 · simp at h
theorem info_ptr:(Tryz.prog.info? 50).map (·.size)=some (0+1):=by kernel_rfl
theorem offs_tcp:offs (Tryz.prog.underlying 52)=(List.range 123).map fun i=>(50,i):=by kernel_rfl
theorem offs_ip:offs (Tryz.prog.underlying 54)=(List.range 18).map fun i=>(50,i):=by kernel_rfl
theorem yci:offs (Tryz.prog.underlying 56)=[(3,0),(52,1),(54,124)]:=by kernel_rfl
theorem fa_tcp {n:Nat} (hn:n<123) (g i:Nat) (W:World):(Instr.fieldAt 52 (.pointer (some ⟨g,i,none⟩)) n).run Tryz.prog W=.ok (.pointer (some ⟨g,i+n,none⟩)) W:=
 ybO (by rw [offs_tcp];simp [hn]) info_ptr g i W
theorem fa_ip {n:Nat} (hn:n<18) (g i:Nat) (W:World):(Instr.fieldAt 54 (.pointer (some ⟨g,i,none⟩)) n).run Tryz.prog W=.ok (.pointer (some ⟨g,i+n,none⟩)) W:=
 ybO (by rw [offs_ip];simp [hn]) info_ptr g i W
theorem fa_stat0 (g i:Nat) (W:World):(Instr.fieldAt 56 (.pointer (some ⟨g,i,none⟩)) 0).run Tryz.prog W=.ok (.pointer (some ⟨g,i+0,none⟩)) W:=
 ybO (by rw [yci];rfl) (show _=some (0+1) by kernel_rfl) g i W
theorem fa_stat1 (g i:Nat) (W:World):(Instr.fieldAt 56 (.pointer (some ⟨g,i,none⟩)) 1).run Tryz.prog W=.ok (.pointer (some ⟨g,i+1,none⟩)) W:=
 ybO (by rw [yci];rfl) (show _=some (122+1) by kernel_rfl) g i W
theorem fa_stat2 (g i:Nat) (W:World):(Instr.fieldAt 56 (.pointer (some ⟨g,i,none⟩)) 2).run Tryz.prog W=.ok (.pointer (some ⟨g,i+124,none⟩)) W:=
 ybO (by rw [yci];rfl) (show _=some (17+1) by kernel_rfl) g i W
def ptrV (p:Option Nat):Value:=.pointer (p.map fun b=>⟨b,0,none⟩)
def ptrs (p:Nat→Option Nat) (m:Nat):List Value:=(List.range m).map fun i=>ptrV (p i)
def Yx (p:Nat→Option Nat):List Value:=.int .i64 0::ptrs p 141
theorem Qr (p:Nat→Option Nat) (m:Nat):(ptrs p m).length=m:=by simp [ptrs]
theorem qW (p:Nat→Option Nat) {m i:Nat} (h:i<m):(ptrs p m)[i]?=some (ptrV (p i)):=by simp [ptrs,h]
theorem Qa (p:Nat→Option Nat):(Yx p).length=142:=by simp [Yx,Qr]
abbrev ybA (w:World) (b x:Nat):Prop:=w.heap[b]?=some (.cells #[.float .f64 x] 31 (0,0))
def yad (w:World) (base:Nat) (p n:Nat→Option Nat):Prop:=∀ i,(p i=none∧n i=none)∨∃ b x,p i=some b∧n i=some x∧base≤b∧ybA w b x
theorem held_none (w:World) (base:Nat):yad w base (fun _=>none) (fun _=>none):=fun i=>.inl ⟨rfl,rfl⟩
theorem yad.below {w w':World} {base:Nat} {p n:Nat→Option Nat} (h:yad w base p n) (hb:Below w.heap.size w w'):yad w' base p n:=fun i=>by
 rcases h i with h|⟨b,x,h1,h2,h3,h4⟩
 · exact .inl h
 · exact .inr ⟨b,x,h1,h2,h3,yI h4 hb⟩
theorem yad.shift {w:World} {base:Nat} {p n:Nat→Option Nat} (h:yad w base p n) (k:Nat):yad w base (fun i=>p (k+i)) (fun i=>n (k+i)):=fun i=>h (k+i)
def yaA (nm:ByteArray):Option Nat→S34
 | none=>⟨nm,0,false,0,0,0,⟨#[]⟩,[]⟩
 | some x=>⟨nm,4,false,0,0,x,⟨#[]⟩,[]⟩
theorem leaf_M (x:S34) (hx:x.f7=[]) (w:World) (base:Nat) (ok:Nat→Prop):Kd.M k34 w base ok x [.string x.f0,.int .i64 x.f1,.bool x.f2,.int .i64 x.f3,.int .u64 x.f4,.float .f64 x.f5,.string x.f6,.slice none 0 0]:=
 ya1 _ _ _ x (by rw [hx];exact Kd.qm _ _ _ _ _)
def closCode (p:String) (e0 e1 e2 e3 e4:Array Edge):Code:=
 (Code.region 0 #[⟨some 4,.alloc 34,0,p,e0,none⟩] false).seq ((Code.region 1 #[⟨some 5,.move (.tmp 0),9,p,e1,none⟩,⟨some 6,.move (.tmp 1),31,p,e2,none⟩,⟨some 7,.build 34 #[(0,.tmp 5),(1,.const (.int .i64 4)),(5,.tmp 6)],34,p,e3,none⟩,⟨none,.store 34 (.tmp 4) (.tmp 7),0,p,e4,none⟩] false).seq Code.ret)
def opsOf:Code→List (List Oper)
 | .seq x y=>opsOf x++opsOf y
 | .region _ ops _=>[ops.toList]
 | _=>[]
def ycb (c:Code) (i j:Nat):Array Edge:=match (opsOf c)[i]? with
 | some l=>match l[j]? with
  | some o=>o.after
  | none=>#[]
 | none=>#[]
def posOf (c:Code):String:=match (opsOf c)[0]? with
 | some (o::_)=>o.pos
 | _ => ""
def closTo (c:Code):Code:=closCode (posOf c) (ycb c 0 0) (ycb c 1 0) (ycb c 1 1) (ycb c 1 2) (ycb c 1 3)
def bodyOf (o:Option Func):Code:=match o with
 | some fn=>match fn.body with
  | some c=>c
  | none=>.skip
 | none=>.skip
def closSays (o:Option Func):Option (Option Code × Nat × Array ResultVar × Bool):=o.map fun fn=>(fn.body,fn.ntmps,fn.results,fn.name == "runtime.NumGoroutine")
set_option maxRecDepth 100000 in
theorem clos_all:(List.range 141).map (fun i=>closSays (Tryz.prog.funcs[62+i]?))=(List.range 141).map (fun i=>some (some (closTo (bodyOf (Tryz.prog.funcs[62+i]?))),8,#[ResultVar.cell 4 34],false)):=by kernel_rfl
theorem clos_one {i:Nat} (hi:i<141):∃ fn c,Tryz.prog.funcs[62+i]?=some fn∧fn.body=some (closTo c)∧fn.ntmps=8∧fn.results=#[ResultVar.cell 4 34]∧(fn.name == "runtime.NumGoroutine")=false:=by
 have h:=congrArg (fun l=>l[i]?) clos_all
 simp only [List.getElem?_map,List.getElem?_range hi,Option.map_some,Option.some.injEq] at h
 obtain ⟨fn,hf,he⟩:=Option.map_eq_some_iff.1 (show Option.map _ _=some _ from h)
 simp only [Prod.mk.injEq] at he
 exact ⟨fn,_,hf,he.1,he.2.1,he.2.2.1,he.2.2.2⟩
theorem qT {fn:Func} {R:Ending→World→Prop} {t sz:Nat} {a:Act} {L:Kn} {w:World} {g:Nat} {cs:Array Value} (h:fn.results=#[.cell t 34]) (ha:Has sz [] L a) (hv:lkv L t=some (.pointer (some ⟨g,0,none⟩)))
 (hb:w.heap[g]?=some (.cells cs 34 (0,0))) (h8:cs.size=8) (hR:R (.returned (.agg cs)) w):bodyPost Tryz.prog fn R .ret a w:=yaa h ha.defers (ha.at_ _ _ hv) hb h8 hR
abbrev Qc:Array Value:=#[.string ⟨#[]⟩,.int .i64 0,.bool false,.int .i64 0,.int .u64 0,.float .f64 0,.string ⟨#[]⟩,.slice none 0 0]
theorem clos_walk {i:Nat} (hi:i<141) (nm:ByteArray) (x:Nat) (w:World):Calls Tryz.prog (62+i) #[.string nm,.float .f64 x] w fun e w1=>e=.returned (.agg #[.string nm,.int .i64 4,.bool false,.int .i64 0,.int .u64 0,.float .f64 x,.string ⟨#[]⟩,.slice none 0 0])∧Below w.heap.size w w1:=by
 obtain ⟨fn,c,hf,hb,hn,hr,_⟩:=clos_one hi
 refine YS 8 hf hb hn (by simp) ?_
 generalize (ycb c 0 0)=e0
 unfold closTo closCode
 refine yF (YR (fun a ha=>YT (Jh w)) (yx ?_))
 have hg0:=YP w (.cells Qc 34 (0,0))
 have hB:Below w.heap.size w (w.alloc (.cells Qc 34 (0,0))):=yl (Below.refl _ _) _
 generalize (w.alloc (.cells Qc 34 (0,0)))=w1 at hg0 hB ⊢
 obtain ⟨w2,hrun,hb2,hoth,hbel⟩:=J3 (s1:=nm) (k:=4) (b:=false) (i:=0) (u:=0) (f:=x) (s2:=⟨#[]⟩) (A:=none) (n:=0) (c:=0) hg0 rfl
 refine yF (yR rfl (yR rfl (YR (fun a ha=>ya7 (vs:=#[(0,.string nm),(1,.int .i64 4),(5,.float .f64 x)]) ?_ (v:=.agg #[.string nm,.int .i64 4,.bool false,.int .i64 0,.int .u64 0,.float .f64 x,.string ⟨#[]⟩,.slice none 0 0]) Zk) (Qt rfl rfl hrun (yx (JA fun a ha=>?_))))))
 · have h5:a.eval (.tmp 5)=.string nm:=ha.at_ 5 _ rfl
   have h6:a.eval (.tmp 6)=.float .f64 x:=ha.at_ 6 _ rfl
   have hc:a.eval (.const (.int .i64 4))=.int .i64 4:=rfl
   simp [h5,h6,hc]
 · exact qT hr ha rfl hb2 rfl ⟨rfl,hbel _ _ (Nat.le_refl _) hB⟩
theorem run_eqlnone {a:Act} {d ty pos aft gd} {w:World} {x:Nat} {T t2:TypeId} (hx:a.eval (.tmp x)=.pointer none) (hl:∀ W:World,(binOp .eql T (.pointer none) (.pointer none)).run Tryz.prog W=.ok (.bool true) W)
 (hg:∀ W:World,(eqGuard .eql T (.tmp x) (.const (.pointer none)) (.pointer none) (.pointer none)).run Tryz.prog W=.ok () W) :
 (execOp a.eval ⟨d,.binOp .eql T (.tmp x) (.const (.pointer none)) t2,ty,pos,aft,gd⟩).run Tryz.prog w=.ok (.value (.bool true)) w:=by
 unfold execOp
 have h1:a.eval (.const (.pointer none))=.pointer none:=rfl
 simp [hx,h1,hl,hg]
theorem run_eqlsome {a:Act} {d ty pos aft gd} {w:World} {x:Nat} {p:Addr} {T:TypeId} {t2:TypeId} (hx:a.eval (.tmp x)=.pointer (some p)) (hl:∀ W:World,(binOp .eql T (.pointer (some p)) (.pointer none)).run Tryz.prog W=.ok (.bool false) W)
 (hg:∀ W:World,(eqGuard .eql T (.tmp x) (.const (.pointer none)) (.pointer (some p)) (.pointer none)).run Tryz.prog W=.ok () W) :
 (execOp a.eval ⟨d,.binOp .eql T (.tmp x) (.const (.pointer none)) t2,ty,pos,aft,gd⟩).run Tryz.prog w=.ok (.value (.bool false)) w:=by
 unfold execOp
 have h1:a.eval (.const (.pointer none))=.pointer none:=rfl
 simp [hx,h1,hl,hg]
theorem point_walk {i:Nat} (hi:i<141) (nm:ByteArray) (p x:Option Nat) (w:World) (h:(p=none∧x=none)∨∃ b y,p=some b∧x=some y∧ybA w b y) :
 Calls Tryz.prog 61 #[.string nm,ptrV p,.func (.func (62+i)) #[] #[]] w fun e w1=>∃ x0 x1 x2 x3 x4 x5 x6 x7,e=.returned (.agg #[x0,x1,x2,x3,x4,x5,x6,x7])∧Kd.M k34 w1 w.heap.size (fun _=>True) (yaA nm x) [x0,x1,x2,x3,x4,x5,x6,x7]∧Below w.heap.size w w1:=by
 refine YS 17 Tryz.func61 rfl Zk (by simp) ?_
 refine yF (YR (fun a ha=>YT (Jh w)) (yx ?_))
 have hg0:=YP w (.cells Qc 34 (0,0))
 have hB:Below w.heap.size w (w.alloc (.cells Qc 34 (0,0))):=yl (Below.refl _ _) _
 rcases h with ⟨rfl,rfl⟩|⟨b,y,rfl,rfl,hfl⟩
 · generalize (w.alloc (.cells Qc 34 (0,0)))=w1 at hg0 hB ⊢
   obtain ⟨w2,hrun,hb2,hoth,hbel⟩:=J3 (s1:=nm) (k:=0) (b:=false) (i:=0) (u:=0) (f:=0) (s2:=⟨#[]⟩) (A:=none) (n:=0) (c:=0) hg0 rfl
   refine Yg (yF (yR (v:=.pointer none) rfl (YR (fun a ha=>run_eqlnone (ha.at_ _ _ rfl) ZW ZW) (yx (QI rfl ?_)))))
   refine yF (yR rfl (YR (fun a ha=>ya7 (vs:=#[(0,.string nm)]) ?_ (v:=.agg #[.string nm,.int .i64 0,.bool false,.int .i64 0,.int .u64 0,.float .f64 0,.string ⟨#[]⟩,.slice none 0 0]) Zk) (Qt rfl rfl hrun (yx (JA fun a ha=>?_)))))
   · have h5:a.eval (.tmp 9)=.string nm:=ha.at_ 9 _ rfl
     simp [h5]
   · simp only [Exit.then]
     exact qT (fn:=Tryz.f61) (t:=6) rfl ha rfl hb2 rfl ⟨_,_,_,_,_,_,_,_,rfl,leaf_M (yaA nm none) rfl _ _ _,hbel _ _ (Nat.le_refl _) hB⟩
 · have hfl1:=Yw hfl (.cells Qc 34 (0,0))
   generalize (w.alloc (.cells Qc 34 (0,0)))=w1 at hg0 hB hfl1 ⊢
   refine Yg (yF (yR (v:=.pointer (some ⟨b,0,none⟩)) rfl (YR (fun a ha=>run_eqlsome (p:=⟨b,0,none⟩) (ha.at_ _ _ rfl) ZW ZW) (yx (Jt rfl (Jg ?_))))))
   obtain ⟨fn,c,hf,hbd,_,_,hnm⟩:=clos_one hi
   refine yF (yR rfl (yR rfl (yR (v:=.pointer (some ⟨b,0,none⟩)) rfl (r_nck rfl (r_ld (v:=.float .f64 y) rfl (Qz Zk ((yg hfl1 0).trans rfl)) (rl_callv rfl hf hnm (by rw [hbd];rfl) rfl ((clos_walk hi nm y w1).mono ?_)))))))
   rintro e w2 ⟨rfl,hB2⟩
   refine ⟨_,rfl,?_⟩
   obtain ⟨w3,hrun,hb3,hoth,hbel⟩:=J3 (s1:=nm) (k:=4) (b:=false) (i:=0) (u:=0) (f:=y) (s2:=⟨#[]⟩) (A:=none) (n:=0) (c:=0) (yI hg0 hB2) rfl
   refine Qt rfl rfl hrun (yx (JA fun a ha=>?_))
   exact qT (fn:=Tryz.f61) (t:=6) rfl ha rfl hb3 rfl ⟨_,_,_,_,_,_,_,_,rfl,leaf_M (yaA nm (some y)) rfl _ _ _,hbel _ _ (Nat.le_refl _) (yw hB hB2)⟩
end Go.Proofs.YtlmennkeggmdbaaGreatDoor
namespace Go.Proofs.YtlmennkeggmdbaaGreatDoor
open Go.RowKit Go.Proofs.YtlmennkeggmdbaaGreatDoorW.PrintWords Go.Proofs.YtlmennkeggmdbaaGreatDoorW.PrintLast Go.Proofs.YtlmennkeggmdbaaGreatDoorW.PrintMore
theorem yai {P:Program} {id k n:Nat} {ops:Array Oper} {B E L:List Nat} {Y:Nat→Value} {Q:Exit→Act→World→Prop} {a:Act} {w:World} (J:Nat→Act→World→Prop) (F:Act→World→Prop) (hmix:P.follows .mixedOrders=true) (hn:ops.size=n) (hW:qd (JM .any ops).2 B=true) (hO:Qx (JM .any ops).2 (List.range n)=true)
 (hEL:((List.range n).all fun i=>E.contains i || L.contains i)=true) (hE:(E.all fun i=>decide (i<n) && !L.contains i && ((List.range n).all fun j=>!(B.getD i 0).testBit j || E.contains j))=true)
 (hL:((List.range L.length).all fun p=>decide (L.getD p 0<n) && ((List.range p).all fun q=>(B.getD (L.getD p 0) 0).testBit (L.getD q 0)))=true)
 (hlast:(E.all fun i=>(B.getD (L.getD (L.length - 1) 0) 0).testBit i)=true) (hpos:0<L.length)
 (hB:((List.range n).all fun d=>(B.getD d 0)<2 ^ d)=true)
 (hd:(E.all fun i=>match ops[i]? with|some o=>o.dst == some (k+i)|none=>false)=true)
 (hgd:∀ (i:Nat) (o:Oper),i ∈ E→ops[i]?=some o→o.guard=none∨∃ j bb,o.guard=some (j,bb)∧(B.getD i 0).testBit j=true∧Y j=.bool bb)
 (hF:∀ p a' w',p<L.length→J p a' w'→F a' w'∧∀ i,i ∈ E→k+i<a'.tmps.size)
 (hy:∀ (i:Nat) (o:Oper),i ∈ E→ops[i]?=some o→∀ a' W,(∀ j,(B.getD i 0).testBit j=true→a'.eval (.tmp (k+j))=Y j)→F a' W→(execOp a'.eval o).run P W=.ok (.value (Y i)) W)
 (hput:∀ p i a' w',p<L.length→i ∈ E→J p a' w'→J p (a'.put (some (k+i)) (Y i)) w')
 (hstep:∀ p,p<L.length→∃ o,ops[L.getD p 0]?=some o∧∀ a' w',J p a' w'→(∀ i,i ∈ E→(B.getD (L.getD p 0) 0).testBit i=true→a'.eval (.tmp (k+i))=Y i)→Region.wanted o (yielded ops a'.tmps)=true ∧
  ∀ K:Act→World→Prop,(∀ a2 w2,J (p+1) a2 w2→(∀ i,i ∈ E→a2.eval (.tmp (k+i))=a'.eval (.tmp (k+i)))→K a2 w2)→o.wp P a' w' K Q)
 (h0:J 0 a w.drew) (hend:∀ a' w',J L.length a' w'→(∀ i,i ∈ E→a'.eval (.tmp (k+i))=Y i)→Q .normal a' w') :
 (Code.region id ops true).wp P Q a w:=by
 have hE1:∀ i,i ∈ E→i<n∧i ∉ L∧∀ j,j<n→(B.getD i 0).testBit j=true→j ∈ E:=fun i hi=>by
  have h1:=List.all_eq_true.1 hE i hi
  simp only [Bool.and_eq_true,decide_eq_true_eq,Bool.not_eq_true',List.all_eq_true,List.mem_range,Bool.or_eq_true] at h1
  refine ⟨h1.1.1,?_,fun j hj hb=>?_⟩
  · intro hc;have:=h1.1.2;simp [hc] at this
  · rcases h1.2 j hj with h|h
    · rw [hb] at h;cases h
    · simpa using h
 have hL1:∀ p,p<L.length→L.getD p 0<n∧∀ q,q<p→(B.getD (L.getD p 0) 0).testBit (L.getD q 0)=true:=fun p hp=>by
  have h1:=List.all_eq_true.1 hL p (List.mem_range.2 hp)
  simp only [Bool.and_eq_true,decide_eq_true_eq,List.all_eq_true,List.mem_range] at h1
  exact h1
 have hbd:∀ i j,i<n→(B.getD i 0).testBit j=true→j<i:=fun i j hi hj=>by
  have h1:=List.all_eq_true.1 hB i (List.mem_range.2 hi)
  simp only [decide_eq_true_eq] at h1
  by_cases hji:j<i
  · exact hji
  · have:=Nat.testBit_lt_two_pow (Nat.lt_of_lt_of_le h1 (Nat.pow_le_pow_right Zd (Nat.not_lt.1 hji)))
    rw [this] at hj;cases hj
 have hbits:∀ i,i ∈ E→∀ j,(B.getD i 0).testBit j=true→j<n:=fun i hi j hj=>Nat.lt_trans (hbd i j (hE1 i hi).1 hj) (hE1 i hi).1
 have hself:∀ p,p<L.length→¬ (B.getD (L.getD p 0) 0).testBit (L.getD p 0)=true:=fun p hp h=>Nat.lt_irrefl _ (hbd _ _ (hL1 p hp).1 h)
 have hLm:∀ p,p<L.length→L.getD p 0 ∈ L:=fun p hp=>by
  rw [List.getD_eq_getElem?_getD,List.getElem?_eq_getElem hp];exact List.getElem_mem hp
 have hlast1:∀ i,i ∈ E→(B.getD (L.getD (L.length - 1) 0) 0).testBit i=true:=fun i hi=>List.all_eq_true.1 hlast i hi
 have hdd:∀ i,i ∈ E→∃ o,ops[i]?=some o∧o.dst=some (k+i):=fun i hi=>by
  have:=List.all_eq_true.1 hd i hi
  cases ho:ops[i]? with
  | none=>rw [ho] at this;simp at this
  | some o=>rw [ho] at this;exact ⟨o,rfl,by simpa using this⟩
 refine QQ (n:=n) (S:=fun _=>True) (ds:=[]) _ hmix hn rfl trivial (fun _=>?_)
 let I:(Nat→Bool)→Act→World→Prop:=fun b a' w'=>(∃ p,p≤L.length∧(∀ q,q<L.length→(b (L.getD q 0)=true↔q<p))∧J p a' w')∧∀ i,i ∈ E→b i=true→a'.eval (.tmp (k+i))=Y i
 refine inv_ (B:=B) (List.range n) I rfl hW hO ?_ ?_ ?_ ?_
 · have:(JM Region.Mode.any ops).2.length=n:=by simp [JM,hn]
   rw [this]
   have e1:lof n (List.range n) (fun _=>false)=(Array.replicate n false).toList:=by
    apply List.ext_getElem?
    intro i
    by_cases hi:i<n
    · simp [lof,hi]
    · simp [lof,hi]
   rw [e1]
   simp
 · exact ⟨⟨0,Nat.zero_le _,fun q _=>by simp,h0⟩,fun i _ hb=>by cases hb⟩
 · intro i hi b a' w' hI hb hpre hpost
   have hin:i<n:=List.mem_range.1 hi
   have hpre':∀ j,j<n→(B.getD i 0).testBit j=true→b j=true:=fun j hj hbit=>hpre j (by
    rw [Bool.and_eq_true]
    exact ⟨by simpa using hj,hbit⟩)
   obtain ⟨⟨p,hp,hiff,hJ⟩,hearly⟩:=hI
   have hor:i ∈ E∨i ∈ L:=by
    have:=List.all_eq_true.1 hEL i hi
    simpa using this
   by_cases hiE:i ∈ E
   · have hplt:p<L.length:=by
      have hl1:=hL1 (L.length - 1) Zo
      have hbl:=hpost (L.getD (L.length - 1) 0) (by
       rw [Bool.and_eq_true]
       exact ⟨by simpa using hl1.1,hlast1 i hiE⟩)
      have:=hiff (L.length - 1) Zo
      rw [hbl] at this
      have h2:¬ (L.length - 1<p):=fun h=>by have:=this.2 h;cases this
      omega
     obtain ⟨hFa,hsz⟩:=hF p a' w' hplt hJ
     obtain ⟨o,ho,hdst⟩:=hdd i hiE
     have hgot:∀ j,(B.getD i 0).testBit j=true→a'.eval (.tmp (k+j))=Y j:=fun j hj=>by
      have hjn:=hbits i hiE j hj
      exact hearly j ((hE1 i hiE).2.2 j hjn hj) (hpre' j hjn hj)
     refine ⟨o,ho,fun K hK=>?_⟩
     have hw:Region.wanted o (yielded ops a'.tmps)=true:=by
      rcases hgd i o hiE ho with hg|⟨j,bb,hg,hj,hyj⟩
      · simp [Region.wanted,hg]
      · have hjn:=hbits i hiE j hj
        obtain ⟨oj,hoj,hdj⟩:=hdd j ((hE1 i hiE).2.2 j hjn hj)
        exact YA hg hoj hdj (hsz j ((hE1 i hiE).2.2 j hjn hj)) ((hgot j hj).trans hyj)
     rw [hdst]
     refine QD hw hdst (hy i o hiE ho a' w' hgot hFa) (hK.out _ _ ⟨⟨p,hp,fun q hq=>?_,hput p i a' w' hplt hiE hJ⟩,fun j hj hbj=>?_⟩)
     · have hne:L.getD q 0≠i:=fun e=>(hE1 i hiE).2.1 (by rw [← e];exact hLm q hq)
       rw [QS hne]
       exact hiff q hq
     · by_cases e:j=i
       · subst e;exact ya _ (hsz j hj)
       · rw [QS e] at hbj
         rw [yb _ Zo]
         exact hearly j hj hbj
   · have hiL:i ∈ L:=hor.resolve_left hiE
     obtain ⟨p',hp',hpe⟩:∃ p',p'<L.length∧L.getD p' 0=i:=by
      obtain ⟨p',hp',e⟩:=List.mem_iff_getElem.1 hiL
      exact ⟨p',hp',by rw [List.getD_eq_getElem?_getD,List.getElem?_eq_getElem hp'];exact e⟩
     subst hpe
     have h1:¬ p'<p:=fun h=>by
      have:=(hiff p' hp').2 h
      rw [hb] at this;cases this
     have h2:∀ q,q<p'→q<p:=fun q hq=>(hiff q Zo).1 (hpre' _ (hL1 q Zo).1 ((hL1 p' hp').2 q hq))
     have hpp:p'=p:=by
      by_cases h:p'=0
      · omega
      · have:=h2 (p' - 1) Zo;omega
     subst hpp
     obtain ⟨o,ho,hgo⟩:=hstep p' hp'
     obtain ⟨hw,hwp⟩:=hgo a' w' hJ (fun j hj hbj=>hearly j hj (hpre' j (hE1 j hj).1 hbj))
     refine ⟨o,ho,fun K hK=>?_⟩
     rw [if_pos hw]
     refine hwp K (fun a2 w2 hJ2 hkeep=>hK.out _ _ ⟨⟨p'+1,hp',fun q hq=>?_,hJ2⟩,fun j hj hbj=>?_⟩)
     · by_cases e:q=p'
       · subst e;simp [Q3]
       · have hne:L.getD q 0≠L.getD p' 0:=fun h=>by
          by_cases hlt:q<p'
          · have h3:=(hiff q hq).2 (h2 q hlt)
            rw [h,hb] at h3;cases h3
          · have h3:=(hL1 q hq).2 p' Zo
            rw [h] at h3
            exact hself p' hp' h3
         rw [QS hne,hiff q hq];omega
     · rw [hkeep j hj]
       refine hearly j hj ?_
       have:j≠L.getD p' 0:=fun e=>hiE (e ▸ hj)
       rwa [QS this] at hbj
 · intro b a' w' hall hI
   obtain ⟨⟨p,hp,hiff,hJ⟩,hearly⟩:=hI
   have hpl:p=L.length:=by
    have:=(hiff (L.length - 1) Zo).1 (hall _ (by simpa using (hL1 (L.length - 1) Zo).1))
    omega
   subst hpl
   exact hend a' w' hJ (fun i hi=>hearly i hi (hall i (by simpa using (hE1 i hi).1)))
theorem ya0 {P:Program} {o:Oper} {a:Act} {w:World} {K:Act→World→Prop} {Q:Exit→Act→World→Prop} {f:FuncId} {fn:Func} {ao:Array Operand} {ts:Array TypeId} (hf:P.funcs[f]?=some fn) (hname:(fn.name == "runtime.NumGoroutine")=false) (hb:fn.body.isSome=true) (args:Array Value)
 (hop:o.op=.call { callee:=.value (.func f),args:=ao,argTypes:=ts }) (hargs:ao.map a.eval=args) (h:Calls P f args w fun e w'=>∃ v,e=.returned v∧K (a.put o.dst v) w'):o.wp P a w K Q:=by
 have he:=QX hf hname hb args w
 have hrun:(execOp a.eval o).run P w=.ok (.enter f args) w:=by
  unfold execOp
  simp [hop,resolve,Deferred.ofValue,invoke,Act.eval,hargs,he]
 unfold Oper.wp
 rw [hrun,Oper.upon_enter]
 refine h.mono fun e w'' hh=>?_
 obtain ⟨v,rfl,hk⟩:=hh
 exact hk
theorem J4 {P:Program} {o:Oper} {a:Act} {w w1:World} {v:Value} {K:Act→World→Prop} {Q:Exit→Act→World→Prop} (hrun:(execOp a.eval o).run P w=.ok (.value v) w1) (h:K (a.put o.dst v) w1):o.wp P a w K Q:=by
 unfold Oper.wp
 rw [hrun]
 exact h
theorem YZ {ops:Array Oper} {o:Oper} {a:Act} (h:o.guard=none):Region.wanted o (yielded ops a.tmps)=true:=by simp [Region.wanted,h]
end Go.Proofs.YtlmennkeggmdbaaGreatDoor
