/- Part 12 of 34 of the proof of the tied card of FnNetstatRead. -/
import Derived.Test.YtlmennkeggmdbaaGreatDoorVz
import Derived.Test.YtlmennkeggmdbaaGreatDoorV6
import Derived.Test.YtlmennkeggmdbaaGreatDoorV11
import Derived.Test.YtlmennkeggmdbaaGreatDoorV4
import Derived.Scope
set_option linter.unusedVariables false
set_option linter.unusedSimpArgs false
namespace Go.Proofs.YtlmennkeggmdbaaGreatDoor
open Go.RowKit Go.Proofs.YtlmennkeggmdbaaGreatDoorW.PrintWords Go.Proofs.YtlmennkeggmdbaaGreatDoorW.PrintLast Go.Proofs.YtlmennkeggmdbaaGreatDoorW.PrintMore
abbrev qw:List (ByteArray × Nat):=[(⟨#[83,121,110,99,111,111,107,105,101,115,83,101,110,116]⟩,0),(⟨#[83,121,110,99,111,111,107,105,101,115,82,101,99,118]⟩,1),(⟨#[83,121,110,99,111,111,107,105,101,115,70,97,105,108,101,100]⟩,2),(⟨#[69,109,98,114,121,111,110,105,99,82,115,116,115]⟩,3),(⟨#[80,114,117,110,101,67,97,108,108,101,100]⟩,4),(⟨#[82,99,118,80,114,117,110,101,100]⟩,5),(⟨#[79,102,111,80,114,117,110,101,100]⟩,6),(⟨#[79,117,116,79,102,87,105,110,100,111,119,73,99,109,112,115]⟩,7),(⟨#[76,111,99,107,68,114,111,112,112,101,100,73,99,109,112,115]⟩,8),(⟨#[65,114,112,70,105,108,116,101,114]⟩,9),(⟨#[84,87]⟩,10),(⟨#[84,87,82,101,99,121,99,108,101,100]⟩,11),(⟨#[84,87,75,105,108,108,101,100]⟩,12),(⟨#[80,65,87,83,65,99,116,105,118,101]⟩,13),(⟨#[80,65,87,83,69,115,116,97,98]⟩,14),(⟨#[68,101,108,97,121,101,100,65,67,75,115]⟩,15),(⟨#[68,101,108,97,121,101,100,65,67,75,76,111,99,107,101,100]⟩,16),(⟨#[68,101,108,97,121,101,100,65,67,75,76,111,115,116]⟩,17),(⟨#[76,105,115,116,101,110,79,118,101,114,102,108,111,119,115]⟩,18),(⟨#[76,105,115,116,101,110,68,114,111,112,115]⟩,19),(⟨#[84,67,80,72,80,72,105,116,115]⟩,20),(⟨#[84,67,80,80,117,114,101,65,99,107,115]⟩,21),(⟨#[84,67,80,72,80,65,99,107,115]⟩,22),(⟨#[84,67,80,82,101,110,111,82,101,99,111,118,101,114,121]⟩,23),(⟨#[84,67,80,83,97,99,107,82,101,99,111,118,101,114,121]⟩,24),(⟨#[84,67,80,83,65,67,75,82,101,110,101,103,105,110,103]⟩,25),(⟨#[84,67,80,83,65,67,75,82,101,111,114,100,101,114]⟩,26),(⟨#[84,67,80,82,101,110,111,82,101,111,114,100,101,114]⟩,27),(⟨#[84,67,80,84,83,82,101,111,114,100,101,114]⟩,28),(⟨#[84,67,80,70,117,108,108,85,110,100,111]⟩,29),(⟨#[84,67,80,80,97,114,116,105,97,108,85,110,100,111]⟩,30),(⟨#[84,67,80,68,83,65,67,75,85,110,100,111]⟩,31),(⟨#[84,67,80,76,111,115,115,85,110,100,111]⟩,32),(⟨#[84,67,80,76,111,115,116,82,101,116,114,97,110,115,109,105,116]⟩,33),(⟨#[84,67,80,82,101,110,111,70,97,105,108,117,114,101,115]⟩,34),(⟨#[84,67,80,83,97,99,107,70,97,105,108,117,114,101,115]⟩,35),(⟨#[84,67,80,76,111,115,115,70,97,105,108,117,114,101,115]⟩,36),(⟨#[84,67,80,70,97,115,116,82,101,116,114,97,110,115]⟩,37),(⟨#[84,67,80,83,108,111,119,83,116,97,114,116,82,101,116,114,97,110,115]⟩,38),(⟨#[84,67,80,84,105,109,101,111,117,116,115]⟩,39),(⟨#[84,67,80,76,111,115,115,80,114,111,98,101,115]⟩,40),(⟨#[84,67,80,76,111,115,115,80,114,111,98,101,82,101,99,111,118,101,114,121]⟩,41),(⟨#[84,67,80,82,101,110,111,82,101,99,111,118,101,114,121,70,97,105,108]⟩,42),(⟨#[84,67,80,83,97,99,107,82,101,99,111,118,101,114,121,70,97,105,108]⟩,43),(⟨#[84,67,80,82,99,118,67,111,108,108,97,112,115,101,100]⟩,44),(⟨#[84,67,80,68,83,65,67,75,79,108,100,83,101,110,116]⟩,45),(⟨#[84,67,80,68,83,65,67,75,79,102,111,83,101,110,116]⟩,46),(⟨#[84,67,80,68,83,65,67,75,82,101,99,118]⟩,47),(⟨#[84,67,80,68,83,65,67,75,79,102,111,82,101,99,118]⟩,48),(⟨#[84,67,80,65,98,111,114,116,79,110,68,97,116,97]⟩,49),(⟨#[84,67,80,65,98,111,114,116,79,110,67,108,111,115,101]⟩,50),(⟨#[84,67,80,68,101,102,101,114,65,99,99,101,112,116,68,114,111,112]⟩,70),(⟨#[73,80,82,101,118,101,114,115,101,80,97,116,104,70,105,108,116,101,114]⟩,71),(⟨#[84,67,80,84,105,109,101,87,97,105,116,79,118,101,114,102,108,111,119]⟩,72),(⟨#[84,67,80,82,101,113,81,70,117,108,108,68,111,67,111,111,107,105,101,115]⟩,73),(⟨#[84,67,80,82,101,113,81,70,117,108,108,68,114,111,112]⟩,74),(⟨#[84,67,80,82,101,116,114,97,110,115,70,97,105,108]⟩,75),(⟨#[84,67,80,82,99,118,67,111,97,108,101,115,99,101]⟩,76),(⟨#[84,67,80,82,99,118,81,68,114,111,112]⟩,77),(⟨#[84,67,80,79,70,79,81,117,101,117,101]⟩,78),(⟨#[84,67,80,79,70,79,68,114,111,112]⟩,79),(⟨#[84,67,80,79,70,79,77,101,114,103,101]⟩,80),(⟨#[84,67,80,67,104,97,108,108,101,110,103,101,65,67,75]⟩,81),(⟨#[84,67,80,83,89,78,67,104,97,108,108,101,110,103,101]⟩,82),(⟨#[84,67,80,70,97,115,116,79,112,101,110,65,99,116,105,118,101]⟩,83),(⟨#[84,67,80,70,97,115,116,79,112,101,110,65,99,116,105,118,101,70,97,105,108]⟩,84),(⟨#[84,67,80,70,97,115,116,79,112,101,110,80,97,115,115,105,118,101]⟩,85),(⟨#[84,67,80,70,97,115,116,79,112,101,110,80,97,115,115,105,118,101,70,97,105,108]⟩,86),(⟨#[84,67,80,70,97,115,116,79,112,101,110,76,105,115,116,101,110,79,118,101,114,102,108,111,119]⟩,87),(⟨#[84,67,80,70,97,115,116,79,112,101,110,67,111,111,107,105,101,82,101,113,100]⟩,88),(⟨#[84,67,80,70,97,115,116,79,112,101,110,66,108,97,99,107,104,111,108,101]⟩,89),(⟨#[84,67,80,83,112,117,114,105,111,117,115,82,116,120,72,111,115,116,81,117,101,117,101,115]⟩,90),(⟨#[66,117,115,121,80,111,108,108,82,120,80,97,99,107,101,116,115]⟩,91),(⟨#[84,67,80,65,117,116,111,67,111,114,107,105,110,103]⟩,92),(⟨#[84,67,80,70,114,111,109,90,101,114,111,87,105,110,100,111,119,65,100,118]⟩,93),(⟨#[84,67,80,84,111,90,101,114,111,87,105,110,100,111,119,65,100,118]⟩,94),(⟨#[84,67,80,87,97,110,116,90,101,114,111,87,105,110,100,111,119,65,100,118]⟩,95),(⟨#[84,67,80,83,121,110,82,101,116,114,97,110,115]⟩,96),(⟨#[84,67,80,79,114,105,103,68,97,116,97,83,101,110,116]⟩,97),(⟨#[84,67,80,72,121,115,116,97,114,116,84,114,97,105,110,68,101,116,101,99,116]⟩,98),(⟨#[84,67,80,72,121,115,116,97,114,116,84,114,97,105,110,67,119,110,100]⟩,99),(⟨#[84,67,80,72,121,115,116,97,114,116,68,101,108,97,121,68,101,116,101,99,116]⟩,100),(⟨#[84,67,80,72,121,115,116,97,114,116,68,101,108,97,121,67,119,110,100]⟩,101),(⟨#[84,67,80,65,67,75,83,107,105,112,112,101,100,83,121,110,82,101,99,118]⟩,102),(⟨#[84,67,80,65,67,75,83,107,105,112,112,101,100,80,65,87,83]⟩,103),(⟨#[84,67,80,65,67,75,83,107,105,112,112,101,100,83,101,113]⟩,104),(⟨#[84,67,80,65,67,75,83,107,105,112,112,101,100,70,105,110,87,97,105,116,50]⟩,105),(⟨#[84,67,80,65,67,75,83,107,105,112,112,101,100,84,105,109,101,87,97,105,116]⟩,106),(⟨#[84,67,80,65,67,75,83,107,105,112,112,101,100,67,104,97,108,108,101,110,103,101]⟩,107),(⟨#[84,67,80,87,105,110,80,114,111,98,101]⟩,108),(⟨#[84,67,80,75,101,101,112,65,108,105,118,101]⟩,109),(⟨#[84,67,80,77,84,85,80,70,97,105,108]⟩,110),(⟨#[84,67,80,77,84,85,80,83,117,99,99,101,115,115]⟩,111),(⟨#[84,67,80,87,113,117,101,117,101,84,111,111,66,105,103]⟩,112),(⟨#[84,67,80,76,111,115,115]⟩,113),(⟨#[80,65,87,83,80,97,115,115,105,118,101]⟩,114),(⟨#[84,67,80,70,111,114,119,97,114,100,82,101,116,114,97,110,115]⟩,115),(⟨#[84,67,80,83,99,104,101,100,117,108,101,114,70,97,105,108,101,100]⟩,116),(⟨#[84,67,80,80,114,101,113,117,101,117,101,100]⟩,117),(⟨#[84,67,80,68,105,114,101,99,116,67,111,112,121,70,114,111,109,66,97,99,107,108,111,103]⟩,118),(⟨#[84,67,80,68,105,114,101,99,116,67,111,112,121,70,114,111,109,80,114,101,113,117,101,117,101]⟩,119),(⟨#[84,67,80,80,114,101,113,117,101,117,101,68,114,111,112,112,101,100]⟩,120),(⟨#[84,67,80,70,65,67,75,82,101,111,114,100,101,114]⟩,121),(⟨#[84,67,80,72,80,72,105,116,115,84,111,85,115,101,114]⟩,122)]
abbrev QN:List (ByteArray × Nat):=[(⟨#[73,110,78,111,82,111,117,116,101,115]⟩,0),(⟨#[73,110,84,114,117,110,99,97,116,101,100,80,107,116,115]⟩,1),(⟨#[73,110,77,99,97,115,116,80,107,116,115]⟩,2),(⟨#[79,117,116,77,99,97,115,116,80,107,116,115]⟩,3),(⟨#[73,110,66,99,97,115,116,80,107,116,115]⟩,4),(⟨#[79,117,116,66,99,97,115,116,80,107,116,115]⟩,5),(⟨#[73,110,79,99,116,101,116,115]⟩,6),(⟨#[79,117,116,79,99,116,101,116,115]⟩,7),(⟨#[73,110,77,99,97,115,116,79,99,116,101,116,115]⟩,8),(⟨#[79,117,116,77,99,97,115,116,79,99,116,101,116,115]⟩,9),(⟨#[73,110,66,99,97,115,116,79,99,116,101,116,115]⟩,10),(⟨#[79,117,116,66,99,97,115,116,79,99,116,101,116,115]⟩,11),(⟨#[73,110,67,115,117,109,69,114,114,111,114,115]⟩,12),(⟨#[73,110,78,111,69,67,84,80,107,116,115]⟩,13),(⟨#[73,110,69,67,84,49,80,107,116,115]⟩,14),(⟨#[73,110,69,67,84,48,80,107,116,115]⟩,15),(⟨#[73,110,67,69,80,107,116,115]⟩,16),(⟨#[82,101,97,115,109,79,118,101,114,108,97,112,115]⟩,17)]
def lab:List (ByteArray × Nat)→ByteArray→Option Nat
 | [],_=>none
 | (c,j)::r,s=>if (s.data.toList == c.data.toList)=true then some j else lab r s
inductive Arms (sw fld T:Nat):Nat→List (ByteArray × Nat)→Code→Prop
 | nil {k:Nat}:Arms sw fld T k [] .skip
 | cons {k j id id2:Nat} {c:ByteArray} {ls:List (ByteArray × Nat)} {Y:Code} {d0 d1 d2 d3 d4:TypeId} {p0 p1 p2 p3 p4:String} {a0 a1 a2 a3 a4:Array Edge} (h:Arms sw fld T (k+4) ls Y) :
  Arms sw fld T k ((c,j)::ls) (.seq (.region id #[⟨some (k+1),.binOp .eql 9 (.tmp sw) (.const (.string c)) 9,d0,p0,a0,none⟩,⟨some k,.assign (.tmp (k+1)),d1,p1,a1,none⟩] false)
   (.cond (.tmp k) (.region id2 #[⟨some (k+2),.fieldAddr 56 (.tmp 7) fld,d2,p2,a2,none⟩,⟨some (k+3),.fieldAddr T (.tmp (k+2)) j,d3,p3,a3,none⟩,⟨none,.store 50 (.tmp (k+3)) (.tmp 12),d4,p4,a4,none⟩] false) Y))
theorem qi {k j:Nat} {x:Value} {L:Kn} (h:j≠k):lkv ((k,x)::L) j=lkv L j:=by
 have:Nat.beq j k=false:=by
  cases hb:Nat.beq j k with
  | true=>exact absurd (Nat.eq_of_beq_eq_true hb) h
  | false=>rfl
 simp only [lkv,this,cond_false]
theorem lkv_eq {k:Nat} {x:Value} {L:Kn}:lkv ((k,x)::L) k=some x:=by simp [lkv]
theorem store_ptr {P:Program} {w:World} {a:Addr} {T:TypeId} {x y:Option Addr} (hT:(isAgg T).run P w=.ok false w) (hs:(sizeOf T).run P w=.ok 1 w) (hc:w.cell? a=some (.pointer x)) (hf:w.frozen? a=false) :
 (Instr.storeAt T (.pointer (some a)) (.pointer y)).run P w=.ok () (w.setCell a (.pointer y)):=by
 simp [Instr.storeAt,Instr.sureAddr,go_sem,hc,hf,hT,hs]
theorem stat_cell {p:Nat→Option Nat} {i:Nat} (h:i<141):(Yx p).toArray[1+i]?=some (ptrV (p i)):=by
 have:=qW p h
 simp [Yx,Nat.add_comm 1 i,this]
def upd (p:Nat→Option Nat) (j:Nat) (b:Nat):Nat→Option Nat:=fun i=>if i=j then some b else p i
theorem stat_upd {p:Nat→Option Nat} {j b:Nat} (h:j<141):(Yx p).toArray.setIfInBounds (1+j) (ptrV (some b))=(Yx (upd p j b)).toArray:=by
 apply Array.toList_inj.1
 rw [Array.toList_setIfInBounds]
 apply List.ext_getElem?
 intro i
 cases i with
 | zero=>rw [List.getElem?_set_ne Zo];rfl
 | succ i=>
  show ((Yx p).set (1+j) _)[i+1]?=(ptrs (upd p j b) 141)[i]?
  rw [Nat.add_comm 1 j]
  show ((ptrs p 141).set j (ptrV (some b)))[i]?=_
  by_cases hi:i<141
  · rw [qW _ hi]
    by_cases e:i=j
    · subst e;rw [List.getElem?_set_self (by rw [Qr];exact hi)];simp [upd]
    · rw [List.getElem?_set_ne (fun h=>e h.symm),qW _ hi];simp [upd,e]
  · rw [List.getElem?_eq_none (by rw [List.length_set,Qr];omega),List.getElem?_eq_none (by rw [Qr];omega)]
abbrev Q9 (w:World) (g:Nat) (p:Nat→Option Nat):Prop:=w.heap[g]?=some (.cells (Yx p).toArray 56 (0,0))
theorem arms_walk {sw fld T m o g b j:Nat} {p:Nat→Option Nat} {s:ByteArray} {M:Kn} {Q:Exit→Act→World→Prop} {D:List Deferred} {w:World}
 (h1:∀ W:World,(Instr.fieldAt 56 (.pointer (some ⟨g,0,none⟩)) fld).run Tryz.prog W=.ok (.pointer (some ⟨g,0+(1+o),none⟩)) W)
 (h2:∀ i,i<m→∀ W:World,(Instr.fieldAt T (.pointer (some ⟨g,0+(1+o),none⟩)) i).run Tryz.prog W=.ok (.pointer (some ⟨g,0+(1+o)+i,none⟩)) W)
 (hj:j<m) (hm:o+m≤141) (hg:Q9 w g p)
 (hQ:∀ a,Has 559 D M a→Q .normal a (w.setCell ⟨g,1+(o+j),none⟩ (ptrV (some b)))) {k:Nat} {ls:List (ByteArray × Nat)} {c:Code} (hA:Arms sw fld T k ls c) :
 ∀ L:Kn,lkv L sw=some (.string s)→lkv L 7=some (.pointer (some ⟨g,0,none⟩))→lkv L 12=some (ptrV (some b))→62≤k→sw<k→k+4 * ls.length≤559→lab ls s=some j→(∀ i v,lkv M i=some v→i<62∧lkv L i=some v)→At Tryz.prog Q 559 D L w c:=by
 induction hA with
 | nil=>intro L _ _ _ _ _ _ h;cases h
 | @cons k jj id id2 c ls Y _ _ _ _ _ _ _ _ _ _ _ _ _ _ _ h ih=>
  intro L hs h7 h12 hk hsw hsz hl hM
  rw [List.length_cons] at hsz
  unfold lab at hl
  split at hl
  · rename_i he
    obtain rfl:=Option.some.inj hl
    refine yaO hs he Zo Zo (at_r ?_)
    have hc:w.cell? ⟨g,1+(o+jj),none⟩=some (.pointer ((p (o+jj)).map fun b=>⟨b,0,none⟩)):=(yg hg _).trans (stat_cell Zo)
    refine r_fa (v:=.pointer (some ⟨g,0+(1+o),none⟩)) (p:=.pointer (some ⟨g,0,none⟩)) ?_ h1 (r_fa (v:=.pointer (some ⟨g,0+(1+o)+jj,none⟩)) lkv_eq (h2 jj hj) (Qt (p:=.pointer (some ⟨g,0+(1+o)+jj,none⟩)) (u:=ptrV (some b)) lkv_eq ?_ ?_ (yx (fun a ha=>hQ a ?_))) Zo) Zo
    · show lkv _ 7=_
      rw [qi Zo,qi Zo];exact h7
    · show lkv _ 12=_
      rw [qi Zo,qi Zo,qi Zo,qi Zo];exact h12
    · rw [show 0+(1+o)+jj=1+(o+jj) by omega]
      exact store_ptr Zk Zk hc (yf hg _)
    · refine ⟨ha.size,ha.defers,fun i v hv=>ha.at_ i v ?_⟩
      have hi:=hM i v hv
      rw [qi Zo,qi Zo,qi Zo,qi Zo];exact hi.2
  · rename_i he
    refine Jk hs (by simpa using he) Zo Zo (ih _ ?_ ?_ ?_ Zo Zo Zo hl ?_)
    · rw [qi Zo,qi Zo];exact hs
    · rw [qi Zo,qi Zo];exact h7
    · rw [qi Zo,qi Zo];exact h12
    · intro i v hv
      have hi:=hM i v hv
      exact ⟨hi.1,by rw [qi Zo,qi Zo];exact hi.2⟩
theorem lab_tcp:((List.range 123).all fun j=>match Y9[j]? with
 | some s=>(J6.any fun u=>u.data.toList == s.data.toList) || (lab qw s == some j)
 | none=>false)=true:=by kernel_rfl
theorem lab_ip:((List.range 18).all fun j=>match Jy[j]? with
 | some s=>lab QN s == some j
 | none=>false)=true:=by kernel_rfl
end Go.Proofs.YtlmennkeggmdbaaGreatDoor
namespace Go.Proofs.YtlmennkeggmdbaaGreatDoor
open Go.RowKit Go.Proofs.YtlmennkeggmdbaaGreatDoorW.PrintWords Go.Proofs.YtlmennkeggmdbaaGreatDoorW.PrintLast Go.Proofs.YtlmennkeggmdbaaGreatDoorW.PrintMore
theorem qC {b:UInt8} (hb:Dig b) (n:Int) (hn:n<48∨57<n):((b.toNat:Int) == n)=false:=by
 have h1:=hb.1
 have h2:=hb.2
 simp;omega
set_option maxRecDepth 100000 in
theorem special_dig (b:UInt8) (l:List UInt8) (hb:Dig b) (w:World) :
 Calls Tryz.prog 227 #[.string (mkB (b::l))] w fun e w'=>e=.returned (.tuple #[.float .f64 0,.int .i64 0,.bool false])∧w'=w:=by
 have hs:(mkB (b::l)).size=l.length+1:=rfl
 refine YS 50 Tryz.func227 rfl Zk (by simp) ?_
 refine yF (Yb rfl (Yb rfl (Yb rfl (yx ?_))))
 refine Yg (yF (yR rfl (qX (s:=mkB (b::l)) rfl (r_eqi rfl rfl false (by rw [hs];simp;omega) (yx (Jt rfl (Jg ?_)))))))
 refine yF (Yb rfl (yx ?_))
 refine yF (Yb rfl (yx ?_))
 refine Yg (yF (yR rfl (r_idx (i:=0) (b:=b) rfl rfl rfl (yx ?_))))
 refine YU (Yg (YU (Yg (YU (Yg (YU (Yg (Yg ?_))))))))
 refine Yg (yF (Qs rfl rfl false (qC hb _ Zd) (Yb rfl (yx (Jt rfl (ybf (Qs rfl rfl false (qC hb _ Zd) (Yb rfl (yx (Jt rfl (Jg ?_)))))))))))
 refine Yg (Yg (yF (Qs rfl rfl false (qC hb _ Zd) (Yb rfl (yx (Jt rfl (ybf (Qs rfl rfl false (qC hb _ Zd) (Yb rfl (yx (Jt rfl (Jg ?_))))))))))))
 refine Yg (yF (Qs rfl rfl false (qC hb _ Zd) (Yb rfl (yx (Jt rfl (ybf (Qs rfl rfl false (qC hb _ Zd) (Yb rfl (yx (Jt rfl (Jg ?_)))))))))))
 refine yat fun a ha=>?_
 simp only [Exit.then,Exit.inBlock,reduceIte]
 refine ybF ha (yF (Yb rfl (Yb rfl (Yb rfl (yx (JA fun a ha=>?_))))))
 exact J2 (fn:=Tryz.f227) (vs:=[.float .f64 0,.int .i64 0,.bool false]) rfl ⟨rfl,rfl⟩ ha
set_option maxRecDepth 100000 in
theorem special_neg (b:UInt8) (l:List UInt8) (hb:Dig b) (hl:l.length≤1000000) (w:World) :
 Calls Tryz.prog 227 #[.string (mkB (45::b::l))] w fun e w'=>e=.returned (.tuple #[.float .f64 0,.int .i64 0,.bool false])∧w'=w:=by
 have hs:(mkB (45::b::l)).size=l.length+2:=rfl
 refine YS 50 Tryz.func227 rfl Zk (by simp) ?_
 refine yF (Yb rfl (Yb rfl (Yb rfl (yx ?_))))
 refine Yg (yF (yR rfl (qX (s:=mkB (45::b::l)) rfl (r_eqi rfl rfl false (by rw [hs];simp;omega) (yx (Jt rfl (Jg ?_)))))))
 refine yF (Yb rfl (yx ?_))
 refine yF (Yb rfl (yx ?_))
 refine Yg (yF (yR rfl (r_idx (i:=0) (b:=45) rfl rfl rfl (yx ?_))))
 refine YU (Yg (YU (Yg (YU (Yg (YU (Yg (Yg ?_))))))))
 refine Yg (yF (Qs rfl rfl false Zd (Yb rfl (yx (Jt rfl (ybf (Qs rfl rfl true Zd (Yb rfl (yx (QI rfl (yat fun a ha=>?_)))))))))))
 simp only [Exit.then,Exit.inBlock,reduceIte]
 refine ybF ha (Yg (yF (yR rfl (r_idx (i:=0) (b:=45) rfl rfl rfl (Qs rfl rfl true Zd (yx (QI rfl (ybf (Yb rfl (yx ?_))))))))))
 refine yF (Yb rfl (yx (at_r (yR rfl (r_from (n:=1) (t:=mkB (b::l)) rfl rfl (by rw [hs];omega) ?_ (Yb rfl (yx fun a ha=>?_)))))))
 · rw [extract_mk,size_mk,List.take_length];rfl
 simp only [Exit.then,Exit.inBlock,reduceIte]
 refine ybF ha (Yg (yF (yR rfl (YJ Tryz.func243 Zk rfl rfl ((prefix_walk b l hb hl w).mono ?_)))))
 rintro e w1 ⟨rfl,rfl⟩
 refine ⟨_,rfl,Yb rfl (yx ?_)⟩
 refine Yg (yF (yR rfl (yaj rfl rfl false Zd (yR rfl (Ja rfl (Ja rfl (QB rfl rfl (yx (Jt rfl (Jg ?_))))))))))
 refine yF (yR rfl (r_eqi rfl rfl false Zd (yR rfl (g_mv rfl rfl (g_eqi rfl rfl rfl false Zd (QB rfl rfl (yx (Jt rfl (Jg ?_)))))))))
 refine yat fun a ha=>?_
 simp only [Exit.then,Exit.inBlock,reduceIte]
 refine ybF ha (yF (Yb rfl (Yb rfl (Yb rfl (yx (JA fun a ha=>?_))))))
 exact J2 (fn:=Tryz.f227) (vs:=[.float .f64 0,.int .i64 0,.bool false]) rfl ⟨rfl,rfl⟩ ha
end Go.Proofs.YtlmennkeggmdbaaGreatDoor
namespace Go.Proofs.YtlmennkeggmdbaaGreatDoor
open Go.RowKit Go.Proofs.YtlmennkeggmdbaaGreatDoorW.PrintWords Go.Proofs.YtlmennkeggmdbaaGreatDoorW.PrintLast Go.Proofs.YtlmennkeggmdbaaGreatDoorW.PrintMore
def yam (l:List UInt8):Nat:=l.foldl (fun v b=>v * 10+(b.toNat - 48)) 0
theorem ybb (l:List UInt8) (b:UInt8):yam (l++[b])=yam l * 10+(b.toNat - 48):=by simp [yam]
theorem valD_lt:∀ (n:Nat) (l:List UInt8),l.length=n→(∀ b ∈ l,Dig b)→yam l<10 ^ n:=by
 intro n
 induction n with
 | zero=>intro l hl _;obtain rfl:=List.length_eq_zero_iff.1 hl;decide
 | succ n ih=>
  intro l hl hd
  have hne:l≠[]:=by intro e;subst e;simp at hl
  obtain ⟨l',b,rfl⟩:∃ l' b,l=l'++[b]:=⟨l.dropLast,l.getLast hne,(List.dropLast_concat_getLast hne).symm⟩
  have h1:=ih l' (by simpa using hl) (fun x hx=>hd x (by simp [hx]))
  have h2:=(hd b (by simp)).2
  rw [ybb,Nat.pow_succ]
  omega
theorem ybH {P:Program} {Q:Exit→Act→World→Prop} {sz:Nat} {D:List Deferred} {L:Kn} (M:Kn) {w w1:World} {x y:Code} (h1:At P (fun e a w'=>e=.normal∧Has sz D M a∧w'=w1) sz D L w x) (h2:At P Q sz D M w1 y):At P Q sz D L w (.seq x y):=
 fun a ha=>wp_seq (wp_mono (h1 a ha) fun e a' w' ⟨he,hh,hw⟩=>by subst he;subst hw;exact h2 a' hh)
section
variable {sz:Nat} {D:List Deferred} {L:Kn} {w:World} {ops:Array Oper} {K:Kn→World→Prop} {r:List Oper} {d:Nat} {ty:TypeId} {pos:String} {aft:Array Edge} {gd:Option (Nat × Bool)} {x y:Operand}
theorem r_mul64 {i n m:Int} (hx:kv L x=some (.int .u64 i)) (hy:kv L y=some (.int .u64 n)) (hm:IntKind.u64.wrap (i * n)=m) (h:yZ Tryz.prog sz D ops K r ((d,.int .u64 m)::L) w) (hd:d<sz:=by decide):yZ Tryz.prog sz D ops K (⟨some d,.binOp .mul 30 x y 30,ty,pos,aft,none⟩ :: r) L w:=by
 subst hm;exact QF rfl hx hy Zk h hd
theorem r_add64 {i n m:Int} (hx:kv L x=some (.int .u64 i)) (hy:kv L y=some (.int .u64 n)) (hm:IntKind.u64.wrap (i+n)=m) (h:yZ Tryz.prog sz D ops K r ((d,.int .u64 m)::L) w) (hd:d<sz:=by decide):yZ Tryz.prog sz D ops K (⟨some d,.binOp .add 30 x y 30,ty,pos,aft,none⟩ :: r) L w:=by
 subst hm;exact QF rfl hx hy Zk h hd
theorem r_eq64 {i n:Int} (hx:kv L x=some (.int .u64 i)) (hy:kv L y=some (.int .u64 n)) (b:Bool) (hb:(i == n)=b) (h:yZ Tryz.prog sz D ops K r ((d,.bool b)::L) w) (hd:d<sz:=by decide):yZ Tryz.prog sz D ops K (⟨some d,.binOp .eql 30 x y 30,ty,pos,aft,none⟩ :: r) L w:=by
 subst hb;exact QF rfl hx hy Zk h hd
theorem ycO {i n:Int} (hx:kv L x=some (.int .u64 i)) (hy:kv L y=some (.int .u64 n)) (b:Bool) (hb:(!(i == n))=b) (h:yZ Tryz.prog sz D ops K r ((d,.bool b)::L) w) (hd:d<sz:=by decide):yZ Tryz.prog sz D ops K (⟨some d,.binOp .neq 30 x y 30,ty,pos,aft,none⟩ :: r) L w:=by
 subst hb;exact QF rfl hx hy Zk h hd
theorem r_sub8 {i n m:Int} (hx:kv L x=some (.int .u8 i)) (hy:kv L y=some (.int .u8 n)) (hm:IntKind.u8.wrap (i - n)=m) (h:yZ Tryz.prog sz D ops K r ((d,.int .u8 m)::L) w) (hd:d<sz:=by decide):yZ Tryz.prog sz D ops K (⟨some d,.binOp .sub 5 x y 5,ty,pos,aft,none⟩ :: r) L w:=by
 subst hm;exact QF rfl hx hy Zk h hd
theorem r_cv864 {i m:Int} (hx:kv L x=some (.int .u8 i)) (hm:IntKind.u64.wrap i=m) (h:yZ Tryz.prog sz D ops K r ((d,.int .u64 m)::L) w) (hd:d<sz:=by decide):yZ Tryz.prog sz D ops K (⟨some d,.convert 5 30 x,ty,pos,aft,none⟩ :: r) L w:=by
 subst hm;exact YR (fun a ha=>ycA (ha.kv hx) Zk) h hd
end
theorem wrap_u8 {i:Int} (h0:0≤i) (h:i<256):IntKind.u8.wrap i=i:=by
 show i % 256=i
 omega
abbrev rfKn (s:List UInt8) (neg:Bool) (p i:Nat) (v:Nat) (saw:Bool):Kn:=
 [(0,.string (mkB s)),(2,.int .u64 v),(3,.int .i64 0),(4,.bool neg),(5,.bool false),(6,.bool false),(7,.int .i64 ((p+i:Nat):Int)),(8,.bool false),(9,.bool false),(10,.int .u64 10),(11,.int .i64 19),(12,.int .u8 101),
  (13,.bool false),(14,.bool saw),(15,.int .i64 i),(16,.int .i64 i),(17,.int .i64 0)]
set_option maxRecDepth 100000 in
set_option maxHeartbeats 2000000 in
theorem ydh (neg:Bool) (ds:List UInt8) (hd:∀ b ∈ ds,Dig b) (hl:ds.length≤17) (b0:UInt8) (dr:List UInt8) (hds:ds=b0::dr) (h0:b0.toNat≠48) (hv:0<yam ds) (w:World) :
 Calls Tryz.prog 228 #[.string (mkB ((if neg then [45] else [])++ds))] w fun e w'=>e=.returned (.tuple #[.int .u64 (yam ds),.int .i64 0,.bool neg,.bool false,.bool false,.int .i64 (((if neg then 1 else 0)+ds.length:Nat):Int),.bool true])∧w'=w:=by
 have hb0:Dig b0:=hd b0 (by rw [hds];simp)
 obtain ⟨s,hs⟩:∃ s,s=(if neg then [45] else [])++ds:=⟨_,rfl⟩
 obtain ⟨p,hp⟩:∃ p,p=if neg then 1 else 0:=⟨_,rfl⟩
 have hp1:p≤1:=by rw [hp]; split <;> omega
 rw [← hs,← hp]
 have hsl:s.length=p+ds.length:=by rw [hs,hp]; cases neg <;> simp; omega
 have hdl:ds.length=dr.length+1:=by rw [hds];simp
 have hget:∀ i,i<ds.length→s[p+i]?=ds[i]?:=fun i hi=>by rw [hs,hp]; cases neg <;> simp [Nat.add_comm 1 i]
 refine YS 253 Tryz.func228 rfl Zk (by simp) ?_
 refine yF (Yb rfl (Yb rfl (Yb rfl (Yb rfl (Yb rfl (Yb rfl (Yb rfl (yx ?_))))))))
 refine at_scope ?_
 refine yF (Yb rfl (yx ?_))
 refine Yg (yF (yR rfl (yR rfl (qX (s:=mkB s) rfl (r_geq rfl rfl false (decide_eq_false (by rw [size_mk];omega)) (yx (Jt rfl (Jg ?_))))))))
 refine ybH [(0,.string (mkB s)),(2,.int .u64 0),(3,.int .i64 0),(4,.bool neg),(5,.bool false),(6,.bool false),(7,.int .i64 (p:Nat)),(8,.bool false),(9,.bool false)] (w1:=w) ?_ ?_
 · cases neg with
   | false=>
    obtain rfl:p=0:=hp
    have hh:s[0]?=some b0:=by rw [hs,hds];rfl
    refine yF (yR rfl (yR rfl (r_idx (i:=0) (b:=b0) rfl rfl hh (yx (YU ?_)))))
    refine yF (Qs rfl rfl false (qC hb0 _ Zd) (Yb rfl (yx (Jt rfl ?_))))
    refine yF (Qs rfl rfl false (qC hb0 _ Zd) (Yb rfl (yx (Jt rfl (yaZ fun a ha=>?_)))))
    simp only [Exit.inBlock,Exit.then]
    exact ⟨trivial,ha.sub ⟨rfl,rfl,rfl,rfl,rfl,rfl,rfl,rfl,rfl,trivial⟩,trivial⟩
   | true=>
    obtain rfl:p=1:=hp
    have hh:s[0]?=some 45:=by rw [hs];rfl
    refine yF (yR rfl (yR rfl (r_idx (i:=0) (b:=45) rfl rfl hh (yx (YU ?_)))))
    refine yF (Qs rfl rfl false Zd (Yb rfl (yx (Jt rfl ?_))))
    refine yF (Qs rfl rfl true Zd (Yb rfl (yx (QI rfl (yF (yR rfl (QY rfl rfl rfl (Yb rfl (yx (at_r (Yb rfl (yx fun a ha=>?_))))))))))))
    simp only [Exit.inBlock,Exit.then]
    exact ⟨trivial,ha.sub ⟨rfl,rfl,rfl,rfl,rfl,rfl,rfl,rfl,rfl,trivial⟩,trivial⟩
 refine yF (Yb rfl (yx ?_))
 refine yF (Yb rfl (yx ?_))
 refine yF (Yb rfl (yx ?_))
 refine ybH [(0,.string (mkB s)),(2,.int .u64 0),(3,.int .i64 0),(4,.bool neg),(5,.bool false),(6,.bool false),(7,.int .i64 (p:Nat)),(8,.bool false),(9,.bool false),(10,.int .u64 10),(11,.int .i64 19),(12,.int .u8 101)] (w1:=w) ?_ ?_
 · by_cases hlen:p+2<s.length
   · have hh:s[p]?=some b0:=by have:=hget 0 Zo;rw [Nat.add_zero] at this;rw [this,hds];rfl
     refine yF (yR rfl (QY rfl rfl (m:=((p+2:Nat):Int)) (by rw [wrap_i64 Zo Zo];omega) (yR rfl (qX (s:=mkB s) rfl (yaj rfl rfl true (decide_eq_true (by rw [size_mk];omega)) (yR rfl (g_mv rfl rfl (g_mv rfl rfl (g_idx (i:=p) rfl rfl rfl hh (g_eq8 rfl rfl rfl false (by simp;omega) (QB rfl rfl (yR rfl (Ja rfl (Ja rfl (Ja rfl (Ja rfl (Ja rfl (Ja rfl (QB rfl rfl (yx (Jt rfl (yaZ fun a ha=>⟨rfl,ha.sub ⟨rfl,rfl,rfl,rfl,rfl,rfl,rfl,rfl,rfl,rfl,rfl,rfl,trivial⟩,rfl⟩))))))))))))))))))))))
   · refine yF (yR rfl (QY rfl rfl (m:=((p+2:Nat):Int)) (by rw [wrap_i64 Zo Zo];omega) (yR rfl (qX (s:=mkB s) rfl (yaj rfl rfl false (decide_eq_false (by rw [size_mk];omega)) (yR rfl (Ja rfl (Ja rfl (Ja rfl (Ja rfl (QB rfl rfl (yR rfl (Ja rfl (Ja rfl (Ja rfl (Ja rfl (Ja rfl (Ja rfl (QB rfl rfl (yx (Jt rfl (yaZ fun a ha=>⟨rfl,ha.sub ⟨rfl,rfl,rfl,rfl,rfl,rfl,rfl,rfl,rfl,rfl,rfl,rfl,trivial⟩,rfl⟩))))))))))))))))))))))
 refine yF (Yb rfl (yx ?_))
 refine yF (Yb rfl (yx ?_))
 refine yF (Yb rfl (yx ?_))
 refine yF (Yb rfl (yx ?_))
 refine yF (Yb rfl (yx ?_))
 refine Yg (at_label fun a ha=>?_)
 simp only [Exit.then]
 have hpow:(10:Nat) ^ 17=100000000000000000:=by decide
 have hvi:∀ i,i≤ds.length→yam (ds.take i)<100000000000000000:=fun i hi=>by
  have h1:=valD_lt i (ds.take i) (by rw [List.length_take];omega) (fun b hb=>hd b (List.mem_of_mem_take hb))
  have h2:=Nat.pow_le_pow_right (show 0<10 by decide) (show i≤17 by omega)
  omega
 refine ybF ha (ybH (rfKn s neg p ds.length (yam ds) true) (w1:=w) ?_ ?_)
 · refine YU (ybG (fun n L w'=>∃ i,i≤ds.length∧n=ds.length - i∧L=rfKn s neg p i (yam (ds.take i)) (decide (0<i))∧w'=w) ds.length (M:=rfKn s neg p 0 0 false) ⟨rfl,rfl,rfl,rfl,rfl,rfl,rfl,rfl,rfl,rfl,rfl,rfl,rfl,rfl,rfl,rfl,rfl,trivial⟩ ⟨0,by omega,rfl,rfl,rfl⟩ ?_)
   rintro n L w' ⟨i,hi,rfl,rfl,rfl⟩
   by_cases hlt:i<ds.length
   · obtain ⟨c,hc⟩:∃ c,ds[i]?=some c:=⟨ds[i],List.getElem?_eq_getElem hlt⟩
     have hcd:Dig c:=hd c (List.mem_of_getElem? hc)
     have hc1:=hcd.1
     have hc2:=hcd.2
     have hsc:s[p+i]?=some c:=(hget i hlt).trans hc
     have htk:ds.take (i+1)=ds.take i++[c]:=by rw [List.take_add_one,hc];rfl
     have hv1:=hvi i hi
     have hv2:=hvi (i+1) hlt
     rw [htk,ybb] at hv2
     refine Yg (yF (yR rfl (yR rfl (qX (s:=mkB s) rfl (yaj rfl rfl true (decide_eq_true (by rw [size_mk];omega)) (yx (QI rfl (Jg ?_))))))))
     refine Yg (YU (Yg (yF (yR rfl (yR rfl (r_idx rfl rfl hsc (Yb rfl (yx (YU ?_)))))))))
     refine yF (yR rfl (Qs rfl rfl false (qC hcd _ Zd) (r_eqb rfl rfl (Yb rfl (yx (Jt rfl ?_))))))
     refine yF (yR rfl (Qs rfl rfl false (qC hcd _ Zd) (r_eqb rfl rfl (Yb rfl (yx (Jt rfl ?_))))))
     refine yF (yR rfl (g_leq8 rfl rfl rfl true (decide_eq_true Zo) (yR rfl (g_mv rfl rfl (g_leq8 rfl rfl rfl true (decide_eq_true Zo) (QB rfl rfl (r_eqb rfl rfl (Yb rfl (yx (QI rfl ?_))))))))))
     refine yF (Yb rfl (yx ?_))
     refine ybH ((18,.int .u8 c.toNat)::rfKn s neg p i (yam (ds.take i)) true) (w1:=w') ?_ ?_
     · by_cases hz:c.toNat=48
       · have hi0:i≠0:=fun e=>by
          subst e
          rw [hds] at hc
          obtain rfl:b0=c:=by simpa using hc
          exact h0 hz
         refine yF (yR rfl (Qs rfl rfl true (by simp;omega) (yR rfl (g_mv rfl rfl (g_eqi rfl rfl rfl false (by simp;omega) (QB rfl rfl (yx (Jt rfl (yaZ fun a ha=>⟨rfl,ha.sub ⟨rfl,rfl,rfl,rfl,rfl,rfl,rfl,rfl,rfl,rfl,rfl,rfl,rfl,rfl,rfl,rfl,rfl,rfl,trivial⟩,rfl⟩)))))))))
       · refine yF (yR rfl (Qs rfl rfl false (by simp;omega) (yR rfl (Ja rfl (Ja rfl (QB rfl rfl (yx (Jt rfl (yaZ fun a ha=>⟨rfl,ha.sub ⟨rfl,rfl,rfl,rfl,rfl,rfl,rfl,rfl,rfl,rfl,rfl,rfl,rfl,rfl,rfl,rfl,rfl,rfl,trivial⟩,rfl⟩)))))))))
     refine yF (yR rfl (QY rfl rfl (m:=((i+1:Nat):Int)) (by rw [wrap_i64 Zo Zo];omega) (Yb rfl (yx ?_))))
     refine Yg (yF (yR rfl (yR rfl (yaj rfl rfl true (decide_eq_true Zo) (yx (QI rfl ?_))))))
     refine yF (yR rfl (yR rfl (r_mul64 rfl rfl (m:=((yam (ds.take i) * 10:Nat):Int)) (by rw [wrap_u64 Zo Zo];omega) (Yb rfl (yx ?_)))))
     refine yF (yR rfl (yR rfl (r_sub8 rfl rfl (m:=((c.toNat - 48:Nat):Int)) (by rw [wrap_u8 Zo Zo];omega) (r_cv864 rfl (m:=((c.toNat - 48:Nat):Int)) (wrap_u64 Zo Zo) (r_add64 rfl rfl (m:=((yam (ds.take (i+1)):Nat):Int)) (by rw [wrap_u64 Zo Zo,htk,ybb];omega) (Yb rfl (yx ?_)))))))
     refine ybf (yR rfl (QY rfl rfl (m:=((i+1:Nat):Int)) (by rw [wrap_i64 Zo Zo];omega) (Yb rfl (yx (yat fun a ha=>?_)))))
     simp only [Exit.inBlock,Exit.then,reduceIte]
     refine ybF ha (at_r (yR rfl (QY rfl rfl (m:=((p+(i+1):Nat):Int)) (by rw [wrap_i64 Zo Zo];omega) (Yb rfl (yx fun a ha=>?_)))))
     simp only [Exit.then]
     exact ⟨ds.length - (i+1),_,by omega,ha.sub (M:=rfKn s neg p (i+1) (yam (ds.take (i+1))) true) ⟨rfl,rfl,rfl,rfl,rfl,rfl,rfl,rfl,rfl,rfl,rfl,rfl,rfl,rfl,rfl,rfl,rfl,trivial⟩,i+1,hlt,rfl,by simp,trivial⟩
   · obtain rfl:i=ds.length:=by omega
     refine Yg (yF (yR rfl (yR rfl (qX (s:=mkB s) rfl (yaj rfl rfl false (decide_eq_false (by rw [size_mk];omega)) (yx (Jt rfl (yat fun a ha=>?_))))))))
     simp only [Exit.inBlock,Exit.then,reduceIte]
     rw [List.take_length,decide_eq_true Zo] at ha
     exact ⟨trivial,ha.sub ⟨rfl,rfl,rfl,rfl,rfl,rfl,rfl,rfl,rfl,rfl,rfl,rfl,rfl,rfl,rfl,rfl,rfl,trivial⟩,trivial⟩
 refine Yg (yF (yR rfl (r_not rfl (yx (Jt rfl (Jg ?_))))))
 refine Yg (yF (yR rfl (r_not rfl (yx (QI rfl (ybf (yR rfl (Yb rfl (yx ?_)))))))))
 refine Yg (yF (yR rfl (r_eq64 rfl rfl false rfl (yx (Jt rfl (Jg ?_))))))
 refine Yg (yF (yR rfl (yR rfl (qX (s:=mkB s) rfl (yaj rfl rfl false (decide_eq_false (by rw [size_mk];omega)) (yR rfl (Ja rfl (Ja rfl (Ja rfl (Ja rfl (Ja rfl (Ja rfl (QB rfl rfl (yx (Jt rfl ?_)))))))))))))))
 refine yF (yR rfl (r_eq64 rfl rfl false rfl (yx (Jt rfl (Jg ?_)))))
 refine Yg (yF (yR rfl (ycO rfl rfl true (by simp;omega) (yx (QI rfl (ybf (yR rfl (yR rfl (ybV rfl rfl (m:=0) (by rw [wrap_i64 Zo Zo];omega) (Yb rfl (yx ?_)))))))))))
 refine Yg (yF (yR rfl (yR rfl (Ja rfl (Ja rfl (Ja rfl (Ja rfl (Ja rfl (QB rfl rfl (yx (Jt rfl (Jg ?_))))))))))))
 refine yF (Yb rfl (yx (JA fun a ha=>?_)))
 simp only [Exit.noGoto]
 exact J2 (fn:=Tryz.f228) (vs:=[.int .u64 (yam ds),.int .i64 0,.bool neg,.bool false,.bool false,.int .i64 ((p+ds.length:Nat):Int),.bool true]) rfl ⟨rfl,rfl⟩ ha
end Go.Proofs.YtlmennkeggmdbaaGreatDoor
namespace Go.Proofs.YtlmennkeggmdbaaGreatDoor
open Go.RowKit Go.Proofs.YtlmennkeggmdbaaGreatDoorW.PrintWords Go.Proofs.YtlmennkeggmdbaaGreatDoorW.PrintLast Go.Proofs.YtlmennkeggmdbaaGreatDoorW.PrintMore
abbrev Env:=List (Nat × Value)
def lk:Env→Nat→Value
 | [],_=>undef
 | (j,v)::r,i=>bif Nat.beq i j then v else lk r i
def evE (E:Env):Operand→Value
 | .tmp j=>lk E j
 | .const v=>v
 | .global g=>.pointer (some ⟨g,0,none⟩)
 | .func f=>.func (.func f) #[] #[]
def forced {α:Type} (v:Value) (K:Value→α):α:=
 match v with
 | .int k (.ofNat m)=>match m with
  | 0=>K (.int k (.ofNat 0))
  | m+1=>K (.int k (.ofNat (m+1)))
 | v=>K v
theorem ycf {α:Type} (v:Value) (K:Value→α):forced v K=K v:=by
 unfold forced
 split
 · split <;> rfl
 · rfl
def bindE (d:Option Tmp) (v:Value) (E:Env):Env:=
 match d with
 | some j=>(j,v)::E
 | none=>E
def wantE (ops:Array Oper) (E:Env) (o:Oper):Option Bool:=
 match o.guard with
 | none=>some true
 | some (j,b)=>match ops[j]? with
  | some oj=>match oj.dst with
   | some d=>match lk E d with
    | .bool c=>some (c == b)
    | _=>none
   | none=>none
  | none=>none
def dstOk (sz:Nat):Option Tmp→Bool
 | some d=>Nat.ble (d+1) sz
 | none=>true
abbrev Log:=List (TypeId × Value × Value × World)
def Q4 (P:Program) (L:Log):Prop:=∀ x ∈ L,(Instr.loadAt x.1 x.2.1).run P x.2.2.2=.ok x.2.2.1 x.2.2.2
theorem logged_cons {P:Program} {x:TypeId × Value × Value × World} {L:Log} (h:Q4 P (x::L)):(Instr.loadAt x.1 x.2.1).run P x.2.2.2=.ok x.2.2.1 x.2.2.2∧Q4 P L:=⟨h x (List.mem_cons_self ..),fun y hy=>h y (List.mem_cons_of_mem _ hy)⟩
theorem ybu {P:Program} {L M:Log} (h:Q4 P (L++M)):Q4 P L∧Q4 P M:=⟨fun y hy=>h y (List.mem_append_left _ hy),fun y hy=>h y (List.mem_append_right _ hy)⟩
def appL {α:Type} (L:Log):Option (α × World × List Value × Log)→Option (α × World × List Value × Log)
 | some (E,w,O,M)=>some (E,w,O,L++M)
 | none=>none
theorem yaY {α:Type} {L:Log} {x:Option (α × World × List Value × Log)} {E:α} {w:World} {O:List Value} {N:Log} (h:appL L x=some (E,w,O,N)):∃ M,x=some (E,w,O,M)∧N=L++M:=by
 cases x with
 | none=>cases h
 | some y=>
  obtain ⟨E1,w1,O1,M⟩:=y
  simp only [appL,Option.some.injEq,Prod.mk.injEq] at h
  obtain ⟨rfl,rfl,rfl,rfl⟩:=h
  exact ⟨M,rfl,rfl⟩
def loadOf (o:Oper):Option (TypeId × Operand):=
 match o.op with
 | .load T x=>some (T,x)
 | _=>none
abbrev CallE:=FuncId→Array Value→World→List Value→Option (Value × World × List Value × Log)
def ybN (P:Program) (call:CallE) (sz:Nat) (ops:Array Oper):List Oper→Env→World→List Value→Option (Env × World × List Value × Log)
 | [],E,w,O=>some (E,w,O,[])
 | o::r,E,w,O=>
  bif dstOk sz o.dst then
   match wantE ops E o with
   | some true=>match loadOf o with
    | some (T,x)=>match O with
     | v::O'=>appL [(T,evE E x,v,w)] (forced v fun v=>ybN P call sz ops r (bindE o.dst v E) w O')
     | []=>none
    | none=>match (execOp (evE E) o).run P w with
     | .ok (.value v) w'=>forced v fun v=>ybN P call sz ops r (bindE o.dst v E) w' O
     | .ok (.enter f args) w'=>match call f args w' O with
      | some (v,w'',O',L)=>appL L (forced v fun v=>ybN P call sz ops r (bindE o.dst v E) w'' O')
      | none=>none
     | _=>none
   | some false=>ybN P call sz ops r (bindE o.dst undef E) w O
   | none=>none
  else none
def evC (P:Program) (call:CallE) (sz:Nat):Nat→Code→Env→World→List Value→Option ((Exit × Env) × World × List Value × Log)
 | 0,_,_,_,_=>none
 | n+1,c,E,w,O=>match c with
  | .skip=>some ((.normal,E),w,O,[])
  | .region _ ops draw=>bif draw then none else match ybN P call sz ops ops.toList E w O with
   | some (E',w',O',L)=>some ((.normal,E'),w',O',L)
   | none=>none
  | .seq x y=>match evC P call sz n x E w O with
   | some ((.normal,E'),w',O',L)=>appL L (evC P call sz n y E' w' O')
   | r=>r
  | .cond c x y=>match evE E c with
   | .bool true=>evC P call sz n x E w O
   | .bool false=>evC P call sz n y E w O
   | _=>none
  | .block id x=>match evC P call sz n x E w O with
   | some ((.exit id',E'),w',O',L)=>bif Nat.beq id' id then some ((.normal,E'),w',O',L) else some ((.exit id',E'),w',O',L)
   | r=>r
  | .loop x=>match evC P call sz n x E w O with
   | some ((.normal,E'),w',O',L)=>appL L (evC P call sz n (.loop x) E' w' O')
   | r=>r
  | .exit id=>some ((.exit id,E),w,O,[])
  | .scope x=>match evC P call sz n x E w O with
   | some ((.goto _,_),_,_,_)=>none
   | r=>r
  | .label _=>some ((.normal,E),w,O,[])
  | .goto l=>some ((.goto l,E),w,O,[])
  | .ret=>some ((.ret,E),w,O,[])
  | _=>none
structure RepE (sz:Nat) (E:Env) (a:Act):Prop where
 size:a.tmps.size=sz
 at_:∀ j:Nat,a.eval (.tmp j)=lk E j
theorem RepE.eval {sz:Nat} {E:Env} {a:Act} (h:RepE sz E a):a.eval=evE E:=by
 funext o
 cases o with
 | tmp j=>exact h.at_ j
 | const v=>rfl
 | global g=>rfl
 | func f=>rfl
theorem RepE.put {sz:Nat} {E:Env} {a:Act} (h:RepE sz E a) {d:Option Tmp} (hd:dstOk sz d=true) (v:Value):RepE sz (bindE d v E) (a.put d v):=by
 cases d with
 | none=>exact h
 | some d=>
  have hd':d<sz:=by
   simp only [dstOk] at hd
   exact Nat.le_of_ble_eq_true hd
  refine ⟨by rw [size_put];exact h.size,fun j=>?_⟩
  show _=lk ((d,v)::E) j
  by_cases e:j=d
  · subst e
    rw [ya _ (by rw [h.size];exact hd')]
    simp [lk]
  · rw [yb _ e,h.at_]
    have:Nat.beq j d=false:=by
     cases hb:Nat.beq j d with
     | false=>rfl
     | true=>exact absurd (Nat.eq_of_beq_eq_true hb) e
    simp [lk,this]
theorem wantE_ok {sz:Nat} {ops:Array Oper} {E:Env} {a:Act} {o:Oper} {b:Bool} (h:RepE sz E a) (hall:∀ oj ∈ ops.toList,dstOk sz oj.dst=true) (hw:wantE ops E o=some b):Region.wanted o (yielded ops a.tmps)=b:=by
 unfold wantE at hw
 cases hg:o.guard with
 | none=>
  rw [hg] at hw
  injection hw with hw
  subst hw
  simp [Region.wanted,hg]
 | some g=>
  obtain ⟨j,bb⟩:=g
  rw [hg] at hw
  simp only at hw
  cases hj:ops[j]? with
  | none=>rw [hj] at hw;cases hw
  | some oj=>
   rw [hj] at hw
   simp only at hw
   cases hd:oj.dst with
   | none=>rw [hd] at hw;cases hw
   | some d=>
    rw [hd] at hw
    simp only at hw
    have hds:d<a.tmps.size:=by
     have:=hall oj (by rw [← Array.getElem?_toList] at hj;exact List.mem_of_getElem? hj)
     rw [hd] at this
     rw [h.size]
     exact Nat.le_of_ble_eq_true this
    cases hv:lk E d with
    | bool c=>
     rw [hv] at hw
     injection hw with hw
     have he:=(h.at_ d).trans hv
     subst hw
     by_cases e:c=bb
     · subst e
       rw [YA hg hj hd hds he];simp
     · rw [off_of hg hj hd hds he e]
       cases c <;> cases bb <;> simp_all
    | _=>rw [hv] at hw;cases hw
def CallOk (P:Program) (call:CallE):Prop:=∀ f args w O v w' O' L,call f args w O=some (v,w',O',L)→Q4 P L→Calls P f args w fun e w''=>e=.returned v∧w''=w'
theorem yaP {P:Program} {call:CallE} (hcall:CallOk P call) {sz:Nat} {ops:Array Oper} (hall:∀ oj ∈ ops.toList,dstOk sz oj.dst=true) {Q:Exit→Act→World→Prop} :
 ∀ (l:List Oper) (E:Env) (w:World) (O:List Value) (E':Env) (w':World) (O':List Value) (L:Log),ybN P call sz ops l E w O=some (E',w',O',L)→Q4 P L→∀ a,RepE sz E a→(∀ a',RepE sz E' a'→a'.defers=a.defers→Q .normal a' w')→wpList P ops Q l a w
 | [],E,w,O,E',w',O',L,h,hL,a,hr,hQ=>by
  simp only [ybN,Option.some.injEq,Prod.mk.injEq] at h
  obtain ⟨rfl,rfl,rfl,rfl⟩:=h
  exact wpList_nil (hQ a hr rfl)
 | o::r,E,w,O,E',w',O',L,h,hL,a,hr,hQ=>by
  simp only [ybN] at h
  cases hd:dstOk sz o.dst with
  | false=>rw [hd] at h;cases h
  | true=>
   rw [hd] at h
   simp only [cond_true] at h
   cases hw:wantE ops E o with
   | none=>rw [hw] at h;cases h
   | some b=>
    have hwo:=wantE_ok hr hall hw
    rw [hw] at h
    cases b with
    | false=>
     simp only at h
     exact ydt hwo (yaP hcall hall r _ w O E' w' O' L h hL _ (hr.put hd undef) (fun a' h1 h2=>hQ a' h1 (by rw [h2,yJ])))
    | true=>
     simp only at h
     refine wpList_step fun K hK=>?_
     rw [if_pos hwo]
     cases hl:loadOf o with
     | some p=>
      obtain ⟨T,x⟩:=p
      rw [hl] at h
      simp only at h
      cases O with
      | nil=>cases h
      | cons v O1=>
       simp only [ycf] at h
       obtain ⟨M,hx,rfl⟩:=yaY h
       obtain ⟨h1,h2⟩:=logged_cons hL
       rw [← hr.eval] at h1
       have hop:o.op=.load T x:=by
        unfold loadOf at hl
        split at hl
        · rename_i T' x' he
          simp only [Option.some.injEq,Prod.mk.injEq] at hl
          obtain ⟨rfl,rfl⟩:=hl
          exact he
        · cases hl
       have hrun:(execOp a.eval o).run P w=.ok (.value v) w:=by
        have e:execOp a.eval o=(do pure (Next.value (← Instr.loadAt T (a.eval x))):Sem Next):=by
         unfold execOp
         rw [hop]
        rw [e]
        exact Y8 h1
       unfold Oper.wp
       rw [hrun,Oper.upon_value]
       exact hK _ _ (yaP hcall hall r _ w O1 E' w' O' M hx h2 _ (hr.put hd v) (fun a' h1 h2=>hQ a' h1 (by rw [h2,yJ])))
     | none=>
      rw [hl] at h
      simp only at h
      rw [← hr.eval] at h
      unfold Oper.wp
      cases hx:(execOp a.eval o).run P w with
      | halt e w1=>rw [hx] at h;cases h
      | ok nx w1=>
       rw [hx] at h
       cases nx with
       | value v=>
        simp only [ycf] at h
        rw [Oper.upon_value]
        exact hK _ _ (yaP hcall hall r _ w1 O E' w' O' L h hL _ (hr.put hd v) (fun a' h1 h2=>hQ a' h1 (by rw [h2,yJ])))
       | enter f args=>
        simp only at h
        rw [Oper.upon_enter]
        cases hc:call f args w1 O with
        | none=>rw [hc] at h;cases h
        | some p=>
         obtain ⟨v,w2,O2,L2⟩:=p
         rw [hc] at h
         simp only [ycf] at h
         obtain ⟨M,hx,rfl⟩:=yaY h
         obtain ⟨h1,h2⟩:=ybu hL
         refine (hcall f args w1 O v w2 O2 L2 hc h1).mono fun e w'' hh=>?_
         obtain ⟨rfl,rfl⟩:=hh
         exact hK _ _ (yaP hcall hall r _ _ O2 E' w' O' M hx h2 _ (hr.put hd v) (fun a' h1 h2=>hQ a' h1 (by rw [h2,yJ])))
       | _=>cases h
end Go.Proofs.YtlmennkeggmdbaaGreatDoor
