/- Part 3 of 34 of the proof of the tied card of FnNetstatRead. -/
import Derived.Test.YtlmennkeggmdbaaGreatDoorVz
import Derived.Test.YtlmennkeggmdbaaGreatDoorProg
import Derived.Below
import Derived.Deep.Draws
import Derived.Deep.AppendLies
import Derived.Maps.AppendAt
import Derived.OwnWalk
import Derived.Laws.BytesArg
import Derived.Laws.MakeOwn
import Derived.Laws.OwnMore
import Derived.Deep.OwnRows
import Derived.Tactics
import Derived.Lib.ConvBytes
import Derived.Laws.Slices
import Derived.WalkKit
import Derived.KernelRfl
import Derived.RowKit3
import Derived.Deep.LoopGhost
import Derived.Deep.QuietTactic
import Derived.BigQuiet
import Derived.WideLaws
import Derived.Deep.DeepCutAuto
import Derived.Deep.CutBlock
import Derived.Deep.RegionHeld3
import Derived.Laws.Rows
import Derived.Lib.AppendStr
import Derived.ArgAppend
import Derived.Laws.IdiomCopy
import Derived.OrdersHeld
import Derived.Laws.BitsLemmas
import Derived.RowKit
import Derived.Laws.Cover2
import Derived.Laws.FloatArith
import Derived.Test.YtlmennkeggmdbaaGreatDoorV0
import Derived.Test.YtlmennkeggmdbaaGreatDoorV1
import Derived.Test.YtlmennkeggmdbaaGreatDoorV2
set_option linter.unusedVariables false
set_option linter.unusedSimpArgs false
namespace Go.Proofs.YtlmennkeggmdbaaGreatDoor
open Go.RowKit Go.Proofs.YtlmennkeggmdbaaGreatDoorW.PrintWords Go.Proofs.YtlmennkeggmdbaaGreatDoorW.PrintLast Go.Proofs.YtlmennkeggmdbaaGreatDoorW.PrintMore
attribute [local go_sem] Yt Yp YE YB Yj Yk Yu Yv
def errW:Option Int→Value
 | none=>.nilIface
 | some c=>.iface 0 (.int .i64 c)
theorem yK:errW none=.nilIface:=rfl
theorem yL (c:Int):errW (some c)=.iface 0 (.int .i64 c):=rfl
def kd_f64:Kd Nat:=Kd.scalar (Value.float .f64) (fun _=>rfl)
theorem yn (l:List UInt8):(l != [])=!l.isEmpty:=by cases l <;> rfl
@[go_sem] theorem run_store_float {P:Program} {w:World} {a:Addr} {m:Mode} (k:FloatKind) (b:Nat):(store a (.float k b) m).run P w=stored P w a (.float k b) m:=run_store P w a _ m rfl
theorem ybP:(Tryz.prog.info? 9).map (fun i=>(i.zero,i.size,i.bytes))=some (some (.string ⟨#[]⟩),1,16):=by kernel_rfl
theorem info30:(Tryz.prog.info? 30).map (fun i=>(i.zero,i.size,i.bytes))=some (some (.int .u64 0),1,8):=by kernel_rfl
theorem info34:(Tryz.prog.info? 34).map (fun i=>(i.zero,i.size,i.bytes))=some (some (.agg #[(.string ⟨#[]⟩),(.int .i64 0),(.bool false),(.int .i64 0),(.int .u64 0),(.float .f64 0),(.string ⟨#[]⟩),(.slice none 0 0)]),8,96):=by kernel_rfl
theorem info38:(Tryz.prog.info? 38).map (fun i=>(i.zero,i.size,i.bytes))=some (some (.agg #[(.string ⟨#[]⟩),(.int .i64 0),(.bool false),(.int .i64 0),(.int .u64 0),(.float .f64 0),(.string ⟨#[]⟩),(.slice none 0 0)]),8,96):=by kernel_rfl
theorem info71:(Tryz.prog.info? 71).map (fun i=>(i.zero,i.size,i.bytes))=some (some (.agg #[(.string ⟨#[]⟩),(.slice none 0 0),(.slice none 0 0)]),3,64):=by kernel_rfl
structure S38 where
 f0:ByteArray
 f1:Int
 f2:Bool
 f3:Int
 f4:Int
 f5:Nat
 f6:ByteArray
 f7:(List S38)
def z38:S38:=⟨(⟨#[]⟩:ByteArray),(0:Int),false,(0:Int),(0:Int),(0:Nat),(⟨#[]⟩:ByteArray),([]:List S38)⟩
def F38 (d:Kd S38):Kd S38:=Kd.iso (Kd.pair Kd.string (Kd.pair (Kd.int .i64) (Kd.pair Kd.bool (Kd.pair (Kd.int .i64) (Kd.pair (Kd.int .u64) (Kd.pair kd_f64 (Kd.pair Kd.string (Kd.slice 38 d)))))))) (fun x:S38=>(x.f0,x.f1,x.f2,x.f3,x.f4,x.f5,x.f6,x.f7))
theorem mono38:Kd.yan F38:=Kd.mono_iso _ (Kd.JE (Kd.Jm _) (Kd.JE (Kd.Jm _) (Kd.JE (Kd.Jm _) (Kd.JE (Kd.Jm _) (Kd.JE (Kd.Jm _) (Kd.JE (Kd.Jm _) (Kd.JE (Kd.Jm _) (Kd.yda 38 Kd.mono_id))))))))
theorem sub38:Kd.Sub F38 [38]:=Kd.sub_iso _ (Kd.JY (Kd.sub_const _ Zd) (Kd.JY (Kd.sub_const _ Zd) (Kd.JY (Kd.sub_const _ Zd) (Kd.JY (Kd.sub_const _ Zd) (Kd.JY (Kd.sub_const _ Zd) (Kd.JY (Kd.sub_const _ Zd) (Kd.JY (Kd.sub_const _ Zd) (Kd.sub_slice 38 Zd Kd.sub_id))))))))
theorem sz38:∀ n,(Kd.upto F38 8 [38] n).sz=8:=Kd.upto_sz (fun _=>rfl)
def k38:Kd S38:=Kd.fix F38 8 [38] sz38 (Kd.upto_E sub38)
theorem k38_open {w:World} {x:S38} {cs:List Value} (h:k38.K w x cs):∃ A7 c7,cs=[.string x.f0,.int .i64 x.f1,.bool x.f2,.int .i64 x.f3,.int .u64 x.f4,.float .f64 x.f5,.string x.f6,.slice A7 x.f7.length c7]∧x.f7.length≤c7∧k38.C w A7 x.f7.length x.f7:=by
 obtain ⟨n,h⟩:=h
 cases n with
 | zero=>exact h.elim
 | succ n=>
  obtain ⟨_,_,rfl,rfl,⟨_,_,rfl,rfl,⟨_,_,rfl,rfl,⟨_,_,rfl,rfl,⟨_,_,rfl,rfl,⟨_,_,rfl,rfl,⟨_,_,rfl,rfl,⟨A7,c7,rfl,l7,g7⟩⟩⟩⟩⟩⟩⟩⟩:=h
  exact ⟨A7,c7,rfl,l7,Kd.fix_C g7⟩
theorem k38_mk (w:World) (x:S38) {A7:Option Addr} {c7:Nat} (l7:x.f7.length≤c7) (g7:k38.C w A7 x.f7.length x.f7):k38.K w x [.string x.f0,.int .i64 x.f1,.bool x.f2,.int .i64 x.f3,.int .u64 x.f4,.float .f64 x.f5,.string x.f6,.slice A7 x.f7.length c7]:=by
 obtain ⟨n7,q7⟩:=Kd.fix_C_back mono38 g7
 have r7:=Kd.upto_C_le mono38 sz38 (show n7≤n7 by omega) q7
 exact ⟨n7+1,⟨[.string x.f0],[.int .i64 x.f1,.bool x.f2,.int .i64 x.f3,.int .u64 x.f4,.float .f64 x.f5,.string x.f6,.slice A7 x.f7.length c7],rfl,rfl,⟨[.int .i64 x.f1],[.bool x.f2,.int .i64 x.f3,.int .u64 x.f4,.float .f64 x.f5,.string x.f6,.slice A7 x.f7.length c7],rfl,rfl,⟨[.bool x.f2],[.int .i64 x.f3,.int .u64 x.f4,.float .f64 x.f5,.string x.f6,.slice A7 x.f7.length c7],rfl,rfl,⟨[.int .i64 x.f3],[.int .u64 x.f4,.float .f64 x.f5,.string x.f6,.slice A7 x.f7.length c7],rfl,rfl,⟨[.int .u64 x.f4],[.float .f64 x.f5,.string x.f6,.slice A7 x.f7.length c7],rfl,rfl,⟨[.float .f64 x.f5],[.string x.f6,.slice A7 x.f7.length c7],rfl,rfl,⟨[.string x.f6],[.slice A7 x.f7.length c7],rfl,rfl,⟨A7,c7,rfl,l7,r7⟩⟩⟩⟩⟩⟩⟩⟩⟩
theorem k38_mkM (w:World) (base:Nat) (ok:Nat→Prop) (x:S38) {v7:Value} (g7:k38.R 38 w base ok v7 x.f7):k38.M w base ok x [.string x.f0,.int .i64 x.f1,.bool x.f2,.int .i64 x.f3,.int .u64 x.f4,.float .f64 x.f5,.string x.f6,v7]:=by
 obtain ⟨n7,q7⟩:=Kd.yc5 mono38 g7
 have r7:=Kd.upto_R_le mono38 sz38 (show n7≤n7 by omega) q7
 exact ⟨n7+1,⟨[.string x.f0],[.int .i64 x.f1,.bool x.f2,.int .i64 x.f3,.int .u64 x.f4,.float .f64 x.f5,.string x.f6,v7],rfl,rfl,⟨[.int .i64 x.f1],[.bool x.f2,.int .i64 x.f3,.int .u64 x.f4,.float .f64 x.f5,.string x.f6,v7],rfl,rfl,⟨[.bool x.f2],[.int .i64 x.f3,.int .u64 x.f4,.float .f64 x.f5,.string x.f6,v7],rfl,rfl,⟨[.int .i64 x.f3],[.int .u64 x.f4,.float .f64 x.f5,.string x.f6,v7],rfl,rfl,⟨[.int .u64 x.f4],[.float .f64 x.f5,.string x.f6,v7],rfl,rfl,⟨[.float .f64 x.f5],[.string x.f6,v7],rfl,rfl,⟨[.string x.f6],[v7],rfl,rfl,⟨v7,rfl,r7⟩⟩⟩⟩⟩⟩⟩⟩⟩
theorem k38_mkF (W:World) (ok:Nat→Prop) (x:S38) {A7:Option Addr} {c7:Nat} (l7:x.f7.length≤c7) (g7:Kd.F k38 W ok A7 x.f7.length x.f7):Kd.FK k38 W ok x [.string x.f0,.int .i64 x.f1,.bool x.f2,.int .i64 x.f3,.int .u64 x.f4,.float .f64 x.f5,.string x.f6,.slice A7 x.f7.length c7]:=fun W2 hW=>k38_mk W2 x l7 (g7 W2 hW)
structure S34 where
 f0:ByteArray
 f1:Int
 f2:Bool
 f3:Int
 f4:Int
 f5:Nat
 f6:ByteArray
 f7:(List S34)
def z34:S34:=⟨(⟨#[]⟩:ByteArray),(0:Int),false,(0:Int),(0:Int),(0:Nat),(⟨#[]⟩:ByteArray),([]:List S34)⟩
def F34 (d:Kd S34):Kd S34:=Kd.iso (Kd.pair Kd.string (Kd.pair (Kd.int .i64) (Kd.pair Kd.bool (Kd.pair (Kd.int .i64) (Kd.pair (Kd.int .u64) (Kd.pair kd_f64 (Kd.pair Kd.string (Kd.slice 34 d)))))))) (fun x:S34=>(x.f0,x.f1,x.f2,x.f3,x.f4,x.f5,x.f6,x.f7))
theorem mono34:Kd.yan F34:=Kd.mono_iso _ (Kd.JE (Kd.Jm _) (Kd.JE (Kd.Jm _) (Kd.JE (Kd.Jm _) (Kd.JE (Kd.Jm _) (Kd.JE (Kd.Jm _) (Kd.JE (Kd.Jm _) (Kd.JE (Kd.Jm _) (Kd.yda 34 Kd.mono_id))))))))
theorem sub34:Kd.Sub F34 [34]:=Kd.sub_iso _ (Kd.JY (Kd.sub_const _ Zd) (Kd.JY (Kd.sub_const _ Zd) (Kd.JY (Kd.sub_const _ Zd) (Kd.JY (Kd.sub_const _ Zd) (Kd.JY (Kd.sub_const _ Zd) (Kd.JY (Kd.sub_const _ Zd) (Kd.JY (Kd.sub_const _ Zd) (Kd.sub_slice 34 Zd Kd.sub_id))))))))
theorem sz34:∀ n,(Kd.upto F34 8 [34] n).sz=8:=Kd.upto_sz (fun _=>rfl)
def k34:Kd S34:=Kd.fix F34 8 [34] sz34 (Kd.upto_E sub34)
theorem k34_open {w:World} {x:S34} {cs:List Value} (h:k34.K w x cs):∃ A7 c7,cs=[.string x.f0,.int .i64 x.f1,.bool x.f2,.int .i64 x.f3,.int .u64 x.f4,.float .f64 x.f5,.string x.f6,.slice A7 x.f7.length c7]∧x.f7.length≤c7∧k34.C w A7 x.f7.length x.f7:=by
 obtain ⟨n,h⟩:=h
 cases n with
 | zero=>exact h.elim
 | succ n=>
  obtain ⟨_,_,rfl,rfl,⟨_,_,rfl,rfl,⟨_,_,rfl,rfl,⟨_,_,rfl,rfl,⟨_,_,rfl,rfl,⟨_,_,rfl,rfl,⟨_,_,rfl,rfl,⟨A7,c7,rfl,l7,g7⟩⟩⟩⟩⟩⟩⟩⟩:=h
  exact ⟨A7,c7,rfl,l7,Kd.fix_C g7⟩
theorem ya1 (w:World) (base:Nat) (ok:Nat→Prop) (x:S34) {v7:Value} (g7:k34.R 34 w base ok v7 x.f7):k34.M w base ok x [.string x.f0,.int .i64 x.f1,.bool x.f2,.int .i64 x.f3,.int .u64 x.f4,.float .f64 x.f5,.string x.f6,v7]:=by
 obtain ⟨n7,q7⟩:=Kd.yc5 mono34 g7
 have r7:=Kd.upto_R_le mono34 sz34 (show n7≤n7 by omega) q7
 exact ⟨n7+1,⟨[.string x.f0],[.int .i64 x.f1,.bool x.f2,.int .i64 x.f3,.int .u64 x.f4,.float .f64 x.f5,.string x.f6,v7],rfl,rfl,⟨[.int .i64 x.f1],[.bool x.f2,.int .i64 x.f3,.int .u64 x.f4,.float .f64 x.f5,.string x.f6,v7],rfl,rfl,⟨[.bool x.f2],[.int .i64 x.f3,.int .u64 x.f4,.float .f64 x.f5,.string x.f6,v7],rfl,rfl,⟨[.int .i64 x.f3],[.int .u64 x.f4,.float .f64 x.f5,.string x.f6,v7],rfl,rfl,⟨[.int .u64 x.f4],[.float .f64 x.f5,.string x.f6,v7],rfl,rfl,⟨[.float .f64 x.f5],[.string x.f6,v7],rfl,rfl,⟨[.string x.f6],[v7],rfl,rfl,⟨v7,rfl,r7⟩⟩⟩⟩⟩⟩⟩⟩⟩
def yC (xs:List S34) (i:Int):S34:=xs.getD i.toNat z34
theorem at_T34 {w:World} {A:Option Addr} {n:Nat} {xs:List S34} (h:Kd.C k34 w A n xs) (i:Int) (h0:0≤i) (h1:i<n):∃ ad A7 c7,A=some ad∧w.cell? (ad.add (i.toNat * 8))=some (.string (yC xs i).f0)∧w.cell? ⟨(ad.add (i.toNat * 8)).block,(ad.add (i.toNat * 8)).off+1,none⟩=some (.int .i64 (yC xs i).f1)∧w.cell? ⟨(ad.add (i.toNat * 8)).block,(ad.add (i.toNat * 8)).off+2,none⟩=some (.bool (yC xs i).f2)∧w.cell? ⟨(ad.add (i.toNat * 8)).block,(ad.add (i.toNat * 8)).off+3,none⟩=some (.int .i64 (yC xs i).f3)∧w.cell? ⟨(ad.add (i.toNat * 8)).block,(ad.add (i.toNat * 8)).off+4,none⟩=some (.int .u64 (yC xs i).f4)∧w.cell? ⟨(ad.add (i.toNat * 8)).block,(ad.add (i.toNat * 8)).off+5,none⟩=some (.float .f64 (yC xs i).f5)∧w.cell? ⟨(ad.add (i.toNat * 8)).block,(ad.add (i.toNat * 8)).off+6,none⟩=some (.string (yC xs i).f6)∧w.cell? ⟨(ad.add (i.toNat * 8)).block,(ad.add (i.toNat * 8)).off+7,none⟩=some (.slice A7 (yC xs i).f7.length c7)∧(yC xs i).f7.length≤c7∧k34.C w A7 (yC xs i).f7.length (yC xs i).f7:=by
 obtain ⟨ad,c,e,_,hK,hc0⟩:=Kd.C_get h z34 i h0 h1
 have hc:∀ j u,c[j]?=some u→w.cell? (ad.add (i.toNat * 8+j))=some u:=hc0
 obtain ⟨A7,c7,rfl,l7,g7⟩:=k34_open hK
 exact ⟨ad,A7,c7,e,hc 0 _ rfl,by rw [← qt _ _ 1 Zo];exact hc 1 _ rfl,by rw [← qt _ _ 2 Zo];exact hc 2 _ rfl,by rw [← qt _ _ 3 Zo];exact hc 3 _ rfl,by rw [← qt _ _ 4 Zo];exact hc 4 _ rfl,by rw [← qt _ _ 5 Zo];exact hc 5 _ rfl,by rw [← qt _ _ 6 Zo];exact hc 6 _ rfl,by rw [← qt _ _ 7 Zo];exact hc 7 _ rfl,l7,g7⟩
structure S71 where
 f0:ByteArray
 f1:(List Int)
 f2:(List ByteArray)
def z71:S71:=⟨(⟨#[]⟩:ByteArray),([]:List Int),([]:List ByteArray)⟩
def k71:Kd S71:=Kd.iso (Kd.pair Kd.string (Kd.pair (Kd.slice 30 (Kd.int .u64)) (Kd.slice 9 Kd.string))) (fun x:S71=>(x.f0,x.f1,x.f2))
theorem k71_open {w:World} {x:S71} {cs:List Value} (h:k71.K w x cs):∃ A1 c1 A2 c2,cs=[.string x.f0,.slice A1 x.f1.length c1,.slice A2 x.f2.length c2]∧x.f1.length≤c1∧(Kd.int .u64).C w A1 x.f1.length x.f1∧x.f2.length≤c2∧Kd.string.C w A2 x.f2.length x.f2:=by
 obtain ⟨_,_,rfl,rfl,⟨_,_,rfl,⟨A1,c1,rfl,l1,g1⟩,⟨A2,c2,rfl,l2,g2⟩⟩⟩:=h
 exact ⟨A1,c1,A2,c2,rfl,l1,g1,l2,g2⟩
theorem k71_mk (w:World) (x:S71) {A1:Option Addr} {c1:Nat} (l1:x.f1.length≤c1) (g1:(Kd.int .u64).C w A1 x.f1.length x.f1) {A2:Option Addr} {c2:Nat} (l2:x.f2.length≤c2) (g2:Kd.string.C w A2 x.f2.length x.f2):k71.K w x [.string x.f0,.slice A1 x.f1.length c1,.slice A2 x.f2.length c2]:=⟨[.string x.f0],[.slice A1 x.f1.length c1,.slice A2 x.f2.length c2],rfl,rfl,⟨[.slice A1 x.f1.length c1],[.slice A2 x.f2.length c2],rfl,⟨A1,c1,rfl,l1,g1⟩,⟨A2,c2,rfl,l2,g2⟩⟩⟩
theorem k71_mkF (W:World) (ok:Nat→Prop) (x:S71) {A1:Option Addr} {c1:Nat} (l1:x.f1.length≤c1) (g1:Kd.F (Kd.int .u64) W ok A1 x.f1.length x.f1) {A2:Option Addr} {c2:Nat} (l2:x.f2.length≤c2) (g2:Kd.F Kd.string W ok A2 x.f2.length x.f2):Kd.FK k71 W ok x [.string x.f0,.slice A1 x.f1.length c1,.slice A2 x.f2.length c2]:=fun W2 hW=>k71_mk W2 x l1 (g1 W2 hW) l2 (g2 W2 hW)
def yj (xs:List S71) (i:Int):S71:=xs.getD i.toNat z71
theorem ybo {w:World} {A:Option Addr} {n:Nat} {xs:List S71} (h:Kd.C k71 w A n xs) (i:Int) (h0:0≤i) (h1:i<n):∃ ad A1 c1 A2 c2,A=some ad∧w.cell? (ad.add (i.toNat * 3))=some (.string (yj xs i).f0)∧w.cell? ⟨(ad.add (i.toNat * 3)).block,(ad.add (i.toNat * 3)).off+1,none⟩=some (.slice A1 (yj xs i).f1.length c1)∧w.cell? ⟨(ad.add (i.toNat * 3)).block,(ad.add (i.toNat * 3)).off+2,none⟩=some (.slice A2 (yj xs i).f2.length c2)∧(yj xs i).f1.length≤c1∧(Kd.int .u64).C w A1 (yj xs i).f1.length (yj xs i).f1∧(yj xs i).f2.length≤c2∧Kd.string.C w A2 (yj xs i).f2.length (yj xs i).f2:=by
 obtain ⟨ad,c,e,_,hK,hc0⟩:=Kd.C_get h z71 i h0 h1
 have hc:∀ j u,c[j]?=some u→w.cell? (ad.add (i.toNat * 3+j))=some u:=hc0
 obtain ⟨A1,c1,A2,c2,rfl,l1,g1,l2,g2⟩:=k71_open hK
 exact ⟨ad,A1,c1,A2,c2,e,hc 0 _ rfl,by rw [← qt _ _ 1 Zo];exact hc 1 _ rfl,by rw [← qt _ _ 2 Zo];exact hc 2 _ rfl,l1,g1,l2,g2⟩
end Go.Proofs.YtlmennkeggmdbaaGreatDoor
namespace Go.Proofs.YtlmennkeggmdbaaGreatDoor
open Go.RowKit Go.Proofs.YtlmennkeggmdbaaGreatDoorW.PrintWords Go.Proofs.YtlmennkeggmdbaaGreatDoorW.PrintLast Go.Proofs.YtlmennkeggmdbaaGreatDoorW.PrintMore
theorem ya {a:Act} {d:Nat} (v:Value) (h:d<a.tmps.size):(a.put (some d) v).eval (.tmp d)=v:=by
 simp [Act.put,Act.eval,h]
theorem yb {a:Act} {d k:Nat} (v:Value) (h:k≠d):(a.put (some d) v).eval (.tmp k)=a.eval (.tmp k):=by
 simp [Act.put,Act.eval,Array.getD_eq_getD_getElem?,Array.getElem?_setIfInBounds,Ne.symm h]
theorem size_put {a:Act} (d:Option Nat) (v:Value):(a.put d v).tmps.size=a.tmps.size:=by
 cases d <;> simp [Act.put]
theorem yJ {a:Act} (d:Option Nat) (v:Value):(a.put d v).defers=a.defers:=by
 cases d <;> rfl
section
variable {P:Program} {w:World} {ρ:Operand→Value}
theorem Y8 {s:Sem Value} {v:Value} {w1:World} (h:s.run P w=.ok v w1):(do pure (Next.value (← s)):Sem Next).run P w=.ok (.value v) w1:=by
 rw [Sem.run_bind,h];rfl
theorem op_skip {s:Sem Unit} {w1:World} (h:s.run P w=.ok () w1):(do s;pure Next.skip:Sem Next).run P w=.ok .skip w1:=by
 rw [Sem.run_bind,h];rfl
theorem yG {d ty pos aft gd} {T f:Nat} {x:Operand} {p:Value} {q:Value} (hx:ρ x=p) (hf:(Instr.fieldAt T p f).run P w=.ok q w) :
 (execOp ρ ⟨d,.fieldAddr T x f,ty,pos,aft,gd⟩).run P w=.ok (.value q) w:=by
 subst hx;exact Y8 hf
theorem run_load {d ty pos aft gd} {T:Nat} {x:Operand} {p:Value} {v:Value} (hx:ρ x=p) (hl:(Instr.loadAt T p).run P w=.ok v w) :
 (execOp ρ ⟨d,.load T x,ty,pos,aft,gd⟩).run P w=.ok (.value v) w:=by
 subst hx;exact Y8 hl
theorem ycA {d ty pos aft gd} {S T:Nat} {x:Operand} {p:Value} {v:Value} (hx:ρ x=p) (hl:(convert S T p).run P w=.ok v w) :
 (execOp ρ ⟨d,.convert S T x,ty,pos,aft,gd⟩).run P w=.ok (.value v) w:=by
 subst hx;exact Y8 hl
theorem run_store {d ty pos aft gd} {T:Nat} {x y:Operand} {p v:Value} {w1:World} (hx:ρ x=p) (hy:ρ y=v) (hl:(Instr.storeAt T p v).run P w=.ok () w1) :
 (execOp ρ ⟨d,.store T x y,ty,pos,aft,gd⟩).run P w=.ok .skip w1:=by
 subst hx hy;exact op_skip hl
end
theorem JH {P:Program} {ops:Array Oper} {rest:List Oper} {o:Oper} {a:Act} {Q:Exit→Act→World→Prop} {W w1:World} (hgd:o.guard=none) (hN:o.dst=none) (hrun:(execOp a.eval o).run P W=.ok .skip w1) (h:wpList P ops Q rest a w1):wpList P ops Q (o::rest) a W:=by
 refine wpList_plain hgd fun K hK=>?_
 unfold Oper.wp
 rw [hrun]
 refine hK _ _ ?_
 rw [hN]
 exact h
theorem run_lit1 {w:World} {cs:Array Value} {T e:Nat} {d ty pos aft gd} {x:Operand} {ρ:Operand→Value} {P:Program} (hx:ρ x=.agg cs)
 (hl:(Instr.buildSlice T 1 #[(0,.agg cs)]).run P w=.ok (.slice (some ⟨w.heap.size,0,none⟩) 1 1) (w.alloc (.cells cs e))) :
 (execOp ρ ⟨d,.buildSlice T 1 #[(0,x)],ty,pos,aft,gd⟩).run P w=.ok (.value (.slice (some ⟨w.heap.size,0,none⟩) 1 1)) (w.alloc (.cells cs e)):=by
 have:(execOp ρ ⟨d,.buildSlice T 1 #[(0,x)],ty,pos,aft,gd⟩)=(do pure (Next.value (← Instr.buildSlice T 1 #[(0,ρ x)])):Sem Next):=by simp [execOp]
 rw [this,hx];exact Y8 hl
theorem run_build3 {w:World} {cs:Array Value} {T i0 i1 i2:Nat} {d ty pos aft gd} {x y:Value} {z:Operand} {u:Value} {ρ:Operand→Value} {P:Program} (hc:∀ v,ρ (.const v)=v) (hz:ρ z=u)
 (hl:(Instr.build T #[(i0,x),(i1,y),(i2,u)]).run P w=.ok (.agg cs) w) :
 (execOp ρ ⟨d,.build T #[(i0,.const x),(i1,.const y),(i2,z)],ty,pos,aft,gd⟩).run P w=.ok (.value (.agg cs)) w:=by
 have:(execOp ρ ⟨d,.build T #[(i0,.const x),(i1,.const y),(i2,z)],ty,pos,aft,gd⟩)=(do pure (Next.value (← Instr.build T #[(i0,x),(i1,y),(i2,ρ z)])):Sem Next):=by simp [execOp,hc]
 rw [this,hz];exact Y8 hl
theorem run_move {P:Program} {w:World} {ρ:Operand→Value} {d ty pos aft gd} {x:Operand}:(execOp ρ ⟨d,.move x,ty,pos,aft,gd⟩).run P w=.ok (.value (ρ x)) w:=rfl
theorem run_assign {P:Program} {w:World} {ρ:Operand→Value} {d ty pos aft gd} {x:Operand}:(execOp ρ ⟨d,.assign x,ty,pos,aft,gd⟩).run P w=.ok (.value (ρ x)) w:=rfl
theorem results_eval {P:Program} {fn:Func} {t:Tmp} {a:Act} {v:Value} {w:World} (h:fn.results=#[.tmp t]) (hv:a.eval (.tmp t)=v):(results fn a.tmps).run P w=.ok v w:=by
 subst hv;exact results_tmp h a.tmps P w
theorem Jd {P:Program} {fn:Func} {R:Ending→World→Prop} {t:Tmp} {a:Act} {w:World} {v:Value} (h:fn.results=#[.tmp t]) (hd:a.defers=[]) (hv:a.eval (.tmp t)=v) (hR:R (.returned v) w):bodyPost P fn R .ret a w:=
 bodyPost_ret (results_eval h hv) hd hR
end Go.Proofs.YtlmennkeggmdbaaGreatDoor
namespace Go.Proofs.YtlmennkeggmdbaaGreatDoor
open Go.RowKit Go.Proofs.YtlmennkeggmdbaaGreatDoorW.PrintWords Go.Proofs.YtlmennkeggmdbaaGreatDoorW.PrintLast Go.Proofs.YtlmennkeggmdbaaGreatDoorW.PrintMore
abbrev Yl (nm:ByteArray) (v:Value):Array Value:=#[.string nm,.int .i64 8,.bool false,.int .i64 0,.int .u64 0,.float .f64 0,.string ⟨#[]⟩,v]
structure NS (w0 w:World) (g gr:Nat) (nm:ByteArray) (kids:List S34) (v:Value):Prop where
 own:Kd.R k34 34 w w0.heap.size (fun k=>k≠g∧k≠gr) v kids
 blk:w.heap[g]?=some (.cells (Yl nm v) 34 (0,0))
 res:∃ cs:Array Value,cs.size=8∧w.heap[gr]?=some (.cells cs 34 (0,0))
 ge:w0.heap.size≤g
 ger:w0.heap.size≤gr
 ne:g≠gr
 below:Below w0.heap.size w0 w
theorem Q0 (w:World) (g:Nat):(Instr.fieldAt 34 (.pointer (some ⟨g,0,none⟩)) 7).run Tryz.prog w=.ok (.pointer (some ⟨g,7,none⟩)) w:=by kernel_rfl
theorem run_lit34 (w:World) (x0 x1 x2 x3 x4 x5 x6 x7:Value):(Instr.buildSlice 32 1 #[(0,.agg #[x0,x1,x2,x3,x4,x5,x6,x7])]).run Tryz.prog w=.ok (.slice (some ⟨w.heap.size,0,none⟩) 1 1) (w.alloc (.cells #[x0,x1,x2,x3,x4,x5,x6,x7] 34)):=by kernel_rfl
theorem ya8 {w:World} {g:Nat} {v:Value} {cs:Array Value} (h:w.heap[g]?=some (.cells cs 34 (0,0))) (hv:cs[7]?=some v):(Instr.loadAt 32 (.pointer (some ⟨g,7,none⟩))).run Tryz.prog w=.ok v w:=by
 have hc:w.cell? ⟨g,7,none⟩=some v:=(yg h 7).trans hv
 simp [Instr.loadAt,Instr.sureAddr,go_sem,hc]
theorem run_st7 {w:World} {g:Nat} {A:Option Addr} {n c:Nat} {cs:Array Value} (h:w.heap[g]?=some (.cells cs 34 (0,0))) (hv:7<cs.size):(Instr.storeAt 32 (.pointer (some ⟨g,7,none⟩)) (.slice A n c)).run Tryz.prog w=.ok () (w.setCell ⟨g,7,none⟩ (.slice A n c)):=by
 have hc:w.cell? ⟨g,7,none⟩=some cs[7]:=(yg h 7).trans (by simp [hv])
 have hf:=yf h 7
 simp [Instr.storeAt,Instr.sureAddr,go_sem,hc,hf]
theorem app_tail {ops:Array Oper} {Q:Exit→Act→World→Prop} {a:Act} {w0 w:World} {g gr:Nat} {nm:ByteArray} {kids:List S34} {v:Value} {out s1 s5 s6 s7 s8:Nat} {d6 d7 d8 d9:TypeId} {p6 p7 p8 p9:String} {a6 a7 a8 a9:Array Edge}
 {node:S34} {cs:List Value} {x0 x1 x2 x3 x4 x5 x6 x7:Value} (hcs:cs=[x0,x1,x2,x3,x4,x5,x6,x7]) (hM:∀ w',Kd.M k34 w' w0.heap.size (fun k=>(k≠g∧k≠gr)∧some k≠v.ownBlock) node cs)
 (hS:NS w0 w g gr nm kids v) (hl:(kids.length+1) * 96≤140737488355328)
 (he1:a.eval (.tmp s1)=v) (he5:a.eval (.tmp s5)=.agg #[x0,x1,x2,x3,x4,x5,x6,x7]) (heo:a.eval (.tmp out)=.pointer (some ⟨g,0,none⟩))
 (h6:s6<a.tmps.size) (h7:s7<a.tmps.size) (h8:s8<a.tmps.size) (n16:s1≠s6) (no6:out≠s6) (no7:out≠s7) (n78:s7≠s8)
 (h:∀ a' w' v',a'.tmps.size=a.tmps.size→a'.defers=a.defers→(∀ j:Nat,j≠s6→j≠s7→j≠s8→a'.eval (.tmp j)=a.eval (.tmp j))→NS w0 w' g gr nm (kids++[node]) v' →
  (∀ (k:Nat) (c:Array Value) (t:TypeId),w.heap[k]?=some (Obj.cells c t (0,0))→t≠34→w'.heap[k]?=some (Obj.cells c t (0,0)))→Q .normal a' w') :
 wpList Tryz.prog ops Q [⟨some s6,.buildSlice 32 1 #[(0,.tmp s5)],d6,p6,a6,none⟩,⟨some s7,.call { callee:=.builtin .append,args:=#[.tmp s1,.tmp s6],argTypes:=#[32,32] },d7,p7,a7,none⟩,
  ⟨some s8,.fieldAddr 34 (.tmp out) 7,d8,p8,a8,none⟩,⟨none,.store 32 (.tmp s8) (.tmp s7),d9,p9,a9,none⟩] a w:=by
 subst hcs
 refine Kd.yB rfl (run_lit1 he5 (run_lit34 ..)) ?_
 refine Kd.qy k34 (w0:=w0) w0.heap.size rfl (.tmp s1) (.tmp s6) 32 34 (.agg #[(.string ⟨#[]⟩),(.int .i64 0),(.bool false),(.int .i64 0),(.int .u64 0),(.float .f64 0),(.string ⟨#[]⟩),(.slice none 0 0)]) 96 rfl Tryz.underlying32 info34 rfl Zd Zo
  v kids node [x0,x1,x2,x3,x4,x5,x6,x7] (fun k=>k≠g∧k≠gr) (fun k=>(k≠g∧k≠gr)∧some k≠v.ownBlock) ?_ ?_ (hM _) (fun _ hk=>hk) ?_ hS.own hS.below (yt hS.below) hl ?_
 · rw [yb _ n16];exact he1
 · rw [ya _ h6]
 · obtain ⟨cr,_,hr⟩:=hS.res
   exact fun k hk=>⟨by have:=YQ hS.blk;omega,by have:=YQ hr;omega⟩
 intro v1 w1 hR hb hg hat
 have hbg:=YV hS.blk hg (Kd.Q7 hS.own (fun k hk=>hk.1))
 obtain ⟨cr,hcr,hr⟩:=hS.res
 have hbr:=YV hr hg (Kd.Q7 hS.own (fun k hk=>hk.2))
 obtain ⟨A,c,hv1⟩:=Kd.YF hR
 subst hv1
 refine Kd.yB rfl (yG (p:=.pointer (some ⟨g,0,none⟩)) ?_ (Q0 ..)) ?_
 · rw [yb _ no7,yb _ no6];exact heo
 refine JH rfl rfl (run_store (p:=.pointer (some ⟨g,7,none⟩)) (v:=.slice A (kids++[node]).length c) ?_ ?_ (run_st7 hbg (by simp))) ?_
 · rw [ya];simpa only [size_put] using h8
 · rw [yb _ n78,ya];simpa only [size_put] using h7
 refine h _ _ (.slice A (kids++[node]).length c) ?_ rfl ?_ ⟨?_,?_,⟨cr,hcr,?_⟩,hS.ge,hS.ger,hS.ne,yu hb hS.ge⟩ ?_
 · simp only [size_put]
 · intro j j6 j7 j8
   rw [yb _ j8,yb _ j7,yb _ j6]
 · exact Kd.YN hR (p:=⟨g,7,none⟩) (fun k hk=>hk.1) _
 · exact yy hbg 7 _ rfl
 · exact yH hbr (fun e=>hS.ne e.symm) _
 · intro k c' t hk ht
   have hkg:k≠g:=blk_ne hk hS.blk ht
   refine yH ((hg.block k (YQ hk) fun e=>?_).trans hk) hkg _
   obtain ⟨cells,hc⟩:=Kd.yap hS.own k e.symm
   rw [hk] at hc
   injection hc with hc
   injection hc with _ hc
   exact ht hc
theorem Jz {T:Nat} {w:World} {g i:Nat} {v:Value} {cs:Array Value} {t:TypeId} (hT:∀ (w:World),(isAgg T).run Tryz.prog w=.ok false w) (h:w.heap[g]?=some (.cells cs t (0,0))) (hv:cs[i]?=some v):(Instr.loadAt T (.pointer (some ⟨g,i,none⟩))).run Tryz.prog w=.ok v w:=by
 have hc:w.cell? ⟨g,i,none⟩=some v:=(yg h i).trans hv
 simp [Instr.loadAt,Instr.sureAddr,go_sem,hc,hT]
theorem yaC {P:Program} {w w1:World} {ρ:Operand→Value} {d ty pos aft gd} {T:Nat} {x:Operand} {u v:Value} (hx:ρ x=u) (hl:(Instr.box T u).run P w=.ok v w1) :
 (execOp ρ ⟨d,.box T x,ty,pos,aft,gd⟩).run P w=.ok (.value v) w1:=by
 subst hx;exact Y8 hl
theorem YT {P:Program} {w w1:World} {ρ:Operand→Value} {d ty pos aft gd} {T:Nat} {v:Value} (hl:(Instr.alloc T true (.tuple #[])).run P w=.ok v w1) :
 (execOp ρ ⟨d,.alloc T,ty,pos,aft,gd⟩).run P w=.ok (.value v) w1:=Y8 hl
theorem Jh (w:World):(Instr.alloc 34 true (.tuple #[])).run Tryz.prog w=.ok (.pointer (some ⟨w.heap.size,0,none⟩)) (w.alloc (.cells #[.string ⟨#[]⟩,.int .i64 0,.bool false,.int .i64 0,.int .u64 0,.float .f64 0,.string ⟨#[]⟩,.slice none 0 0] 34)):=by kernel_rfl
theorem run_build2 {w:World} {cs:Array Value} {T i0 i1:Nat} {d ty pos aft gd} {y:Value} {z:Operand} {u:Value} {ρ:Operand→Value} {P:Program} (hc:∀ v,ρ (.const v)=v) (hz:ρ z=u)
 (hl:(Instr.build T #[(i0,u),(i1,y)]).run P w=.ok (.agg cs) w) :
 (execOp ρ ⟨d,.build T #[(i0,z),(i1,.const y)],ty,pos,aft,gd⟩).run P w=.ok (.value (.agg cs)) w:=by
 have:(execOp ρ ⟨d,.build T #[(i0,z),(i1,.const y)],ty,pos,aft,gd⟩)=(do pure (Next.value (← Instr.build T #[(i0,ρ z),(i1,y)])):Sem Next):=by simp [execOp,hc]
 rw [this,hz];exact Y8 hl
end Go.Proofs.YtlmennkeggmdbaaGreatDoor
namespace Go.Proofs.YtlmennkeggmdbaaGreatDoor
open Go.RowKit Go.Proofs.YtlmennkeggmdbaaGreatDoorW.PrintWords Go.Proofs.YtlmennkeggmdbaaGreatDoorW.PrintLast Go.Proofs.YtlmennkeggmdbaaGreatDoorW.PrintMore
set_option maxHeartbeats 2000000 in
theorem J3 {w:World} {g:Nat} {cs0:Array Value} {s1 s2:ByteArray} {k i u:Int} {b:Bool} {f:Nat} {A:Option Addr} {n c:Nat} (h:w.heap[g]?=some (.cells cs0 34 (0,0))) (h8:cs0.size=8) :
 ∃ w1,(Instr.storeAt 34 (.pointer (some ⟨g,0,none⟩)) (.agg #[.string s1,.int .i64 k,.bool b,.int .i64 i,.int .u64 u,.float .f64 f,.string s2,.slice A n c])).run Tryz.prog w=.ok () w1 ∧
  w1.heap[g]?=some (.cells #[.string s1,.int .i64 k,.bool b,.int .i64 i,.int .u64 u,.float .f64 f,.string s2,.slice A n c] 34 (0,0))∧(∀ j,j≠g→w1.heap[j]?=w.heap[j]?)∧(∀ B w0,B≤g→Below B w0 w→Below B w0 w1):=by
 obtain ⟨x0,x1,x2,x3,x4,x5,x6,x7,rfl⟩:∃ x0 x1 x2 x3 x4 x5 x6 x7,cs0=#[x0,x1,x2,x3,x4,x5,x6,x7]:=by
  obtain ⟨l⟩:=cs0
  match l,h8 with
  | [x0,x1,x2,x3,x4,x5,x6,x7],_=>exact ⟨x0,x1,x2,x3,x4,x5,x6,x7,rfl⟩
 have c0:w.cell? ⟨g,0,none⟩=some x0:=(yg h 0).trans rfl
 have c1:w.cell? ⟨g,1,none⟩=some x1:=(yg h 1).trans rfl
 have c2:w.cell? ⟨g,2,none⟩=some x2:=(yg h 2).trans rfl
 have c3:w.cell? ⟨g,3,none⟩=some x3:=(yg h 3).trans rfl
 have c4:w.cell? ⟨g,4,none⟩=some x4:=(yg h 4).trans rfl
 have c5:w.cell? ⟨g,5,none⟩=some x5:=(yg h 5).trans rfl
 have c6:w.cell? ⟨g,6,none⟩=some x6:=(yg h 6).trans rfl
 have c7:w.cell? ⟨g,7,none⟩=some x7:=(yg h 7).trans rfl
 have z0:=yf h 0;have z1:=yf h 1;have z2:=yf h 2;have z3:=yf h 3;have z4:=yf h 4;have z5:=yf h 5;have z6:=yf h 6;have z7:=yf h 7
 refine ⟨_,by simp [Instr.storeAt,Instr.sureAddr,go_sem,c0,c1,c2,c3,c4,c5,c6,c7,z0,z1,z2,z3,z4,z5,z6,z7];rfl,?_,?_,?_⟩
 · exact yy (yy (yy (yy (yy (yy (yy (yy h 0 _ rfl) 1 _ rfl) 2 _ rfl) 3 _ rfl) 4 _ rfl) 5 _ rfl) 6 _ rfl) 7 _ rfl
 · intro j hj
   simp only [Below.heap_setCell _ _ _ _ (show j≠(⟨g,_,none⟩:Addr).block from hj)]
 · intro B w0 hB hb
   exact (((((((hb.setCell hB _).setCell hB _).setCell hB _).setCell hB _).setCell hB _).setCell hB _).setCell hB _).setCell hB _
end Go.Proofs.YtlmennkeggmdbaaGreatDoor
namespace Go.Proofs.YtlmennkeggmdbaaGreatDoor
open Go.RowKit Go.Proofs.YtlmennkeggmdbaaGreatDoorW.PrintWords Go.Proofs.YtlmennkeggmdbaaGreatDoorW.PrintLast Go.Proofs.YtlmennkeggmdbaaGreatDoorW.PrintMore
theorem run_bout (w:World) (nm:ByteArray):(Instr.build 34 #[(0,.string nm),(1,.int .i64 8)]).run Tryz.prog w=.ok (.agg (Yl nm (.slice none 0 0))) w:=by kernel_rfl
theorem ybv {i0 i1:Nat} {Q:Exit→Act→World→Prop} {rest:Code} {a:Act} {w:World} {onm:ByteArray} {T:Nat} {avals vals:Array Value}
 {d0 d1 d2 d3 d4 d5:TypeId} {p0 p1 p2 p3 p4 p5:String} {a0 a1 a2 a3 a4 a5:Array Edge}
 (hbox:∀ W:World,(Instr.box T (.agg avals)).run Tryz.prog W=.ok (.pointer (some ⟨W.heap.size,0,none⟩)) (W.alloc (.cells vals T))) (hsz:7<a.tmps.size)
 (e0:a.eval (.tmp 0)=.string onm) (e1:a.eval (.tmp 1)=.agg avals)
 (h:∀ a' w' g gr gv v',a'.tmps.size=a.tmps.size→a'.defers=a.defers→a'.eval (.tmp 3)=.pointer (some ⟨gv,0,none⟩)→a'.eval (.tmp 4)=.pointer (some ⟨gr,0,none⟩)→a'.eval (.tmp 5)=.pointer (some ⟨g,0,none⟩) →
  w'.heap[gv]?=some (.cells vals T (0,0))→NS w w' g gr onm [] v'→rest.wp Tryz.prog Q a' w') :
 (Code.seq (.region i0 #[⟨some 3,.box T (.tmp 1),d0,p0,a0,none⟩,⟨some 4,.alloc 34,d1,p1,a1,none⟩] false)
  (Code.seq (.region i1 #[⟨some 6,.move (.tmp 0),d2,p2,a2,none⟩,⟨some 7,.build 34 #[(0,.tmp 6),(1,.const (.int .i64 8))],d3,p3,a3,none⟩,⟨some 5,.alloc 34,d4,p4,a4,none⟩,⟨none,.store 34 (.tmp 5) (.tmp 7),d5,p5,a5,none⟩] false) rest)).wp Tryz.prog Q a w:=by
 refine wp_seq ?_
 refine wp_region_list ?_
 refine Kd.yB rfl (yaC e1 (hbox _)) ?_
 refine Kd.yB rfl (YT (Jh _)) ?_
 refine wpList_nil ?_
 refine wp_seq ?_
 refine wp_region_list ?_
 refine Kd.yB rfl run_move ?_
 refine Kd.yB rfl (run_build2 (fun _=>rfl) (u:=.string onm) ?_ (run_bout ..)) ?_
 · rw [ya _ Zs,yb _ Zo,yb _ Zo];exact e0
 refine Kd.yB rfl (YT (Jh _)) ?_
 have hv0:=YP w (.cells vals T (0,0))
 have hr0:=YP (w.alloc (.cells vals T (0,0))) (.cells #[.string ⟨#[]⟩,.int .i64 0,.bool false,.int .i64 0,.int .u64 0,.float .f64 0,.string ⟨#[]⟩,.slice none 0 0] 34 (0,0))
 have hg0:=YP ((w.alloc (.cells vals T (0,0))).alloc (.cells #[.string ⟨#[]⟩,.int .i64 0,.bool false,.int .i64 0,.int .u64 0,.float .f64 0,.string ⟨#[]⟩,.slice none 0 0] 34 (0,0))) (.cells #[.string ⟨#[]⟩,.int .i64 0,.bool false,.int .i64 0,.int .u64 0,.float .f64 0,.string ⟨#[]⟩,.slice none 0 0] 34 (0,0))
 have hB3:Below w.heap.size w (((w.alloc (.cells vals T (0,0))).alloc (.cells #[.string ⟨#[]⟩,.int .i64 0,.bool false,.int .i64 0,.int .u64 0,.float .f64 0,.string ⟨#[]⟩,.slice none 0 0] 34 (0,0))).alloc (.cells #[.string ⟨#[]⟩,.int .i64 0,.bool false,.int .i64 0,.int .u64 0,.float .f64 0,.string ⟨#[]⟩,.slice none 0 0] 34 (0,0))):=
  yl (yl (yl (Below.refl _ _) _) _) _
 obtain ⟨w1,hrun,hb1,hoth,hbel⟩:=J3 (s1:=onm) (k:=8) (b:=false) (i:=0) (u:=0) (f:=0) (s2:=⟨#[]⟩) (A:=none) (n:=0) (c:=0) hg0 rfl
 have hs1:(w.alloc (.cells vals T (0,0))).heap.size=w.heap.size+1:=by simp
 have hs2:((w.alloc (.cells vals T (0,0))).alloc (.cells #[.string ⟨#[]⟩,.int .i64 0,.bool false,.int .i64 0,.int .u64 0,.float .f64 0,.string ⟨#[]⟩,.slice none 0 0] 34 (0,0))).heap.size=w.heap.size+2:=by simp
 refine JH rfl rfl (run_store (ya _ Zs) ?_ hrun) ?_
 · rw [yb _ Zo,ya _ Zs]
 refine wpList_nil ?_
 refine h _ _ _ _ w.heap.size (.slice none 0 0) (by simp only [size_put]) (by simp only [yJ]) ?_ ?_ ?_ ?_ ⟨Kd.qm _ _ _ _ _,hb1,⟨_,rfl,(hoth _ Zo).trans (Yw hr0 _)⟩,by omega,by omega,by omega,hbel _ _ Zo hB3⟩
 · rw [yb _ Zo,yb _ Zo,yb _ Zo,yb _ Zo,ya _ Zo]
 · rw [yb _ Zo,yb _ Zo,yb _ Zo,ya _ Zs]
 · rw [ya _ Zs]
 · exact (hoth _ Zo).trans (Yw (Yw hv0 _) _)
theorem yaa {fn:Func} {R:Ending→World→Prop} {t:Tmp} {a:Act} {w:World} {g:Nat} {cs:Array Value} (h:fn.results=#[.cell t 34]) (hd:a.defers=[]) (hv:a.eval (.tmp t)=.pointer (some ⟨g,0,none⟩))
 (hb:w.heap[g]?=some (.cells cs 34 (0,0))) (h8:cs.size=8) (hR:R (.returned (.agg cs)) w):bodyPost Tryz.prog fn R .ret a w:=by
 refine bodyPost_ret (v:=.agg cs) ?_ hd hR
 exact results_cell_row h a.tmps w g 34 cs (0,0) _ hv hb Tryz.underlying34 rfl (by rw [h8];kernel_rfl)
theorem node_end {id k:Nat} {fn:Func} {R:Ending→World→Prop} {a:Act} {w0 w:World} {g gr:Nat} {onm:ByteArray} {kids:List S34} {v:Value} {d0 d1:TypeId} {p0 p1:String} {a0 a1:Array Edge}
 (hres:fn.results=#[.cell 4 34]) (hk:5<k) (hsz:k<a.tmps.size) (hd:a.defers=[]) (e4:a.eval (.tmp 4)=.pointer (some ⟨gr,0,none⟩)) (e5:a.eval (.tmp 5)=.pointer (some ⟨g,0,none⟩)) (hS:NS w0 w g gr onm kids v)
 (hR:∀ w' v',Kd.R k34 34 w' w0.heap.size (fun _=>True) v' kids→Below w0.heap.size w0 w'→R (.returned (.agg (Yl onm v'))) w') :
 (Code.seq (.region id #[⟨some k,.load 34 (.tmp 5),d0,p0,a0,none⟩,⟨none,.store 34 (.tmp 4) (.tmp k),d1,p1,a1,none⟩] false) .ret).wp Tryz.prog (bodyPost Tryz.prog fn R) a w:=by
 refine wp_seq ?_
 refine wp_region_list ?_
 obtain ⟨A,c,hv1⟩:=Kd.YF hS.own
 subst hv1
 refine Kd.yB rfl (run_load e5 (v:=.agg (Yl onm (.slice A kids.length c))) ?_) ?_
 · exact run_loadVar_row w g 34 34 _ (0,0) _ hS.blk Tryz.underlying34 rfl Zk
 obtain ⟨cr,hcr,hr⟩:=hS.res
 obtain ⟨w1,hrun,hb1,hoth,hbel⟩:=J3 (s1:=onm) (k:=8) (b:=false) (i:=0) (u:=0) (f:=0) (s2:=⟨#[]⟩) (A:=A) (n:=kids.length) (c:=c) hr hcr
 refine JH rfl rfl (run_store ((yb _ Zo).trans e4) (ya _ hsz) hrun) ?_
 refine wpList_nil ?_
 refine wp_ret ?_
 refine yaa hres (by simp only [yJ];exact hd) ?_ hb1 rfl ?_
 · rw [yb _ Zo];exact e4
 · exact hR _ _ (Kd.Yr (Kd.qn hS.own (fun j hj _=>hoth j hj.2)) (fun _ _=>trivial)) (hbel _ _ hS.ger hS.below)
end Go.Proofs.YtlmennkeggmdbaaGreatDoor
