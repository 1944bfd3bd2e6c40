/- Part 4 of 44 of the proof of the tied card of FnXfsRead. -/
import Derived.Test.YtdcaggoicdfehaaGreatDoorVz
import Derived.Test.YtdcaggoicdfehaaGreatDoorProg
import Derived.Below
import Derived.Deep.Draws
import Derived.Deep.AppendLies
import Derived.Maps.AppendAt
import Derived.OwnWalk
import Derived.Laws.BytesArg
import Derived.Laws.MakeOwn
import Derived.Laws.OwnMore
import Derived.Deep.OwnRows
import Derived.Tactics
import Derived.Lib.ConvBytes
import Derived.Laws.Slices
import Derived.WalkKit
import Derived.KernelRfl
import Derived.RowKit3
import Derived.Deep.LoopGhost
import Derived.Deep.QuietTactic
import Derived.BigQuiet
import Derived.WideLaws
import Derived.Deep.DeepCutAuto
import Derived.Deep.CutBlock
import Derived.Deep.RegionHeld3
import Derived.Laws.Rows
import Derived.Lib.AppendStr
import Derived.ArgAppend
import Derived.Laws.IdiomCopy
import Derived.OrdersHeld
import Derived.Laws.BitsLemmas
import Derived.RowKit
import Derived.Laws.Cover2
import Derived.Laws.FloatArith
import Derived.Test.YtdcaggoicdfehaaGreatDoorV0
import Derived.Test.YtdcaggoicdfehaaGreatDoorV1
import Derived.Test.YtdcaggoicdfehaaGreatDoorV2
import Derived.Test.YtdcaggoicdfehaaGreatDoorV3
set_option linter.unusedVariables false
set_option linter.unusedSimpArgs false
namespace Go.Proofs.YtdcaggoicdfehaaGreatDoor
open Go.RowKit Go.Proofs.YtdcaggoicdfehaaGreatDoorW.PrintWords Go.Proofs.YtdcaggoicdfehaaGreatDoorW.PrintLast Go.Proofs.YtdcaggoicdfehaaGreatDoorW.PrintMore
attribute [local go_sem] YX YV Ja Jb YK YL YW YU
def errW:Option Int→Value
 | none=>.nilIface
 | some c=>.iface 0 (.int .i64 c)
theorem yP:errW none=.nilIface:=rfl
theorem yO (c:Int):errW (some c)=.iface 0 (.int .i64 c):=rfl
def kd_f64:Kd Nat:=Kd.scalar (Value.float .f64) (fun _=>rfl)
theorem yx (l:List UInt8):(l != [])=!l.isEmpty:=by cases l <;> rfl
@[go_sem] theorem run_store_float {P:Program} {w:World} {a:Addr} {m:Mode} (k:FloatKind) (b:Nat):(store a (.float k b) m).run P w=stored P w a (.float k b) m:=run_store P w a _ m rfl
theorem info9:(Tryz.prog.info? 9).map (fun i=>(i.zero,i.size,i.bytes))=some (some (.string ⟨#[]⟩),1,16):=by kernel_rfl
theorem info30:(Tryz.prog.info? 30).map (fun i=>(i.zero,i.size,i.bytes))=some (some (.int .u64 0),1,8):=by kernel_rfl
theorem info34:(Tryz.prog.info? 34).map (fun i=>(i.zero,i.size,i.bytes))=some (some (.agg #[(.string ⟨#[]⟩),(.int .i64 0),(.bool false),(.int .i64 0),(.int .u64 0),(.float .f64 0),(.string ⟨#[]⟩),(.slice none 0 0)]),8,96):=by kernel_rfl
theorem info38:(Tryz.prog.info? 38).map (fun i=>(i.zero,i.size,i.bytes))=some (some (.agg #[(.string ⟨#[]⟩),(.int .i64 0),(.bool false),(.int .i64 0),(.int .u64 0),(.float .f64 0),(.string ⟨#[]⟩),(.slice none 0 0)]),8,96):=by kernel_rfl
theorem info56:(Tryz.prog.info? 56).map (fun i=>(i.zero,i.size,i.bytes))=some (some (.agg #[(.string ⟨#[]⟩),(.slice none 0 0),(.slice none 0 0)]),3,64):=by kernel_rfl
structure S38 where
 f0:ByteArray
 f1:Int
 f2:Bool
 f3:Int
 f4:Int
 f5:Nat
 f6:ByteArray
 f7:(List S38)
def z38:S38:=⟨(⟨#[]⟩:ByteArray),(0:Int),false,(0:Int),(0:Int),(0:Nat),(⟨#[]⟩:ByteArray),([]:List S38)⟩
def F38 (d:Kd S38):Kd S38:=Kd.iso (Kd.pair Kd.string (Kd.pair (Kd.int .i64) (Kd.pair Kd.bool (Kd.pair (Kd.int .i64) (Kd.pair (Kd.int .u64) (Kd.pair kd_f64 (Kd.pair Kd.string (Kd.slice 38 d)))))))) (fun x:S38=>(x.f0,x.f1,x.f2,x.f3,x.f4,x.f5,x.f6,x.f7))
theorem mono38:Kd.yaB F38:=Kd.mono_iso _ (Kd.JI (Kd.Jz _) (Kd.JI (Kd.Jz _) (Kd.JI (Kd.Jz _) (Kd.JI (Kd.Jz _) (Kd.JI (Kd.Jz _) (Kd.JI (Kd.Jz _) (Kd.JI (Kd.Jz _) (Kd.ycV 38 Kd.mono_id))))))))
theorem sub38:Kd.Sub F38 [38]:=Kd.sub_iso _ (Kd.J3 (Kd.sub_const _ Zd) (Kd.J3 (Kd.sub_const _ Zd) (Kd.J3 (Kd.sub_const _ Zd) (Kd.J3 (Kd.sub_const _ Zd) (Kd.J3 (Kd.sub_const _ Zd) (Kd.J3 (Kd.sub_const _ Zd) (Kd.J3 (Kd.sub_const _ Zd) (Kd.sub_slice 38 Zd Kd.sub_id))))))))
theorem sz38:∀ n,(Kd.upto F38 8 [38] n).sz=8:=Kd.upto_sz (fun _=>rfl)
def k38:Kd S38:=Kd.fix F38 8 [38] sz38 (Kd.upto_E sub38)
theorem k38_open {w:World} {x:S38} {cs:List Value} (h:k38.K w x cs):∃ A7 c7,cs=[.string x.f0,.int .i64 x.f1,.bool x.f2,.int .i64 x.f3,.int .u64 x.f4,.float .f64 x.f5,.string x.f6,.slice A7 x.f7.length c7]∧x.f7.length≤c7∧k38.C w A7 x.f7.length x.f7:=by
 obtain ⟨n,h⟩:=h
 cases n with
 | zero=>exact h.elim
 | succ n=>
  obtain ⟨_,_,rfl,rfl,⟨_,_,rfl,rfl,⟨_,_,rfl,rfl,⟨_,_,rfl,rfl,⟨_,_,rfl,rfl,⟨_,_,rfl,rfl,⟨_,_,rfl,rfl,⟨A7,c7,rfl,l7,g7⟩⟩⟩⟩⟩⟩⟩⟩:=h
  exact ⟨A7,c7,rfl,l7,Kd.fix_C g7⟩
theorem k38_mk (w:World) (x:S38) {A7:Option Addr} {c7:Nat} (l7:x.f7.length≤c7) (g7:k38.C w A7 x.f7.length x.f7):k38.K w x [.string x.f0,.int .i64 x.f1,.bool x.f2,.int .i64 x.f3,.int .u64 x.f4,.float .f64 x.f5,.string x.f6,.slice A7 x.f7.length c7]:=by
 obtain ⟨n7,q7⟩:=Kd.fix_C_back mono38 g7
 have r7:=Kd.upto_C_le mono38 sz38 (show n7≤n7 by omega) q7
 exact ⟨n7+1,⟨[.string x.f0],[.int .i64 x.f1,.bool x.f2,.int .i64 x.f3,.int .u64 x.f4,.float .f64 x.f5,.string x.f6,.slice A7 x.f7.length c7],rfl,rfl,⟨[.int .i64 x.f1],[.bool x.f2,.int .i64 x.f3,.int .u64 x.f4,.float .f64 x.f5,.string x.f6,.slice A7 x.f7.length c7],rfl,rfl,⟨[.bool x.f2],[.int .i64 x.f3,.int .u64 x.f4,.float .f64 x.f5,.string x.f6,.slice A7 x.f7.length c7],rfl,rfl,⟨[.int .i64 x.f3],[.int .u64 x.f4,.float .f64 x.f5,.string x.f6,.slice A7 x.f7.length c7],rfl,rfl,⟨[.int .u64 x.f4],[.float .f64 x.f5,.string x.f6,.slice A7 x.f7.length c7],rfl,rfl,⟨[.float .f64 x.f5],[.string x.f6,.slice A7 x.f7.length c7],rfl,rfl,⟨[.string x.f6],[.slice A7 x.f7.length c7],rfl,rfl,⟨A7,c7,rfl,l7,r7⟩⟩⟩⟩⟩⟩⟩⟩⟩
theorem k38_mkM (w:World) (base:Nat) (ok:Nat→Prop) (x:S38) {v7:Value} (g7:k38.R 38 w base ok v7 x.f7):k38.M w base ok x [.string x.f0,.int .i64 x.f1,.bool x.f2,.int .i64 x.f3,.int .u64 x.f4,.float .f64 x.f5,.string x.f6,v7]:=by
 obtain ⟨n7,q7⟩:=Kd.yc6 mono38 g7
 have r7:=Kd.upto_R_le mono38 sz38 (show n7≤n7 by omega) q7
 exact ⟨n7+1,⟨[.string x.f0],[.int .i64 x.f1,.bool x.f2,.int .i64 x.f3,.int .u64 x.f4,.float .f64 x.f5,.string x.f6,v7],rfl,rfl,⟨[.int .i64 x.f1],[.bool x.f2,.int .i64 x.f3,.int .u64 x.f4,.float .f64 x.f5,.string x.f6,v7],rfl,rfl,⟨[.bool x.f2],[.int .i64 x.f3,.int .u64 x.f4,.float .f64 x.f5,.string x.f6,v7],rfl,rfl,⟨[.int .i64 x.f3],[.int .u64 x.f4,.float .f64 x.f5,.string x.f6,v7],rfl,rfl,⟨[.int .u64 x.f4],[.float .f64 x.f5,.string x.f6,v7],rfl,rfl,⟨[.float .f64 x.f5],[.string x.f6,v7],rfl,rfl,⟨[.string x.f6],[v7],rfl,rfl,⟨v7,rfl,r7⟩⟩⟩⟩⟩⟩⟩⟩⟩
theorem k38_mkF (W:World) (ok:Nat→Prop) (x:S38) {A7:Option Addr} {c7:Nat} (l7:x.f7.length≤c7) (g7:Kd.F k38 W ok A7 x.f7.length x.f7):Kd.FK k38 W ok x [.string x.f0,.int .i64 x.f1,.bool x.f2,.int .i64 x.f3,.int .u64 x.f4,.float .f64 x.f5,.string x.f6,.slice A7 x.f7.length c7]:=fun W2 hW=>k38_mk W2 x l7 (g7 W2 hW)
structure S34 where
 f0:ByteArray
 f1:Int
 f2:Bool
 f3:Int
 f4:Int
 f5:Nat
 f6:ByteArray
 f7:(List S34)
def z34:S34:=⟨(⟨#[]⟩:ByteArray),(0:Int),false,(0:Int),(0:Int),(0:Nat),(⟨#[]⟩:ByteArray),([]:List S34)⟩
def F34 (d:Kd S34):Kd S34:=Kd.iso (Kd.pair Kd.string (Kd.pair (Kd.int .i64) (Kd.pair Kd.bool (Kd.pair (Kd.int .i64) (Kd.pair (Kd.int .u64) (Kd.pair kd_f64 (Kd.pair Kd.string (Kd.slice 34 d)))))))) (fun x:S34=>(x.f0,x.f1,x.f2,x.f3,x.f4,x.f5,x.f6,x.f7))
theorem mono34:Kd.yaB F34:=Kd.mono_iso _ (Kd.JI (Kd.Jz _) (Kd.JI (Kd.Jz _) (Kd.JI (Kd.Jz _) (Kd.JI (Kd.Jz _) (Kd.JI (Kd.Jz _) (Kd.JI (Kd.Jz _) (Kd.JI (Kd.Jz _) (Kd.ycV 34 Kd.mono_id))))))))
theorem sub34:Kd.Sub F34 [34]:=Kd.sub_iso _ (Kd.J3 (Kd.sub_const _ Zd) (Kd.J3 (Kd.sub_const _ Zd) (Kd.J3 (Kd.sub_const _ Zd) (Kd.J3 (Kd.sub_const _ Zd) (Kd.J3 (Kd.sub_const _ Zd) (Kd.J3 (Kd.sub_const _ Zd) (Kd.J3 (Kd.sub_const _ Zd) (Kd.sub_slice 34 Zd Kd.sub_id))))))))
theorem sz34:∀ n,(Kd.upto F34 8 [34] n).sz=8:=Kd.upto_sz (fun _=>rfl)
def k34:Kd S34:=Kd.fix F34 8 [34] sz34 (Kd.upto_E sub34)
theorem k34_open {w:World} {x:S34} {cs:List Value} (h:k34.K w x cs):∃ A7 c7,cs=[.string x.f0,.int .i64 x.f1,.bool x.f2,.int .i64 x.f3,.int .u64 x.f4,.float .f64 x.f5,.string x.f6,.slice A7 x.f7.length c7]∧x.f7.length≤c7∧k34.C w A7 x.f7.length x.f7:=by
 obtain ⟨n,h⟩:=h
 cases n with
 | zero=>exact h.elim
 | succ n=>
  obtain ⟨_,_,rfl,rfl,⟨_,_,rfl,rfl,⟨_,_,rfl,rfl,⟨_,_,rfl,rfl,⟨_,_,rfl,rfl,⟨_,_,rfl,rfl,⟨_,_,rfl,rfl,⟨A7,c7,rfl,l7,g7⟩⟩⟩⟩⟩⟩⟩⟩:=h
  exact ⟨A7,c7,rfl,l7,Kd.fix_C g7⟩
theorem ybj (w:World) (base:Nat) (ok:Nat→Prop) (x:S34) {v7:Value} (g7:k34.R 34 w base ok v7 x.f7):k34.M w base ok x [.string x.f0,.int .i64 x.f1,.bool x.f2,.int .i64 x.f3,.int .u64 x.f4,.float .f64 x.f5,.string x.f6,v7]:=by
 obtain ⟨n7,q7⟩:=Kd.yc6 mono34 g7
 have r7:=Kd.upto_R_le mono34 sz34 (show n7≤n7 by omega) q7
 exact ⟨n7+1,⟨[.string x.f0],[.int .i64 x.f1,.bool x.f2,.int .i64 x.f3,.int .u64 x.f4,.float .f64 x.f5,.string x.f6,v7],rfl,rfl,⟨[.int .i64 x.f1],[.bool x.f2,.int .i64 x.f3,.int .u64 x.f4,.float .f64 x.f5,.string x.f6,v7],rfl,rfl,⟨[.bool x.f2],[.int .i64 x.f3,.int .u64 x.f4,.float .f64 x.f5,.string x.f6,v7],rfl,rfl,⟨[.int .i64 x.f3],[.int .u64 x.f4,.float .f64 x.f5,.string x.f6,v7],rfl,rfl,⟨[.int .u64 x.f4],[.float .f64 x.f5,.string x.f6,v7],rfl,rfl,⟨[.float .f64 x.f5],[.string x.f6,v7],rfl,rfl,⟨[.string x.f6],[v7],rfl,rfl,⟨v7,rfl,r7⟩⟩⟩⟩⟩⟩⟩⟩⟩
def yH (xs:List S34) (i:Int):S34:=xs.getD i.toNat z34
theorem at_T34 {w:World} {A:Option Addr} {n:Nat} {xs:List S34} (h:Kd.C k34 w A n xs) (i:Int) (h0:0≤i) (h1:i<n):∃ ad A7 c7,A=some ad∧w.cell? (ad.add (i.toNat * 8))=some (.string (yH xs i).f0)∧w.cell? ⟨(ad.add (i.toNat * 8)).block,(ad.add (i.toNat * 8)).off+1,none⟩=some (.int .i64 (yH xs i).f1)∧w.cell? ⟨(ad.add (i.toNat * 8)).block,(ad.add (i.toNat * 8)).off+2,none⟩=some (.bool (yH xs i).f2)∧w.cell? ⟨(ad.add (i.toNat * 8)).block,(ad.add (i.toNat * 8)).off+3,none⟩=some (.int .i64 (yH xs i).f3)∧w.cell? ⟨(ad.add (i.toNat * 8)).block,(ad.add (i.toNat * 8)).off+4,none⟩=some (.int .u64 (yH xs i).f4)∧w.cell? ⟨(ad.add (i.toNat * 8)).block,(ad.add (i.toNat * 8)).off+5,none⟩=some (.float .f64 (yH xs i).f5)∧w.cell? ⟨(ad.add (i.toNat * 8)).block,(ad.add (i.toNat * 8)).off+6,none⟩=some (.string (yH xs i).f6)∧w.cell? ⟨(ad.add (i.toNat * 8)).block,(ad.add (i.toNat * 8)).off+7,none⟩=some (.slice A7 (yH xs i).f7.length c7)∧(yH xs i).f7.length≤c7∧k34.C w A7 (yH xs i).f7.length (yH xs i).f7:=by
 obtain ⟨ad,c,e,_,hK,hc0⟩:=Kd.ybX h z34 i h0 h1
 have hc:∀ j u,c[j]?=some u→w.cell? (ad.add (i.toNat * 8+j))=some u:=hc0
 obtain ⟨A7,c7,rfl,l7,g7⟩:=k34_open hK
 exact ⟨ad,A7,c7,e,hc 0 _ rfl,by rw [← Jl _ _ 1 Zo];exact hc 1 _ rfl,by rw [← Jl _ _ 2 Zo];exact hc 2 _ rfl,by rw [← Jl _ _ 3 Zo];exact hc 3 _ rfl,by rw [← Jl _ _ 4 Zo];exact hc 4 _ rfl,by rw [← Jl _ _ 5 Zo];exact hc 5 _ rfl,by rw [← Jl _ _ 6 Zo];exact hc 6 _ rfl,by rw [← Jl _ _ 7 Zo];exact hc 7 _ rfl,l7,g7⟩
structure S56 where
 f0:ByteArray
 f1:(List Int)
 f2:(List ByteArray)
def z56:S56:=⟨(⟨#[]⟩:ByteArray),([]:List Int),([]:List ByteArray)⟩
def k56:Kd S56:=Kd.iso (Kd.pair Kd.string (Kd.pair (Kd.slice 30 (Kd.int .u64)) (Kd.slice 9 Kd.string))) (fun x:S56=>(x.f0,x.f1,x.f2))
theorem yb0 {w:World} {x:S56} {cs:List Value} (h:k56.K w x cs):∃ A1 c1 A2 c2,cs=[.string x.f0,.slice A1 x.f1.length c1,.slice A2 x.f2.length c2]∧x.f1.length≤c1∧(Kd.int .u64).C w A1 x.f1.length x.f1∧x.f2.length≤c2∧Kd.string.C w A2 x.f2.length x.f2:=by
 obtain ⟨_,_,rfl,rfl,⟨_,_,rfl,⟨A1,c1,rfl,l1,g1⟩,⟨A2,c2,rfl,l2,g2⟩⟩⟩:=h
 exact ⟨A1,c1,A2,c2,rfl,l1,g1,l2,g2⟩
theorem k56_mkM (w:World) (base:Nat) (ok:Nat→Prop) (x:S56) {v1:Value} (g1:(Kd.int .u64).R 30 w base ok v1 x.f1) {v2:Value} (g2:Kd.string.R 9 w base ok v2 x.f2):k56.M w base ok x [.string x.f0,v1,v2]:=⟨[.string x.f0],[v1,v2],rfl,rfl,⟨[v1],[v2],rfl,⟨v1,rfl,g1⟩,⟨v2,rfl,g2⟩⟩⟩
theorem k56_openF {W:World} {ok:Nat→Prop} {x:S56} {cs:List Value} (h:Kd.FK k56 W ok x cs):∃ A1 c1 A2 c2,cs=[.string x.f0,.slice A1 x.f1.length c1,.slice A2 x.f2.length c2]∧x.f1.length≤c1∧Kd.F (Kd.int .u64) W ok A1 x.f1.length x.f1∧x.f2.length≤c2∧Kd.F Kd.string W ok A2 x.f2.length x.f2:=by
 obtain ⟨A1,c1,A2,c2,rfl,l1,_,l2,_⟩:=yb0 (Kd.ybH h)
 exact ⟨A1,c1,A2,c2,rfl,l1,(fun W' hW=>by obtain ⟨A1_,c1_,A2_,c2_,he,l1_,g1_,l2_,g2_⟩:=yb0 (h W' hW);injection (Option.some.inj (show some (Value.slice A1 x.f1.length c1)=some (Value.slice A1_ x.f1.length c1_) from congrArg (fun l=>l[1]?) he)) with ha_ _ _;rw [ha_];exact g1_),l2,(fun W' hW=>by obtain ⟨A1_,c1_,A2_,c2_,he,l1_,g1_,l2_,g2_⟩:=yb0 (h W' hW);injection (Option.some.inj (show some (Value.slice A2 x.f2.length c2)=some (Value.slice A2_ x.f2.length c2_) from congrArg (fun l=>l[2]?) he)) with ha_ _ _;rw [ha_];exact g2_)⟩
def yo (xs:List S56) (i:Int):S56:=xs.getD i.toNat z56
theorem yaZ {w:World} {A:Option Addr} {n:Nat} {xs:List S56} (h:Kd.C k56 w A n xs) (i:Int) (h0:0≤i) (h1:i<n):∃ ad A1 c1 A2 c2,A=some ad∧w.cell? (ad.add (i.toNat * 3))=some (.string (yo xs i).f0)∧w.cell? ⟨(ad.add (i.toNat * 3)).block,(ad.add (i.toNat * 3)).off+1,none⟩=some (.slice A1 (yo xs i).f1.length c1)∧w.cell? ⟨(ad.add (i.toNat * 3)).block,(ad.add (i.toNat * 3)).off+2,none⟩=some (.slice A2 (yo xs i).f2.length c2)∧(yo xs i).f1.length≤c1∧(Kd.int .u64).C w A1 (yo xs i).f1.length (yo xs i).f1∧(yo xs i).f2.length≤c2∧Kd.string.C w A2 (yo xs i).f2.length (yo xs i).f2:=by
 obtain ⟨ad,c,e,_,hK,hc0⟩:=Kd.ybX h z56 i h0 h1
 have hc:∀ j u,c[j]?=some u→w.cell? (ad.add (i.toNat * 3+j))=some u:=hc0
 obtain ⟨A1,c1,A2,c2,rfl,l1,g1,l2,g2⟩:=yb0 hK
 exact ⟨ad,A1,c1,A2,c2,e,hc 0 _ rfl,by rw [← Jl _ _ 1 Zo];exact hc 1 _ rfl,by rw [← Jl _ _ 2 Zo];exact hc 2 _ rfl,l1,g1,l2,g2⟩
structure S53 where
 f0:ByteArray
 f1:ByteArray
 f2:(List ByteArray)
def z53:S53:=⟨(⟨#[]⟩:ByteArray),(⟨#[]⟩:ByteArray),([]:List ByteArray)⟩
def k53:Kd S53:=Kd.iso (Kd.pair Kd.string (Kd.pair Kd.string (Kd.slice 9 Kd.string))) (fun x:S53=>(x.f0,x.f1,x.f2))
theorem ydd {w:World} {x:S53} {cs:List Value} (h:k53.K w x cs):∃ A2 c2,cs=[.string x.f0,.string x.f1,.slice A2 x.f2.length c2]∧x.f2.length≤c2∧Kd.string.C w A2 x.f2.length x.f2:=by
 obtain ⟨_,_,rfl,rfl,⟨_,_,rfl,rfl,⟨A2,c2,rfl,l2,g2⟩⟩⟩:=h
 exact ⟨A2,c2,rfl,l2,g2⟩
theorem k53_mk (w:World) (x:S53) {A2:Option Addr} {c2:Nat} (l2:x.f2.length≤c2) (g2:Kd.string.C w A2 x.f2.length x.f2):k53.K w x [.string x.f0,.string x.f1,.slice A2 x.f2.length c2]:=⟨[.string x.f0],[.string x.f1,.slice A2 x.f2.length c2],rfl,rfl,⟨[.string x.f1],[.slice A2 x.f2.length c2],rfl,rfl,⟨A2,c2,rfl,l2,g2⟩⟩⟩
theorem yci {W:World} {ok:Nat→Prop} {x:S53} {cs:List Value} (h:Kd.FK k53 W ok x cs):∃ A2 c2,cs=[.string x.f0,.string x.f1,.slice A2 x.f2.length c2]∧x.f2.length≤c2∧Kd.F Kd.string W ok A2 x.f2.length x.f2:=by
 obtain ⟨A2,c2,rfl,l2,_⟩:=ydd (Kd.ybH h)
 exact ⟨A2,c2,rfl,l2,(fun W' hW=>by obtain ⟨A2_,c2_,he,l2_,g2_⟩:=ydd (h W' hW);injection (Option.some.inj (show some (Value.slice A2 x.f2.length c2)=some (Value.slice A2_ x.f2.length c2_) from congrArg (fun l=>l[2]?) he)) with ha_ _ _;rw [ha_];exact g2_)⟩
theorem YR (W:World) (ok:Nat→Prop) (x:S53) {A2:Option Addr} {c2:Nat} (l2:x.f2.length≤c2) (g2:Kd.F Kd.string W ok A2 x.f2.length x.f2):Kd.FK k53 W ok x [.string x.f0,.string x.f1,.slice A2 x.f2.length c2]:=fun W2 hW=>k53_mk W2 x l2 (g2 W2 hW)
def yU (xs:List S53) (i:Int):S53:=xs.getD i.toNat z53
theorem at_T53 {w:World} {A:Option Addr} {n:Nat} {xs:List S53} (h:Kd.C k53 w A n xs) (i:Int) (h0:0≤i) (h1:i<n):∃ ad A2 c2,A=some ad∧w.cell? (ad.add (i.toNat * 3))=some (.string (yU xs i).f0)∧w.cell? ⟨(ad.add (i.toNat * 3)).block,(ad.add (i.toNat * 3)).off+1,none⟩=some (.string (yU xs i).f1)∧w.cell? ⟨(ad.add (i.toNat * 3)).block,(ad.add (i.toNat * 3)).off+2,none⟩=some (.slice A2 (yU xs i).f2.length c2)∧(yU xs i).f2.length≤c2∧Kd.string.C w A2 (yU xs i).f2.length (yU xs i).f2:=by
 obtain ⟨ad,c,e,_,hK,hc0⟩:=Kd.ybX h z53 i h0 h1
 have hc:∀ j u,c[j]?=some u→w.cell? (ad.add (i.toNat * 3+j))=some u:=hc0
 obtain ⟨A2,c2,rfl,l2,g2⟩:=ydd hK
 exact ⟨ad,A2,c2,e,hc 0 _ rfl,by rw [← Jl _ _ 1 Zo];exact hc 1 _ rfl,by rw [← Jl _ _ 2 Zo];exact hc 2 _ rfl,l2,g2⟩
end Go.Proofs.YtdcaggoicdfehaaGreatDoor
namespace Go.Proofs.YtdcaggoicdfehaaGreatDoor
open Go.RowKit Go.Proofs.YtdcaggoicdfehaaGreatDoorW.PrintWords Go.Proofs.YtdcaggoicdfehaaGreatDoorW.PrintLast Go.Proofs.YtdcaggoicdfehaaGreatDoorW.PrintMore
theorem ya {a:Act} {d:Nat} (v:Value) (h:d<a.tmps.size):(a.put (some d) v).eval (.tmp d)=v:=by
 simp [Act.put,Act.eval,h]
theorem yb {a:Act} {d k:Nat} (v:Value) (h:k≠d):(a.put (some d) v).eval (.tmp k)=a.eval (.tmp k):=by
 simp [Act.put,Act.eval,Array.getD_eq_getD_getElem?,Array.getElem?_setIfInBounds,Ne.symm h]
theorem size_put {a:Act} (d:Option Nat) (v:Value):(a.put d v).tmps.size=a.tmps.size:=by
 cases d <;> simp [Act.put]
theorem yq {a:Act} (d:Option Nat) (v:Value):(a.put d v).defers=a.defers:=by
 cases d <;> rfl
section
variable {P:Program} {w:World} {ρ:Operand→Value}
theorem Jc {s:Sem Value} {v:Value} {w1:World} (h:s.run P w=.ok v w1):(do pure (Next.value (← s)):Sem Next).run P w=.ok (.value v) w1:=by
 rw [Sem.run_bind,h];rfl
theorem op_skip {s:Sem Unit} {w1:World} (h:s.run P w=.ok () w1):(do s;pure Next.skip:Sem Next).run P w=.ok .skip w1:=by
 rw [Sem.run_bind,h];rfl
theorem yF {d ty pos aft gd} {T f:Nat} {x:Operand} {p:Value} {q:Value} (hx:ρ x=p) (hf:(Instr.fieldAt T p f).run P w=.ok q w) :
 (execOp ρ ⟨d,.fieldAddr T x f,ty,pos,aft,gd⟩).run P w=.ok (.value q) w:=by
 subst hx;exact Jc hf
theorem run_load {d ty pos aft gd} {T:Nat} {x:Operand} {p:Value} {v:Value} (hx:ρ x=p) (hl:(Instr.loadAt T p).run P w=.ok v w) :
 (execOp ρ ⟨d,.load T x,ty,pos,aft,gd⟩).run P w=.ok (.value v) w:=by
 subst hx;exact Jc hl
theorem ycw {d ty pos aft gd} {S T:Nat} {x:Operand} {p:Value} {v:Value} (hx:ρ x=p) (hl:(convert S T p).run P w=.ok v w) :
 (execOp ρ ⟨d,.convert S T x,ty,pos,aft,gd⟩).run P w=.ok (.value v) w:=by
 subst hx;exact Jc hl
theorem run_store {d ty pos aft gd} {T:Nat} {x y:Operand} {p v:Value} {w1:World} (hx:ρ x=p) (hy:ρ y=v) (hl:(Instr.storeAt T p v).run P w=.ok () w1) :
 (execOp ρ ⟨d,.store T x y,ty,pos,aft,gd⟩).run P w=.ok .skip w1:=by
 subst hx hy;exact op_skip hl
end
theorem Jk {P:Program} {ops:Array Oper} {rest:List Oper} {o:Oper} {a:Act} {Q:Exit→Act→World→Prop} {W w1:World} (hgd:o.guard=none) (hN:o.dst=none) (hrun:(execOp a.eval o).run P W=.ok .skip w1) (h:wpList P ops Q rest a w1):wpList P ops Q (o::rest) a W:=by
 refine wpList_plain hgd fun K hK=>?_
 unfold Oper.wp
 rw [hrun]
 refine hK _ _ ?_
 rw [hN]
 exact h
theorem run_lit1 {w:World} {cs:Array Value} {T e:Nat} {d ty pos aft gd} {x:Operand} {ρ:Operand→Value} {P:Program} (hx:ρ x=.agg cs)
 (hl:(Instr.buildSlice T 1 #[(0,.agg cs)]).run P w=.ok (.slice (some ⟨w.heap.size,0,none⟩) 1 1) (w.alloc (.cells cs e))) :
 (execOp ρ ⟨d,.buildSlice T 1 #[(0,x)],ty,pos,aft,gd⟩).run P w=.ok (.value (.slice (some ⟨w.heap.size,0,none⟩) 1 1)) (w.alloc (.cells cs e)):=by
 have:(execOp ρ ⟨d,.buildSlice T 1 #[(0,x)],ty,pos,aft,gd⟩)=(do pure (Next.value (← Instr.buildSlice T 1 #[(0,ρ x)])):Sem Next):=by simp [execOp]
 rw [this,hx];exact Jc hl
theorem Yg {w:World} {cs:Array Value} {T i0 i1 i2:Nat} {d ty pos aft gd} {x y:Value} {z:Operand} {u:Value} {ρ:Operand→Value} {P:Program} (hc:∀ v,ρ (.const v)=v) (hz:ρ z=u)
 (hl:(Instr.build T #[(i0,x),(i1,y),(i2,u)]).run P w=.ok (.agg cs) w) :
 (execOp ρ ⟨d,.build T #[(i0,.const x),(i1,.const y),(i2,z)],ty,pos,aft,gd⟩).run P w=.ok (.value (.agg cs)) w:=by
 have:(execOp ρ ⟨d,.build T #[(i0,.const x),(i1,.const y),(i2,z)],ty,pos,aft,gd⟩)=(do pure (Next.value (← Instr.build T #[(i0,x),(i1,y),(i2,ρ z)])):Sem Next):=by simp [execOp,hc]
 rw [this,hz];exact Jc hl
theorem run_move {P:Program} {w:World} {ρ:Operand→Value} {d ty pos aft gd} {x:Operand}:(execOp ρ ⟨d,.move x,ty,pos,aft,gd⟩).run P w=.ok (.value (ρ x)) w:=rfl
theorem run_assign {P:Program} {w:World} {ρ:Operand→Value} {d ty pos aft gd} {x:Operand}:(execOp ρ ⟨d,.assign x,ty,pos,aft,gd⟩).run P w=.ok (.value (ρ x)) w:=rfl
theorem results_eval {P:Program} {fn:Func} {t:Tmp} {a:Act} {v:Value} {w:World} (h:fn.results=#[.tmp t]) (hv:a.eval (.tmp t)=v):(results fn a.tmps).run P w=.ok v w:=by
 subst hv;exact results_tmp h a.tmps P w
theorem Y8 {P:Program} {fn:Func} {R:Ending→World→Prop} {t:Tmp} {a:Act} {w:World} {v:Value} (h:fn.results=#[.tmp t]) (hd:a.defers=[]) (hv:a.eval (.tmp t)=v) (hR:R (.returned v) w):bodyPost P fn R .ret a w:=
 bodyPost_ret (results_eval h hv) hd hR
theorem Ji {P:Program} {ops:Array Oper} {rest:List Oper} {o:Oper} {a:Act} {Q:Exit→Act→World→Prop} {w W:World} (hB:Below w.heap.size w W) (hg:o.guard=none) (xs:List ByteArray) (n:Nat) (hn:xs.length=n)
 (hrun:∀ (ρ:Act) (W:World),(execOp ρ.eval o).run P W=.ok (.value (.slice (some ⟨W.heap.size,0,none⟩) n n)) (W.alloc (.cells (xs.map Value.string).toArray 9)))
 (hm:n≤9223372036854775807)
 (h:∀ A c w1,n≤c→Kd.F Kd.string w1 (fun k=>w.heap.size≤k) A n xs→Below w.heap.size w w1→Below W.heap.size W w1→wpList P ops Q rest (a.put o.dst (.slice A n c)) w1):wpList P ops Q (o::rest) a W:=by
 subst hn
 refine Kd.yh hg (hrun a W) (h _ _ _ (Nat.le_refl _) ?_ (ym hB _) (ym (Below.refl _ _) _))
 have hR:Kd.string.R 9 (W.alloc (.cells (xs.map Value.string).toArray 9)) w.heap.size (fun k=>w.heap.size≤k) (.slice (some ⟨W.heap.size,0,none⟩) xs.length xs.length) xs:=by
  have h2:=World.ownsRow_lit (base:=w.heap.size) (e:=9) (size:=1) W (xs.map Value.string).toArray xs.length (yt hB) (by simpa [maxLen] using hm) (by simp)
  refine ⟨fun k hk=>?_,xs.map Value.string,by rw [show Kd.string.sz=1 from rfl];simpa using h2,⟨by show _=_ * 1;simp,fun j p hp=>?_⟩⟩
  · have:W.heap.size=k:=by simpa [Value.ownBlock] using hk
    subst this
    exact yt hB
  · show _=[Value.string p]
    have hj:=(List.getElem?_eq_some_iff.1 hp)
    simp only [Nat.mul_one,show Kd.string.sz=1 from rfl]
    rw [List.drop_eq_getElem_cons (by simpa using hj.1)]
    simp [hj.2]
 exact Kd.R_F hR
end Go.Proofs.YtdcaggoicdfehaaGreatDoor
namespace Go.Proofs.YtdcaggoicdfehaaGreatDoor
open Go.RowKit Go.Proofs.YtdcaggoicdfehaaGreatDoorW.PrintWords Go.Proofs.YtdcaggoicdfehaaGreatDoorW.PrintLast Go.Proofs.YtdcaggoicdfehaaGreatDoorW.PrintMore
abbrev yK (nm:ByteArray) (v:Value):Array Value:=#[.string nm,.int .i64 8,.bool false,.int .i64 0,.int .u64 0,.float .f64 0,.string ⟨#[]⟩,v]
structure NS (w0 w:World) (g gr:Nat) (nm:ByteArray) (kids:List S34) (v:Value):Prop where
 own:Kd.R k34 34 w w0.heap.size (fun k=>k≠g∧k≠gr) v kids
 blk:w.heap[g]?=some (.cells (yK nm v) 34 (0,0))
 res:∃ cs:Array Value,cs.size=8∧w.heap[gr]?=some (.cells cs 34 (0,0))
 ge:w0.heap.size≤g
 ger:w0.heap.size≤gr
 ne:g≠gr
 below:Below w0.heap.size w0 w
theorem Qf (w:World) (g:Nat):(Instr.fieldAt 34 (.pointer (some ⟨g,0,none⟩)) 7).run Tryz.prog w=.ok (.pointer (some ⟨g,7,none⟩)) w:=by kernel_rfl
theorem run_lit34 (w:World) (x0 x1 x2 x3 x4 x5 x6 x7:Value):(Instr.buildSlice 32 1 #[(0,.agg #[x0,x1,x2,x3,x4,x5,x6,x7])]).run Tryz.prog w=.ok (.slice (some ⟨w.heap.size,0,none⟩) 1 1) (w.alloc (.cells #[x0,x1,x2,x3,x4,x5,x6,x7] 34)):=by kernel_rfl
theorem Q3 {w:World} {g:Nat} {v:Value} {cs:Array Value} (h:w.heap[g]?=some (.cells cs 34 (0,0))) (hv:cs[7]?=some v):(Instr.loadAt 32 (.pointer (some ⟨g,7,none⟩))).run Tryz.prog w=.ok v w:=by
 have hc:w.cell? ⟨g,7,none⟩=some v:=(ye h 7).trans hv
 simp [Instr.loadAt,Instr.sureAddr,go_sem,hc]
theorem run_st7 {w:World} {g:Nat} {A:Option Addr} {n c:Nat} {cs:Array Value} (h:w.heap[g]?=some (.cells cs 34 (0,0))) (hv:7<cs.size):(Instr.storeAt 32 (.pointer (some ⟨g,7,none⟩)) (.slice A n c)).run Tryz.prog w=.ok () (w.setCell ⟨g,7,none⟩ (.slice A n c)):=by
 have hc:w.cell? ⟨g,7,none⟩=some cs[7]:=(ye h 7).trans (by simp [hv])
 have hf:=yg h 7
 simp [Instr.storeAt,Instr.sureAddr,go_sem,hc,hf]
theorem ydq {ops:Array Oper} {Q:Exit→Act→World→Prop} {a:Act} {w0 w:World} {g gr:Nat} {nm:ByteArray} {kids:List S34} {v:Value} {out s1 s5 s6 s7 s8:Nat} {d6 d7 d8 d9:TypeId} {p6 p7 p8 p9:String} {a6 a7 a8 a9:Array Edge}
 {node:S34} {cs:List Value} {x0 x1 x2 x3 x4 x5 x6 x7:Value} (hcs:cs=[x0,x1,x2,x3,x4,x5,x6,x7]) (hM:∀ w',Kd.M k34 w' w0.heap.size (fun k=>(k≠g∧k≠gr)∧some k≠v.ownBlock) node cs)
 (hS:NS w0 w g gr nm kids v) (hl:(kids.length+1) * 96≤140737488355328)
 (he1:a.eval (.tmp s1)=v) (he5:a.eval (.tmp s5)=.agg #[x0,x1,x2,x3,x4,x5,x6,x7]) (heo:a.eval (.tmp out)=.pointer (some ⟨g,0,none⟩))
 (h6:s6<a.tmps.size) (h7:s7<a.tmps.size) (h8:s8<a.tmps.size) (n16:s1≠s6) (no6:out≠s6) (no7:out≠s7) (n78:s7≠s8)
 (h:∀ a' w' v',a'.tmps.size=a.tmps.size→a'.defers=a.defers→(∀ j:Nat,j≠s6→j≠s7→j≠s8→a'.eval (.tmp j)=a.eval (.tmp j))→NS w0 w' g gr nm (kids++[node]) v' →
  (∀ (k:Nat) (c:Array Value) (t:TypeId),w.heap[k]?=some (Obj.cells c t (0,0))→t≠34→w'.heap[k]?=some (Obj.cells c t (0,0)))→Q .normal a' w') :
 wpList Tryz.prog ops Q [⟨some s6,.buildSlice 32 1 #[(0,.tmp s5)],d6,p6,a6,none⟩,⟨some s7,.call { callee:=.builtin .append,args:=#[.tmp s1,.tmp s6],argTypes:=#[32,32] },d7,p7,a7,none⟩,
  ⟨some s8,.fieldAddr 34 (.tmp out) 7,d8,p8,a8,none⟩,⟨none,.store 32 (.tmp s8) (.tmp s7),d9,p9,a9,none⟩] a w:=by
 subst hcs
 refine Kd.yh rfl (run_lit1 he5 (run_lit34 ..)) ?_
 refine Kd.J2 k34 (w0:=w0) w0.heap.size rfl (.tmp s1) (.tmp s6) 32 34 (.agg #[(.string ⟨#[]⟩),(.int .i64 0),(.bool false),(.int .i64 0),(.int .u64 0),(.float .f64 0),(.string ⟨#[]⟩),(.slice none 0 0)]) 96 rfl Tryz.underlying32 info34 rfl Zd Zo
  v kids node [x0,x1,x2,x3,x4,x5,x6,x7] (fun k=>k≠g∧k≠gr) (fun k=>(k≠g∧k≠gr)∧some k≠v.ownBlock) ?_ ?_ (hM _) (fun _ hk=>hk) ?_ hS.own hS.below (yt hS.below) hl ?_
 · rw [yb _ n16];exact he1
 · rw [ya _ h6]
 · obtain ⟨cr,_,hr⟩:=hS.res
   exact fun k hk=>⟨by have:=Yy hS.blk;omega,by have:=Yy hr;omega⟩
 intro v1 w1 hR hb hg hat
 have hbg:=Y3 hS.blk hg (Kd.QQ hS.own (fun k hk=>hk.1))
 obtain ⟨cr,hcr,hr⟩:=hS.res
 have hbr:=Y3 hr hg (Kd.QQ hS.own (fun k hk=>hk.2))
 obtain ⟨A,c,hv1⟩:=Kd.Y7 hR
 subst hv1
 refine Kd.yh rfl (yF (p:=.pointer (some ⟨g,0,none⟩)) ?_ (Qf ..)) ?_
 · rw [yb _ no7,yb _ no6];exact heo
 refine Jk rfl rfl (run_store (p:=.pointer (some ⟨g,7,none⟩)) (v:=.slice A (kids++[node]).length c) ?_ ?_ (run_st7 hbg (by simp))) ?_
 · rw [ya];simpa only [size_put] using h8
 · rw [yb _ n78,ya];simpa only [size_put] using h7
 refine h _ _ (.slice A (kids++[node]).length c) ?_ rfl ?_ ⟨?_,?_,⟨cr,hcr,?_⟩,hS.ge,hS.ger,hS.ne,yw hb hS.ge⟩ ?_
 · simp only [size_put]
 · intro j j6 j7 j8
   rw [yb _ j8,yb _ j7,yb _ j6]
 · exact Kd.JS hR (p:=⟨g,7,none⟩) (fun k hk=>hk.1) _
 · exact yA hbg 7 _ rfl
 · exact yI hbr (fun e=>hS.ne e.symm) _
 · intro k c' t hk ht
   have hkg:k≠g:=blk_ne hk hS.blk ht
   refine yI ((hg.block k (Yy hk) fun e=>?_).trans hk) hkg _
   obtain ⟨cells,hc⟩:=Kd.ybg hS.own k e.symm
   rw [hk] at hc
   injection hc with hc
   injection hc with _ hc
   exact ht hc
theorem Jx {T:Nat} {w:World} {g i:Nat} {v:Value} {cs:Array Value} {t:TypeId} (hT:∀ (w:World),(isAgg T).run Tryz.prog w=.ok false w) (h:w.heap[g]?=some (.cells cs t (0,0))) (hv:cs[i]?=some v):(Instr.loadAt T (.pointer (some ⟨g,i,none⟩))).run Tryz.prog w=.ok v w:=by
 have hc:w.cell? ⟨g,i,none⟩=some v:=(ye h i).trans hv
 simp [Instr.loadAt,Instr.sureAddr,go_sem,hc,hT]
theorem run_conv (w:World) (x:Int):(convert 70 30 (.int .u32 x)).run Tryz.prog w=.ok (.int .u64 (IntKind.u64.wrap x)) w:=by kernel_rfl
theorem run_bnode (w:World) (nm:ByteArray) (x:Int):(Instr.build 34 #[(0,.string nm),(1,.int .i64 3),(4,.int .u64 x)]).run Tryz.prog w=.ok (.agg #[.string nm,.int .i64 3,.bool false,.int .i64 0,.int .u64 x,.float .f64 0,.string ⟨#[]⟩,.slice none 0 0]) w:=by kernel_rfl
abbrev yz (nm:ByteArray) (x:Int):S34:=⟨nm,3,false,0,x,0,⟨#[]⟩,[]⟩
theorem uNode_M (nm:ByteArray) (x:Int) (w:World) (base:Nat) (ok:Nat→Prop):Kd.M k34 w base ok (yz nm x) [.string nm,.int .i64 3,.bool false,.int .i64 0,.int .u64 x,.float .f64 0,.string ⟨#[]⟩,.slice none 0 0]:=
 ybj _ _ _ (yz nm x) (Kd.qf _ _ _ _ _)
theorem yl {id k:Nat} {Q:Exit→Act→World→Prop} {rest:Code} {a:Act} {w0 w:World} {g gr gv:Nat} {onm nm:ByteArray} {kids:List S34} {v:Value} {T fi:Nat} {vals:Array Value} {x:Int}
 {d0 d1 d2 d3 d4 d5 d6 d7 d8 d9:TypeId} {p0 p1 p2 p3 p4 p5 p6 p7 p8 p9:String} {a0 a1 a2 a3 a4 a5 a6 a7 a8 a9:Array Edge}
 (hfa:∀ W:World,(Instr.fieldAt T (.pointer (some ⟨gv,0,none⟩)) fi).run Tryz.prog W=.ok (.pointer (some ⟨gv,fi,none⟩)) W) (hx:vals[fi]?=some (.int .u32 x)) (hT:T≠34)
 (hk:5<k) (hsz:k+8<a.tmps.size) (hl:(kids.length+1) * 96≤140737488355328)
 (e3:a.eval (.tmp 3)=.pointer (some ⟨gv,0,none⟩)) (e4:a.eval (.tmp 4)=.pointer (some ⟨gr,0,none⟩)) (e5:a.eval (.tmp 5)=.pointer (some ⟨g,0,none⟩)) (hv:w.heap[gv]?=some (.cells vals T (0,0))) (hS:NS w0 w g gr onm kids v)
 (h:∀ a' w' v',a'.tmps.size=a.tmps.size→a'.defers=a.defers→a'.eval (.tmp 3)=.pointer (some ⟨gv,0,none⟩)→a'.eval (.tmp 4)=.pointer (some ⟨gr,0,none⟩)→a'.eval (.tmp 5)=.pointer (some ⟨g,0,none⟩) →
  w'.heap[gv]?=some (.cells vals T (0,0))→NS w0 w' g gr onm (kids++[yz nm (IntKind.u64.wrap x)]) v'→rest.wp Tryz.prog Q a' w') :
 (Code.seq (.region id #[⟨some k,.fieldAddr 34 (.tmp 5) 7,d0,p0,a0,none⟩,⟨some (k+1),.load 32 (.tmp k),d1,p1,a1,none⟩,⟨some (k+2),.fieldAddr T (.tmp 3) fi,d2,p2,a2,none⟩,⟨some (k+3),.load 70 (.tmp (k+2)),d3,p3,a3,none⟩,
  ⟨some (k+4),.convert 70 30 (.tmp (k+3)),d4,p4,a4,none⟩,⟨some (k+5),.build 34 #[(0,.const (.string nm)),(1,.const (.int .i64 3)),(4,.tmp (k+4))],d5,p5,a5,none⟩,⟨some (k+6),.buildSlice 32 1 #[(0,.tmp (k+5))],d6,p6,a6,none⟩,
  ⟨some (k+7),.call { callee:=.builtin .append,args:=#[.tmp (k+1),.tmp (k+6)],argTypes:=#[32,32] },d7,p7,a7,none⟩,⟨some (k+8),.fieldAddr 34 (.tmp 5) 7,d8,p8,a8,none⟩,⟨none,.store 32 (.tmp (k+8)) (.tmp (k+7)),d9,p9,a9,none⟩] false) rest).wp Tryz.prog Q a w:=by
 refine wp_seq ?_
 refine wp_region_list ?_
 refine Kd.yh rfl (yF e5 (Qf ..)) ?_
 refine Kd.yh rfl (run_load (ya _ Zo) (Q3 hS.blk rfl)) ?_
 refine Kd.yh rfl (yF ((yb _ Zo).trans ((yb _ Zo).trans e3)) (hfa _)) ?_
 refine Kd.yh rfl (run_load (ya _ Zs) (Jx (fun _=>by kernel_rfl) hv hx)) ?_
 refine Kd.yh rfl (ycw (ya _ Zs) (run_conv ..)) ?_
 refine Kd.yh rfl (Yg (fun _=>rfl) (ya _ Zs) (run_bnode ..)) ?_
 refine ydq (node:=yz nm (IntKind.u64.wrap x)) rfl (fun w'=>uNode_M ..) hS hl ?_ (ya _ Zs) ?_ Zs Zs Zs Zo Zo Zo Zo ?_
 · rw [yb _ Zo,yb _ Zo,yb _ Zo,yb _ Zo,ya _ Zs];rfl
 · rw [yb _ Zo,yb _ Zo,yb _ Zo,yb _ Zo,yb _ Zo,yb _ Zo];exact e5
 intro a' w' v' hs hd he hN hb
 have hj:∀ j:Nat,j<6→a'.eval (.tmp j)=a.eval (.tmp j):=fun j hj=>by
  rw [he j Zo Zo Zo,yb _ Zo,yb _ Zo,yb _ Zo,yb _ Zo,yb _ Zo,yb _ Zo]
 exact h a' w' v' (by rw [hs];simp only [size_put]) (by rw [hd];simp only [yq]) ((hj 3 Zo).trans e3) ((hj 4 Zo).trans e4) ((hj 5 Zo).trans e5) (hb _ _ _ hv hT) hN
theorem ybS {id k:Nat} {Q:Exit→Act→World→Prop} {rest:Code} {a:Act} {w0 w:World} {g gr gv:Nat} {onm nm:ByteArray} {kids:List S34} {v:Value} {T fi:Nat} {vals:Array Value} {x:Int}
 {d0 d1 d2 d3 d5 d6 d7 d8 d9:TypeId} {p0 p1 p2 p3 p5 p6 p7 p8 p9:String} {a0 a1 a2 a3 a5 a6 a7 a8 a9:Array Edge}
 (hfa:∀ W:World,(Instr.fieldAt T (.pointer (some ⟨gv,0,none⟩)) fi).run Tryz.prog W=.ok (.pointer (some ⟨gv,fi,none⟩)) W) (hx:vals[fi]?=some (.int .u64 x)) (hT:T≠34)
 (hk:5<k) (hsz:k+7<a.tmps.size) (hl:(kids.length+1) * 96≤140737488355328)
 (e3:a.eval (.tmp 3)=.pointer (some ⟨gv,0,none⟩)) (e4:a.eval (.tmp 4)=.pointer (some ⟨gr,0,none⟩)) (e5:a.eval (.tmp 5)=.pointer (some ⟨g,0,none⟩)) (hv:w.heap[gv]?=some (.cells vals T (0,0))) (hS:NS w0 w g gr onm kids v)
 (h:∀ a' w' v',a'.tmps.size=a.tmps.size→a'.defers=a.defers→a'.eval (.tmp 3)=.pointer (some ⟨gv,0,none⟩)→a'.eval (.tmp 4)=.pointer (some ⟨gr,0,none⟩)→a'.eval (.tmp 5)=.pointer (some ⟨g,0,none⟩) →
  w'.heap[gv]?=some (.cells vals T (0,0))→NS w0 w' g gr onm (kids++[yz nm x]) v'→rest.wp Tryz.prog Q a' w') :
 (Code.seq (.region id #[⟨some k,.fieldAddr 34 (.tmp 5) 7,d0,p0,a0,none⟩,⟨some (k+1),.load 32 (.tmp k),d1,p1,a1,none⟩,⟨some (k+2),.fieldAddr T (.tmp 3) fi,d2,p2,a2,none⟩,⟨some (k+3),.load 30 (.tmp (k+2)),d3,p3,a3,none⟩,
  ⟨some (k+4),.build 34 #[(0,.const (.string nm)),(1,.const (.int .i64 3)),(4,.tmp (k+3))],d5,p5,a5,none⟩,⟨some (k+5),.buildSlice 32 1 #[(0,.tmp (k+4))],d6,p6,a6,none⟩,
  ⟨some (k+6),.call { callee:=.builtin .append,args:=#[.tmp (k+1),.tmp (k+5)],argTypes:=#[32,32] },d7,p7,a7,none⟩,⟨some (k+7),.fieldAddr 34 (.tmp 5) 7,d8,p8,a8,none⟩,⟨none,.store 32 (.tmp (k+7)) (.tmp (k+6)),d9,p9,a9,none⟩] false) rest).wp Tryz.prog Q a w:=by
 refine wp_seq ?_
 refine wp_region_list ?_
 refine Kd.yh rfl (yF e5 (Qf ..)) ?_
 refine Kd.yh rfl (run_load (ya _ Zo) (Q3 hS.blk rfl)) ?_
 refine Kd.yh rfl (yF ((yb _ Zo).trans ((yb _ Zo).trans e3)) (hfa _)) ?_
 refine Kd.yh rfl (run_load (ya _ Zs) (Jx (fun _=>by kernel_rfl) hv hx)) ?_
 refine Kd.yh rfl (Yg (fun _=>rfl) (ya _ Zs) (run_bnode ..)) ?_
 refine ydq (node:=yz nm x) rfl (fun w'=>uNode_M ..) hS hl ?_ (ya _ Zs) ?_ Zs Zs Zs Zo Zo Zo Zo ?_
 · rw [yb _ Zo,yb _ Zo,yb _ Zo,ya _ Zs];rfl
 · rw [yb _ Zo,yb _ Zo,yb _ Zo,yb _ Zo,yb _ Zo];exact e5
 intro a' w' v' hs hd he hN hb
 have hj:∀ j:Nat,j<6→a'.eval (.tmp j)=a.eval (.tmp j):=fun j hj=>by
  rw [he j Zo Zo Zo,yb _ Zo,yb _ Zo,yb _ Zo,yb _ Zo,yb _ Zo]
 exact h a' w' v' (by rw [hs];simp only [size_put]) (by rw [hd];simp only [yq]) ((hj 3 Zo).trans e3) ((hj 4 Zo).trans e4) ((hj 5 Zo).trans e5) (hb _ _ _ hv hT) hN
theorem ybh {P:Program} {w w1:World} {ρ:Operand→Value} {d ty pos aft gd} {T:Nat} {x:Operand} {u v:Value} (hx:ρ x=u) (hl:(Instr.box T u).run P w=.ok v w1) :
 (execOp ρ ⟨d,.box T x,ty,pos,aft,gd⟩).run P w=.ok (.value v) w1:=by
 subst hx;exact Jc hl
theorem Y9 {P:Program} {w w1:World} {ρ:Operand→Value} {d ty pos aft gd} {T:Nat} {v:Value} (hl:(Instr.alloc T true (.tuple #[])).run P w=.ok v w1) :
 (execOp ρ ⟨d,.alloc T,ty,pos,aft,gd⟩).run P w=.ok (.value v) w1:=Jc hl
theorem JC (w:World):(Instr.alloc 34 true (.tuple #[])).run Tryz.prog w=.ok (.pointer (some ⟨w.heap.size,0,none⟩)) (w.alloc (.cells #[.string ⟨#[]⟩,.int .i64 0,.bool false,.int .i64 0,.int .u64 0,.float .f64 0,.string ⟨#[]⟩,.slice none 0 0] 34)):=by kernel_rfl
theorem run_build2 {w:World} {cs:Array Value} {T i0 i1:Nat} {d ty pos aft gd} {y:Value} {z:Operand} {u:Value} {ρ:Operand→Value} {P:Program} (hc:∀ v,ρ (.const v)=v) (hz:ρ z=u)
 (hl:(Instr.build T #[(i0,u),(i1,y)]).run P w=.ok (.agg cs) w) :
 (execOp ρ ⟨d,.build T #[(i0,z),(i1,.const y)],ty,pos,aft,gd⟩).run P w=.ok (.value (.agg cs)) w:=by
 have:(execOp ρ ⟨d,.build T #[(i0,z),(i1,.const y)],ty,pos,aft,gd⟩)=(do pure (Next.value (← Instr.build T #[(i0,ρ z),(i1,y)])):Sem Next):=by simp [execOp,hc]
 rw [this,hz];exact Jc hl
end Go.Proofs.YtdcaggoicdfehaaGreatDoor
