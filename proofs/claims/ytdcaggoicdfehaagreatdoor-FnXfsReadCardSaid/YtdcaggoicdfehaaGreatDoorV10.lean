/- Part 10 of 44 of the proof of the tied card of FnXfsRead. -/
import Derived.Test.YtdcaggoicdfehaaGreatDoorVz
import Derived.Test.YtdcaggoicdfehaaGreatDoorV4
set_option linter.unusedVariables false
set_option linter.unusedSimpArgs false
namespace Go.Proofs.YtdcaggoicdfehaaGreatDoor
open Go.RowKit Go.Proofs.YtdcaggoicdfehaaGreatDoorW.PrintWords Go.Proofs.YtdcaggoicdfehaaGreatDoorW.PrintLast Go.Proofs.YtdcaggoicdfehaaGreatDoorW.PrintMore
def Qk:List ByteArray:=[(⟨#[76,111,111,107,117,112]⟩:ByteArray),(⟨#[67,111,109,112,97,114,101]⟩:ByteArray),(⟨#[73,110,115,114,101,99]⟩:ByteArray),(⟨#[68,101,108,114,101,99]⟩:ByteArray),(⟨#[78,101,119,82,111,111,116]⟩:ByteArray),(⟨#[75,105,108,108,82,111,111,116]⟩:ByteArray),(⟨#[73,110,99,114,101,109,101,110,116]⟩:ByteArray),(⟨#[68,101,99,114,101,109,101,110,116]⟩:ByteArray),(⟨#[76,115,104,105,102,116]⟩:ByteArray),(⟨#[82,115,104,105,102,116]⟩:ByteArray),(⟨#[83,112,108,105,116]⟩:ByteArray),(⟨#[74,111,105,110]⟩:ByteArray),(⟨#[65,108,108,111,99]⟩:ByteArray),(⟨#[70,114,101,101]⟩:ByteArray),(⟨#[77,111,118,101,115]⟩:ByteArray)]
def litL1:List ByteArray:=[(⟨#[76,111,111,107,117,112,115]⟩:ByteArray),(⟨#[67,111,109,112,97,114,101,115]⟩:ByteArray),(⟨#[82,101,99,111,114,100,115,73,110,115,101,114,116,101,100]⟩:ByteArray),(⟨#[82,101,99,111,114,100,115,68,101,108,101,116,101,100]⟩:ByteArray)]
def litL2:List ByteArray:=[(⟨#[69,120,116,101,110,116,115,65,108,108,111,99,97,116,101,100]⟩:ByteArray),(⟨#[66,108,111,99,107,115,65,108,108,111,99,97,116,101,100]⟩:ByteArray),(⟨#[69,120,116,101,110,116,115,70,114,101,101,100]⟩:ByteArray),(⟨#[66,108,111,99,107,115,70,114,101,101,100]⟩:ByteArray)]
def litL3:List ByteArray:=[(⟨#[82,101,97,100,115]⟩:ByteArray),(⟨#[87,114,105,116,101,115]⟩:ByteArray),(⟨#[85,110,109,97,112,115]⟩:ByteArray),(⟨#[69,120,116,101,110,116,76,105,115,116,73,110,115,101,114,116,105,111,110,115]⟩:ByteArray),(⟨#[69,120,116,101,110,116,76,105,115,116,68,101,108,101,116,105,111,110,115]⟩:ByteArray),(⟨#[69,120,116,101,110,116,76,105,115,116,76,111,111,107,117,112,115]⟩:ByteArray),(⟨#[69,120,116,101,110,116,76,105,115,116,67,111,109,112,97,114,101,115]⟩:ByteArray)]
def litL4:List ByteArray:=[(⟨#[76,111,111,107,117,112,115]⟩:ByteArray),(⟨#[67,114,101,97,116,101,115]⟩:ByteArray),(⟨#[82,101,109,111,118,101,115]⟩:ByteArray),(⟨#[71,101,116,100,101,110,116,115]⟩:ByteArray)]
def litL5:List ByteArray:=[(⟨#[83,121,110,99]⟩:ByteArray),(⟨#[65,115,121,110,99]⟩:ByteArray),(⟨#[69,109,112,116,121]⟩:ByteArray)]
def litL6:List ByteArray:=[(⟨#[65,116,116,101,109,112,116,115]⟩:ByteArray),(⟨#[70,111,117,110,100]⟩:ByteArray),(⟨#[82,101,99,121,99,108,101]⟩:ByteArray),(⟨#[77,105,115,115,101,100]⟩:ByteArray),(⟨#[68,117,112,108,105,99,97,116,101]⟩:ByteArray),(⟨#[82,101,99,108,97,105,109,115]⟩:ByteArray),(⟨#[65,116,116,114,105,98,117,116,101,67,104,97,110,103,101]⟩:ByteArray)]
def litL7:List ByteArray:=[(⟨#[87,114,105,116,101,115]⟩:ByteArray),(⟨#[66,108,111,99,107,115]⟩:ByteArray),(⟨#[78,111,73,110,116,101,114,110,97,108,66,117,102,102,101,114,115]⟩:ByteArray),(⟨#[70,111,114,99,101]⟩:ByteArray),(⟨#[70,111,114,99,101,83,108,101,101,112]⟩:ByteArray)]
def litL8:List ByteArray:=[(⟨#[87,114,105,116,101]⟩:ByteArray),(⟨#[82,101,97,100]⟩:ByteArray)]
def litL9:List ByteArray:=[(⟨#[71,101,116]⟩:ByteArray),(⟨#[83,101,116]⟩:ByteArray),(⟨#[82,101,109,111,118,101]⟩:ByteArray),(⟨#[76,105,115,116]⟩:ByteArray)]
def litL10:List ByteArray:=[(⟨#[73,102,108,117,115,104]⟩:ByteArray),(⟨#[70,108,117,115,104]⟩:ByteArray),(⟨#[70,108,117,115,104,73,110,111,100,101]⟩:ByteArray)]
def litL11:List ByteArray:=[(⟨#[65,99,116,105,118,101]⟩:ByteArray),(⟨#[65,108,108,111,99,97,116,101]⟩:ByteArray),(⟨#[71,101,116]⟩:ByteArray),(⟨#[72,111,108,100]⟩:ByteArray),(⟨#[82,101,108,101,97,115,101]⟩:ByteArray),(⟨#[82,101,99,108,97,105,109]⟩:ByteArray),(⟨#[82,101,109,111,118,101]⟩:ByteArray),(⟨#[70,114,101,101]⟩:ByteArray)]
def litL12:List ByteArray:=[(⟨#[71,101,116]⟩:ByteArray),(⟨#[67,114,101,97,116,101]⟩:ByteArray),(⟨#[71,101,116,76,111,99,107,101,100]⟩:ByteArray),(⟨#[71,101,116,76,111,99,107,101,100,87,97,105,116,101,100]⟩:ByteArray),(⟨#[66,117,115,121,76,111,99,107,101,100]⟩:ByteArray),(⟨#[77,105,115,115,76,111,99,107,101,100]⟩:ByteArray),(⟨#[80,97,103,101,82,101,116,114,105,101,115]⟩:ByteArray),(⟨#[80,97,103,101,70,111,117,110,100]⟩:ByteArray),(⟨#[71,101,116,82,101,97,100]⟩:ByteArray)]
def litL13:List ByteArray:=[(⟨#[70,108,117,115,104,66,121,116,101,115]⟩:ByteArray),(⟨#[87,114,105,116,101,66,121,116,101,115]⟩:ByteArray),(⟨#[82,101,97,100,66,121,116,101,115]⟩:ByteArray)]
def litL14:List ByteArray:=[(⟨#[81,117,105,99,107]⟩:ByteArray),(⟨#[83,112,108,105,116]⟩:ByteArray)]
def litL15:List ByteArray:=[(⟨#[84,114,121,76,111,103,115,112,97,99,101]⟩:ByteArray),(⟨#[83,108,101,101,112,76,111,103,115,112,97,99,101]⟩:ByteArray),(⟨#[80,117,115,104,101,115]⟩:ByteArray),(⟨#[83,117,99,99,101,115,115]⟩:ByteArray),(⟨#[80,117,115,104,66,117,102]⟩:ByteArray),(⟨#[80,105,110,110,101,100]⟩:ByteArray),(⟨#[76,111,99,107,101,100]⟩:ByteArray),(⟨#[70,108,117,115,104,105,110,103]⟩:ByteArray),(⟨#[82,101,115,116,97,114,116,115]⟩:ByteArray),(⟨#[70,108,117,115,104]⟩:ByteArray)]
def litL16:List ByteArray:=[(⟨#[69,110,97,98,108,101,100]⟩:ByteArray)]
def litL17:List ByteArray:=[(⟨#[82,101,99,108,97,105,109,115]⟩:ByteArray),(⟨#[82,101,99,108,97,105,109,77,105,115,115,101,115]⟩:ByteArray),(⟨#[68,113,117,111,116,101,68,117,112,115]⟩:ByteArray),(⟨#[67,97,99,104,101,77,105,115,115,101,115]⟩:ByteArray),(⟨#[67,97,99,104,101,72,105,116,115]⟩:ByteArray),(⟨#[87,97,110,116,115]⟩:ByteArray),(⟨#[83,104,97,107,101,82,101,99,108,97,105,109,115]⟩:ByteArray),(⟨#[73,110,97,99,116,82,101,99,108,97,105,109,115]⟩:ByteArray),(⟨#[85,110,117,115,101,100]⟩:ByteArray)]
def litL30:List ByteArray:=[(⟨#[71,99,82,101,97,100,67,97,108,108,115]⟩:ByteArray),(⟨#[71,99,87,114,105,116,101,67,97,108,108,115]⟩:ByteArray),(⟨#[71,99,90,111,110,101,82,101,115,101,116,67,97,108,108,115]⟩:ByteArray)]
def litL31:List ByteArray:=[(⟨#[73,110,111,100,101,115]⟩:ByteArray)]
def litL32:List ByteArray:=[(⟨#[67,111,117,110,116]⟩:ByteArray)]
def litL33:List ByteArray:=[(⟨#[66,121,116,101,115]⟩:ByteArray)]
def yZ:List S53:=[⟨(⟨#[101,120,116,101,110,116,95,97,108,108,111,99]⟩:ByteArray),(⟨#[69,120,116,101,110,116,65,108,108,111,99,97,116,105,111,110]⟩:ByteArray),litL2⟩,
 ⟨(⟨#[97,98,116]⟩:ByteArray),(⟨#[65,108,108,111,99,97,116,105,111,110,66,84,114,101,101]⟩:ByteArray),litL1⟩,
 ⟨(⟨#[98,108,107,95,109,97,112]⟩:ByteArray),(⟨#[66,108,111,99,107,77,97,112,112,105,110,103]⟩:ByteArray),litL3⟩,
 ⟨(⟨#[98,109,98,116]⟩:ByteArray),(⟨#[66,108,111,99,107,77,97,112,66,84,114,101,101]⟩:ByteArray),litL1⟩,
 ⟨(⟨#[100,105,114]⟩:ByteArray),(⟨#[68,105,114,101,99,116,111,114,121,79,112,101,114,97,116,105,111,110]⟩:ByteArray),litL4⟩,
 ⟨(⟨#[116,114,97,110,115]⟩:ByteArray),(⟨#[84,114,97,110,115,97,99,116,105,111,110]⟩:ByteArray),litL5⟩,
 ⟨(⟨#[105,103]⟩:ByteArray),(⟨#[73,110,111,100,101,79,112,101,114,97,116,105,111,110]⟩:ByteArray),litL6⟩,
 ⟨(⟨#[108,111,103]⟩:ByteArray),(⟨#[76,111,103,79,112,101,114,97,116,105,111,110]⟩:ByteArray),litL7⟩,
 ⟨(⟨#[114,119]⟩:ByteArray),(⟨#[82,101,97,100,87,114,105,116,101]⟩:ByteArray),litL8⟩,
 ⟨(⟨#[97,116,116,114]⟩:ByteArray),(⟨#[65,116,116,114,105,98,117,116,101,79,112,101,114,97,116,105,111,110]⟩:ByteArray),litL9⟩,
 ⟨(⟨#[105,99,108,117,115,116,101,114]⟩:ByteArray),(⟨#[73,110,111,100,101,67,108,117,115,116,101,114,105,110,103]⟩:ByteArray),litL10⟩,
 ⟨(⟨#[118,110,111,100,101,115]⟩:ByteArray),(⟨#[86,110,111,100,101]⟩:ByteArray),litL11⟩,
 ⟨(⟨#[98,117,102]⟩:ByteArray),(⟨#[66,117,102,102,101,114]⟩:ByteArray),litL12⟩,
 ⟨(⟨#[120,112,99]⟩:ByteArray),(⟨#[69,120,116,101,110,100,101,100,80,114,101,99,105,115,105,111,110]⟩:ByteArray),litL13⟩,
 ⟨(⟨#[120,115,116,114,97,116]⟩:ByteArray),(⟨#[88,115,116,114,97,116]⟩:ByteArray),litL14⟩,
 ⟨(⟨#[112,117,115,104,95,97,105,108]⟩:ByteArray),(⟨#[80,117,115,104,65,105,108]⟩:ByteArray),litL15⟩,
 ⟨(⟨#[100,101,98,117,103]⟩:ByteArray),(⟨#[68,101,98,117,103]⟩:ByteArray),litL16⟩,
 ⟨(⟨#[113,109]⟩:ByteArray),(⟨#[81,117,111,116,97,77,97,110,97,103,101,114]⟩:ByteArray),litL17⟩,
 ⟨(⟨#[97,98,116,98,50]⟩:ByteArray),(⟨#[66,116,114,101,101,65,108,108,111,99,66,108,111,99,107,115,50]⟩:ByteArray),Qk⟩,
 ⟨(⟨#[97,98,116,99,50]⟩:ByteArray),(⟨#[66,116,114,101,101,65,108,108,111,99,67,111,110,116,105,103,50]⟩:ByteArray),Qk⟩,
 ⟨(⟨#[98,109,98,116,50]⟩:ByteArray),(⟨#[66,116,114,101,101,66,108,111,99,107,77,97,112,50]⟩:ByteArray),Qk⟩,
 ⟨(⟨#[105,98,116,50]⟩:ByteArray),(⟨#[66,116,114,101,101,73,110,111,100,101,50]⟩:ByteArray),Qk⟩,
 ⟨(⟨#[102,105,98,116,50]⟩:ByteArray),(⟨#[66,116,114,101,101,70,114,101,101,73,110,111,100,101,50]⟩:ByteArray),Qk⟩,
 ⟨(⟨#[114,109,97,112,98,116]⟩:ByteArray),(⟨#[66,116,114,101,101,82,101,118,101,114,115,101,77,97,112]⟩:ByteArray),Qk⟩,
 ⟨(⟨#[114,101,102,99,110,116,98,116]⟩:ByteArray),(⟨#[66,116,114,101,101,82,101,102,67,111,117,110,116]⟩:ByteArray),Qk⟩,
 ⟨(⟨#[114,109,97,112,98,116,95,109,101,109]⟩:ByteArray),(⟨#[66,116,114,101,101,82,101,118,101,114,115,101,77,97,112,77,101,109]⟩:ByteArray),Qk⟩,
 ⟨(⟨#[114,99,98,97,103,98,116]⟩:ByteArray),(⟨#[66,116,114,101,101,82,99,98,97,103]⟩:ByteArray),Qk⟩,
 ⟨(⟨#[114,116,114,109,97,112,98,116]⟩:ByteArray),(⟨#[66,116,114,101,101,82,116,82,101,118,101,114,115,101,77,97,112]⟩:ByteArray),Qk⟩,
 ⟨(⟨#[114,116,114,109,97,112,98,116,95,109,101,109]⟩:ByteArray),(⟨#[66,116,114,101,101,82,116,82,101,118,101,114,115,101,77,97,112,77,101,109]⟩:ByteArray),Qk⟩,
 ⟨(⟨#[114,116,114,101,102,99,110,116,98,116]⟩:ByteArray),(⟨#[66,116,114,101,101,82,116,82,101,102,67,111,117,110,116]⟩:ByteArray),Qk⟩,
 ⟨(⟨#[122,111,110,101,100]⟩:ByteArray),(⟨#[90,111,110,101,100]⟩:ByteArray),litL30⟩,
 ⟨(⟨#[109,101,116,97,102,105,108,101]⟩:ByteArray),(⟨#[77,101,116,97,70,105,108,101]⟩:ByteArray),litL31⟩,
 ⟨(⟨#[100,101,102,101,114,95,114,101,108,111,103]⟩:ByteArray),(⟨#[68,101,102,101,114,82,101,108,111,103]⟩:ByteArray),litL32⟩,
 ⟨(⟨#[103,99]⟩:ByteArray),(⟨#[71,99,88,112,99]⟩:ByteArray),litL33⟩]
theorem YD.JK {α:Type} {R:α→List Value→Prop} {ps:List α} {cs:List Value} {p:α} {x y z:Value} (hp:R p [x,y,z]) (h:YD R 3 ps cs):YD R 3 (p::ps) (x::y::z::cs):=by
 refine ⟨by simp [h.1];omega,fun j q hq=>?_⟩
 cases j with
 | zero=>simp at hq;subst hq;simpa using hp
 | succ j=>have h2:=h.2 j q (by simpa using hq);rw [show (j+1) * 3=j * 3+3 by omega];simpa using h2
set_option maxRecDepth 100000 in
theorem JL {w W:World} (hB:Below w.heap.size w W):Calls Tryz.prog 40 #[] W fun e w1=>∃ A c,e=.returned (.slice A 15 c)∧15≤c∧Kd.F Kd.string w1 (fun k=>w.heap.size≤k) A 15 Qk∧Below w.heap.size w w1∧Below W.heap.size W w1:=by
 go_enter Tryz.func40,Tryz.ntmps40
 refine wp_seq ?_;refine wp_region_list ?_;refine Kd.yh rfl run_assign ?_;refine wpList_nil ?_
 refine wp_seq ?_;refine wp_region_list ?_
 refine Ji (w:=w) hB rfl Qk 15 rfl (fun ρ W=>by kernel_rfl) Zd ?_;intro A c w1 l F B C
 refine Kd.yh rfl run_assign ?_;refine wpList_nil ?_
 refine wp_ret ?_
 exact bodyPost_ret (results_tmp rfl _ _ _) rfl ⟨A,c,rfl,l,F,B,C⟩
set_option maxHeartbeats 4000000 in
set_option maxRecDepth 100000 in
theorem ydD (w:World):Calls Tryz.prog 17 #[] w fun e w'=>∃ v0_:Value,e=.returned v0_∧Kd.N k53 53 w' w.heap.size (fun k_=>(w.heap.size≤k_)) v0_ yZ∧Below w.heap.size w w':=by
 go_enter Tryz.func17,Tryz.ntmps17
 generalize ha0:(Act.mk _ _)=a0
 have hsz:a0.tmps.size=72:=by rw [← ha0];rfl
 have hdf:a0.defers=[]:=by rw [← ha0]
 clear ha0
 refine wp_seq ?_;refine wp_region_list ?_;refine Kd.yh rfl run_assign ?_;refine wpList_nil ?_
 refine wp_seq ?_;refine wp_region_list ?_
 refine Ji (w:=w) (Below.refl w.heap.size w) rfl litL1 4 rfl (fun ρ W=>by kernel_rfl) Zd ?_;intro A1 c1 w1 l1 F1 B1 C1
 refine Kd.yh rfl run_assign ?_;refine wpList_nil ?_
 refine wp_seq ?_;refine wp_region_list ?_
 refine Ji (w:=w) B1 rfl litL2 4 rfl (fun ρ W=>by kernel_rfl) Zd ?_;intro A2 c2 w2 l2 F2 B2 C2
 refine Kd.yh rfl (Yg (cs:=#[.string (⟨#[101,120,116,101,110,116,95,97,108,108,111,99]⟩:ByteArray),.string (⟨#[69,120,116,101,110,116,65,108,108,111,99,97,116,105,111,110]⟩:ByteArray),.slice A2 4 c2]) (fun _=>rfl) (u:=.slice A2 4 c2) ?_ Zk) ?_
 · simp (disch:=first|decide|(simp only [size_put,hsz];decide)) only [ya,yb]
 refine Kd.yh rfl run_move ?_
 refine Kd.yh rfl (Yg (cs:=#[.string (⟨#[97,98,116]⟩:ByteArray),.string (⟨#[65,108,108,111,99,97,116,105,111,110,66,84,114,101,101]⟩:ByteArray),.slice A1 4 c1]) (fun _=>rfl) (u:=.slice A1 4 c1) ?_ Zk) ?_
 · simp (disch:=first|decide|(simp only [size_put,hsz];decide)) only [ya,yb]
 refine Ji (w:=w) B2 rfl litL3 7 rfl (fun ρ W=>by kernel_rfl) Zd ?_;intro A3 c3 w3 l3 F3 B3 C3
 refine Kd.yh rfl (Yg (cs:=#[.string (⟨#[98,108,107,95,109,97,112]⟩:ByteArray),.string (⟨#[66,108,111,99,107,77,97,112,112,105,110,103]⟩:ByteArray),.slice A3 7 c3]) (fun _=>rfl) (u:=.slice A3 7 c3) ?_ Zk) ?_
 · simp (disch:=first|decide|(simp only [size_put,hsz];decide)) only [ya,yb]
 refine Kd.yh rfl run_move ?_
 refine Kd.yh rfl (Yg (cs:=#[.string (⟨#[98,109,98,116]⟩:ByteArray),.string (⟨#[66,108,111,99,107,77,97,112,66,84,114,101,101]⟩:ByteArray),.slice A1 4 c1]) (fun _=>rfl) (u:=.slice A1 4 c1) ?_ Zk) ?_
 · simp (disch:=first|decide|(simp only [size_put,hsz];decide)) only [ya,yb]
 refine Ji (w:=w) B3 rfl litL4 4 rfl (fun ρ W=>by kernel_rfl) Zd ?_;intro A4 c4 w4 l4 F4 B4 C4
 refine Kd.yh rfl (Yg (cs:=#[.string (⟨#[100,105,114]⟩:ByteArray),.string (⟨#[68,105,114,101,99,116,111,114,121,79,112,101,114,97,116,105,111,110]⟩:ByteArray),.slice A4 4 c4]) (fun _=>rfl) (u:=.slice A4 4 c4) ?_ Zk) ?_
 · simp (disch:=first|decide|(simp only [size_put,hsz];decide)) only [ya,yb]
 refine Ji (w:=w) B4 rfl litL5 3 rfl (fun ρ W=>by kernel_rfl) Zd ?_;intro A5 c5 w5 l5 F5 B5 C5
 refine Kd.yh rfl (Yg (cs:=#[.string (⟨#[116,114,97,110,115]⟩:ByteArray),.string (⟨#[84,114,97,110,115,97,99,116,105,111,110]⟩:ByteArray),.slice A5 3 c5]) (fun _=>rfl) (u:=.slice A5 3 c5) ?_ Zk) ?_
 · simp (disch:=first|decide|(simp only [size_put,hsz];decide)) only [ya,yb]
 refine Ji (w:=w) B5 rfl litL6 7 rfl (fun ρ W=>by kernel_rfl) Zd ?_;intro A6 c6 w6 l6 F6 B6 C6
 refine Kd.yh rfl (Yg (cs:=#[.string (⟨#[105,103]⟩:ByteArray),.string (⟨#[73,110,111,100,101,79,112,101,114,97,116,105,111,110]⟩:ByteArray),.slice A6 7 c6]) (fun _=>rfl) (u:=.slice A6 7 c6) ?_ Zk) ?_
 · simp (disch:=first|decide|(simp only [size_put,hsz];decide)) only [ya,yb]
 refine Ji (w:=w) B6 rfl litL7 5 rfl (fun ρ W=>by kernel_rfl) Zd ?_;intro A7 c7 w7 l7 F7 B7 C7
 refine Kd.yh rfl (Yg (cs:=#[.string (⟨#[108,111,103]⟩:ByteArray),.string (⟨#[76,111,103,79,112,101,114,97,116,105,111,110]⟩:ByteArray),.slice A7 5 c7]) (fun _=>rfl) (u:=.slice A7 5 c7) ?_ Zk) ?_
 · simp (disch:=first|decide|(simp only [size_put,hsz];decide)) only [ya,yb]
 refine Ji (w:=w) B7 rfl litL8 2 rfl (fun ρ W=>by kernel_rfl) Zd ?_;intro A8 c8 w8 l8 F8 B8 C8
 refine Kd.yh rfl (Yg (cs:=#[.string (⟨#[114,119]⟩:ByteArray),.string (⟨#[82,101,97,100,87,114,105,116,101]⟩:ByteArray),.slice A8 2 c8]) (fun _=>rfl) (u:=.slice A8 2 c8) ?_ Zk) ?_
 · simp (disch:=first|decide|(simp only [size_put,hsz];decide)) only [ya,yb]
 refine Ji (w:=w) B8 rfl litL9 4 rfl (fun ρ W=>by kernel_rfl) Zd ?_;intro A9 c9 w9 l9 F9 B9 C9
 refine Kd.yh rfl (Yg (cs:=#[.string (⟨#[97,116,116,114]⟩:ByteArray),.string (⟨#[65,116,116,114,105,98,117,116,101,79,112,101,114,97,116,105,111,110]⟩:ByteArray),.slice A9 4 c9]) (fun _=>rfl) (u:=.slice A9 4 c9) ?_ Zk) ?_
 · simp (disch:=first|decide|(simp only [size_put,hsz];decide)) only [ya,yb]
 refine Ji (w:=w) B9 rfl litL10 3 rfl (fun ρ W=>by kernel_rfl) Zd ?_;intro A10 c10 w10 l10 F10 B10 C10
 refine Kd.yh rfl (Yg (cs:=#[.string (⟨#[105,99,108,117,115,116,101,114]⟩:ByteArray),.string (⟨#[73,110,111,100,101,67,108,117,115,116,101,114,105,110,103]⟩:ByteArray),.slice A10 3 c10]) (fun _=>rfl) (u:=.slice A10 3 c10) ?_ Zk) ?_
 · simp (disch:=first|decide|(simp only [size_put,hsz];decide)) only [ya,yb]
 refine Ji (w:=w) B10 rfl litL11 8 rfl (fun ρ W=>by kernel_rfl) Zd ?_;intro A11 c11 w11 l11 F11 B11 C11
 refine Kd.yh rfl (Yg (cs:=#[.string (⟨#[118,110,111,100,101,115]⟩:ByteArray),.string (⟨#[86,110,111,100,101]⟩:ByteArray),.slice A11 8 c11]) (fun _=>rfl) (u:=.slice A11 8 c11) ?_ Zk) ?_
 · simp (disch:=first|decide|(simp only [size_put,hsz];decide)) only [ya,yb]
 refine Ji (w:=w) B11 rfl litL12 9 rfl (fun ρ W=>by kernel_rfl) Zd ?_;intro A12 c12 w12 l12 F12 B12 C12
 refine Kd.yh rfl (Yg (cs:=#[.string (⟨#[98,117,102]⟩:ByteArray),.string (⟨#[66,117,102,102,101,114]⟩:ByteArray),.slice A12 9 c12]) (fun _=>rfl) (u:=.slice A12 9 c12) ?_ Zk) ?_
 · simp (disch:=first|decide|(simp only [size_put,hsz];decide)) only [ya,yb]
 refine Ji (w:=w) B12 rfl litL13 3 rfl (fun ρ W=>by kernel_rfl) Zd ?_;intro A13 c13 w13 l13 F13 B13 C13
 refine Kd.yh rfl (Yg (cs:=#[.string (⟨#[120,112,99]⟩:ByteArray),.string (⟨#[69,120,116,101,110,100,101,100,80,114,101,99,105,115,105,111,110]⟩:ByteArray),.slice A13 3 c13]) (fun _=>rfl) (u:=.slice A13 3 c13) ?_ Zk) ?_
 · simp (disch:=first|decide|(simp only [size_put,hsz];decide)) only [ya,yb]
 refine Ji (w:=w) B13 rfl litL14 2 rfl (fun ρ W=>by kernel_rfl) Zd ?_;intro A14 c14 w14 l14 F14 B14 C14
 refine Kd.yh rfl (Yg (cs:=#[.string (⟨#[120,115,116,114,97,116]⟩:ByteArray),.string (⟨#[88,115,116,114,97,116]⟩:ByteArray),.slice A14 2 c14]) (fun _=>rfl) (u:=.slice A14 2 c14) ?_ Zk) ?_
 · simp (disch:=first|decide|(simp only [size_put,hsz];decide)) only [ya,yb]
 refine Ji (w:=w) B14 rfl litL15 10 rfl (fun ρ W=>by kernel_rfl) Zd ?_;intro A15 c15 w15 l15 F15 B15 C15
 refine Kd.yh rfl (Yg (cs:=#[.string (⟨#[112,117,115,104,95,97,105,108]⟩:ByteArray),.string (⟨#[80,117,115,104,65,105,108]⟩:ByteArray),.slice A15 10 c15]) (fun _=>rfl) (u:=.slice A15 10 c15) ?_ Zk) ?_
 · simp (disch:=first|decide|(simp only [size_put,hsz];decide)) only [ya,yb]
 refine Ji (w:=w) B15 rfl litL16 1 rfl (fun ρ W=>by kernel_rfl) Zd ?_;intro A16 c16 w16 l16 F16 B16 C16
 refine Kd.yh rfl (Yg (cs:=#[.string (⟨#[100,101,98,117,103]⟩:ByteArray),.string (⟨#[68,101,98,117,103]⟩:ByteArray),.slice A16 1 c16]) (fun _=>rfl) (u:=.slice A16 1 c16) ?_ Zk) ?_
 · simp (disch:=first|decide|(simp only [size_put,hsz];decide)) only [ya,yb]
 refine Ji (w:=w) B16 rfl litL17 9 rfl (fun ρ W=>by kernel_rfl) Zd ?_;intro A17 c17 w17 l17 F17 B17 C17
 refine Kd.yh rfl (Yg (cs:=#[.string (⟨#[113,109]⟩:ByteArray),.string (⟨#[81,117,111,116,97,77,97,110,97,103,101,114]⟩:ByteArray),.slice A17 9 c17]) (fun _=>rfl) (u:=.slice A17 9 c17) ?_ Zk) ?_
 · simp (disch:=first|decide|(simp only [size_put,hsz];decide)) only [ya,yb]
 refine Yp (some 39) rfl rfl Tryz.func40 Zk rfl #[] rfl (by simp only [List.map_toArray,List.map_nil]) ?_;refine (JL B17).mono ?_;rintro e w18 ⟨A18,c18,rfl,l18,F18,B18,C18⟩;refine ⟨_,rfl,?_⟩
 refine Kd.yh rfl (Yg (cs:=#[.string (⟨#[97,98,116,98,50]⟩:ByteArray),.string (⟨#[66,116,114,101,101,65,108,108,111,99,66,108,111,99,107,115,50]⟩:ByteArray),.slice A18 15 c18]) (fun _=>rfl) (u:=.slice A18 15 c18) ?_ Zk) ?_
 · simp (disch:=first|decide|(simp only [size_put,hsz];decide)) only [ya,yb]
 refine Yp (some 41) rfl rfl Tryz.func40 Zk rfl #[] rfl (by simp only [List.map_toArray,List.map_nil]) ?_;refine (JL B18).mono ?_;rintro e w19 ⟨A19,c19,rfl,l19,F19,B19,C19⟩;refine ⟨_,rfl,?_⟩
 refine Kd.yh rfl (Yg (cs:=#[.string (⟨#[97,98,116,99,50]⟩:ByteArray),.string (⟨#[66,116,114,101,101,65,108,108,111,99,67,111,110,116,105,103,50]⟩:ByteArray),.slice A19 15 c19]) (fun _=>rfl) (u:=.slice A19 15 c19) ?_ Zk) ?_
 · simp (disch:=first|decide|(simp only [size_put,hsz];decide)) only [ya,yb]
 refine Yp (some 43) rfl rfl Tryz.func40 Zk rfl #[] rfl (by simp only [List.map_toArray,List.map_nil]) ?_;refine (JL B19).mono ?_;rintro e w20 ⟨A20,c20,rfl,l20,F20,B20,C20⟩;refine ⟨_,rfl,?_⟩
 refine Kd.yh rfl (Yg (cs:=#[.string (⟨#[98,109,98,116,50]⟩:ByteArray),.string (⟨#[66,116,114,101,101,66,108,111,99,107,77,97,112,50]⟩:ByteArray),.slice A20 15 c20]) (fun _=>rfl) (u:=.slice A20 15 c20) ?_ Zk) ?_
 · simp (disch:=first|decide|(simp only [size_put,hsz];decide)) only [ya,yb]
 refine Yp (some 45) rfl rfl Tryz.func40 Zk rfl #[] rfl (by simp only [List.map_toArray,List.map_nil]) ?_;refine (JL B20).mono ?_;rintro e w21 ⟨A21,c21,rfl,l21,F21,B21,C21⟩;refine ⟨_,rfl,?_⟩
 refine Kd.yh rfl (Yg (cs:=#[.string (⟨#[105,98,116,50]⟩:ByteArray),.string (⟨#[66,116,114,101,101,73,110,111,100,101,50]⟩:ByteArray),.slice A21 15 c21]) (fun _=>rfl) (u:=.slice A21 15 c21) ?_ Zk) ?_
 · simp (disch:=first|decide|(simp only [size_put,hsz];decide)) only [ya,yb]
 refine Yp (some 47) rfl rfl Tryz.func40 Zk rfl #[] rfl (by simp only [List.map_toArray,List.map_nil]) ?_;refine (JL B21).mono ?_;rintro e w22 ⟨A22,c22,rfl,l22,F22,B22,C22⟩;refine ⟨_,rfl,?_⟩
 refine Kd.yh rfl (Yg (cs:=#[.string (⟨#[102,105,98,116,50]⟩:ByteArray),.string (⟨#[66,116,114,101,101,70,114,101,101,73,110,111,100,101,50]⟩:ByteArray),.slice A22 15 c22]) (fun _=>rfl) (u:=.slice A22 15 c22) ?_ Zk) ?_
 · simp (disch:=first|decide|(simp only [size_put,hsz];decide)) only [ya,yb]
 refine Yp (some 49) rfl rfl Tryz.func40 Zk rfl #[] rfl (by simp only [List.map_toArray,List.map_nil]) ?_;refine (JL B22).mono ?_;rintro e w23 ⟨A23,c23,rfl,l23,F23,B23,C23⟩;refine ⟨_,rfl,?_⟩
 refine Kd.yh rfl (Yg (cs:=#[.string (⟨#[114,109,97,112,98,116]⟩:ByteArray),.string (⟨#[66,116,114,101,101,82,101,118,101,114,115,101,77,97,112]⟩:ByteArray),.slice A23 15 c23]) (fun _=>rfl) (u:=.slice A23 15 c23) ?_ Zk) ?_
 · simp (disch:=first|decide|(simp only [size_put,hsz];decide)) only [ya,yb]
 refine Yp (some 51) rfl rfl Tryz.func40 Zk rfl #[] rfl (by simp only [List.map_toArray,List.map_nil]) ?_;refine (JL B23).mono ?_;rintro e w24 ⟨A24,c24,rfl,l24,F24,B24,C24⟩;refine ⟨_,rfl,?_⟩
 refine Kd.yh rfl (Yg (cs:=#[.string (⟨#[114,101,102,99,110,116,98,116]⟩:ByteArray),.string (⟨#[66,116,114,101,101,82,101,102,67,111,117,110,116]⟩:ByteArray),.slice A24 15 c24]) (fun _=>rfl) (u:=.slice A24 15 c24) ?_ Zk) ?_
 · simp (disch:=first|decide|(simp only [size_put,hsz];decide)) only [ya,yb]
 refine Yp (some 53) rfl rfl Tryz.func40 Zk rfl #[] rfl (by simp only [List.map_toArray,List.map_nil]) ?_;refine (JL B24).mono ?_;rintro e w25 ⟨A25,c25,rfl,l25,F25,B25,C25⟩;refine ⟨_,rfl,?_⟩
 refine Kd.yh rfl (Yg (cs:=#[.string (⟨#[114,109,97,112,98,116,95,109,101,109]⟩:ByteArray),.string (⟨#[66,116,114,101,101,82,101,118,101,114,115,101,77,97,112,77,101,109]⟩:ByteArray),.slice A25 15 c25]) (fun _=>rfl) (u:=.slice A25 15 c25) ?_ Zk) ?_
 · simp (disch:=first|decide|(simp only [size_put,hsz];decide)) only [ya,yb]
 refine Yp (some 55) rfl rfl Tryz.func40 Zk rfl #[] rfl (by simp only [List.map_toArray,List.map_nil]) ?_;refine (JL B25).mono ?_;rintro e w26 ⟨A26,c26,rfl,l26,F26,B26,C26⟩;refine ⟨_,rfl,?_⟩
 refine Kd.yh rfl (Yg (cs:=#[.string (⟨#[114,99,98,97,103,98,116]⟩:ByteArray),.string (⟨#[66,116,114,101,101,82,99,98,97,103]⟩:ByteArray),.slice A26 15 c26]) (fun _=>rfl) (u:=.slice A26 15 c26) ?_ Zk) ?_
 · simp (disch:=first|decide|(simp only [size_put,hsz];decide)) only [ya,yb]
 refine Yp (some 57) rfl rfl Tryz.func40 Zk rfl #[] rfl (by simp only [List.map_toArray,List.map_nil]) ?_;refine (JL B26).mono ?_;rintro e w27 ⟨A27,c27,rfl,l27,F27,B27,C27⟩;refine ⟨_,rfl,?_⟩
 refine Kd.yh rfl (Yg (cs:=#[.string (⟨#[114,116,114,109,97,112,98,116]⟩:ByteArray),.string (⟨#[66,116,114,101,101,82,116,82,101,118,101,114,115,101,77,97,112]⟩:ByteArray),.slice A27 15 c27]) (fun _=>rfl) (u:=.slice A27 15 c27) ?_ Zk) ?_
 · simp (disch:=first|decide|(simp only [size_put,hsz];decide)) only [ya,yb]
 refine Yp (some 59) rfl rfl Tryz.func40 Zk rfl #[] rfl (by simp only [List.map_toArray,List.map_nil]) ?_;refine (JL B27).mono ?_;rintro e w28 ⟨A28,c28,rfl,l28,F28,B28,C28⟩;refine ⟨_,rfl,?_⟩
 refine Kd.yh rfl (Yg (cs:=#[.string (⟨#[114,116,114,109,97,112,98,116,95,109,101,109]⟩:ByteArray),.string (⟨#[66,116,114,101,101,82,116,82,101,118,101,114,115,101,77,97,112,77,101,109]⟩:ByteArray),.slice A28 15 c28]) (fun _=>rfl) (u:=.slice A28 15 c28) ?_ Zk) ?_
 · simp (disch:=first|decide|(simp only [size_put,hsz];decide)) only [ya,yb]
 refine Yp (some 61) rfl rfl Tryz.func40 Zk rfl #[] rfl (by simp only [List.map_toArray,List.map_nil]) ?_;refine (JL B28).mono ?_;rintro e w29 ⟨A29,c29,rfl,l29,F29,B29,C29⟩;refine ⟨_,rfl,?_⟩
 refine Kd.yh rfl (Yg (cs:=#[.string (⟨#[114,116,114,101,102,99,110,116,98,116]⟩:ByteArray),.string (⟨#[66,116,114,101,101,82,116,82,101,102,67,111,117,110,116]⟩:ByteArray),.slice A29 15 c29]) (fun _=>rfl) (u:=.slice A29 15 c29) ?_ Zk) ?_
 · simp (disch:=first|decide|(simp only [size_put,hsz];decide)) only [ya,yb]
 refine Ji (w:=w) B29 rfl litL30 3 rfl (fun ρ W=>by kernel_rfl) Zd ?_;intro A30 c30 w30 l30 F30 B30 C30
 refine Kd.yh rfl (Yg (cs:=#[.string (⟨#[122,111,110,101,100]⟩:ByteArray),.string (⟨#[90,111,110,101,100]⟩:ByteArray),.slice A30 3 c30]) (fun _=>rfl) (u:=.slice A30 3 c30) ?_ Zk) ?_
 · simp (disch:=first|decide|(simp only [size_put,hsz];decide)) only [ya,yb]
 refine Ji (w:=w) B30 rfl litL31 1 rfl (fun ρ W=>by kernel_rfl) Zd ?_;intro A31 c31 w31 l31 F31 B31 C31
 refine Kd.yh rfl (Yg (cs:=#[.string (⟨#[109,101,116,97,102,105,108,101]⟩:ByteArray),.string (⟨#[77,101,116,97,70,105,108,101]⟩:ByteArray),.slice A31 1 c31]) (fun _=>rfl) (u:=.slice A31 1 c31) ?_ Zk) ?_
 · simp (disch:=first|decide|(simp only [size_put,hsz];decide)) only [ya,yb]
 refine Ji (w:=w) B31 rfl litL32 1 rfl (fun ρ W=>by kernel_rfl) Zd ?_;intro A32 c32 w32 l32 F32 B32 C32
 refine Kd.yh rfl (Yg (cs:=#[.string (⟨#[100,101,102,101,114,95,114,101,108,111,103]⟩:ByteArray),.string (⟨#[68,101,102,101,114,82,101,108,111,103]⟩:ByteArray),.slice A32 1 c32]) (fun _=>rfl) (u:=.slice A32 1 c32) ?_ Zk) ?_
 · simp (disch:=first|decide|(simp only [size_put,hsz];decide)) only [ya,yb]
 refine Ji (w:=w) B32 rfl litL33 1 rfl (fun ρ W=>by kernel_rfl) Zd ?_;intro A33 c33 w33 l33 F33 B33 C33
 refine Kd.yh rfl (Yg (cs:=#[.string (⟨#[103,99]⟩:ByteArray),.string (⟨#[71,99,88,112,99]⟩:ByteArray),.slice A33 1 c33]) (fun _=>rfl) (u:=.slice A33 1 c33) ?_ Zk) ?_
 · simp (disch:=first|decide|(simp only [size_put,hsz];decide)) only [ya,yb]
 have D33:Below w33.heap.size w33 w33:=Below.refl _ _
 have D32:Below w32.heap.size w32 w33:=C33.trans (D33.mono C33.size)
 have D31:Below w31.heap.size w31 w33:=C32.trans (D32.mono C32.size)
 have D30:Below w30.heap.size w30 w33:=C31.trans (D31.mono C31.size)
 have D29:Below w29.heap.size w29 w33:=C30.trans (D30.mono C30.size)
 have D28:Below w28.heap.size w28 w33:=C29.trans (D29.mono C29.size)
 have D27:Below w27.heap.size w27 w33:=C28.trans (D28.mono C28.size)
 have D26:Below w26.heap.size w26 w33:=C27.trans (D27.mono C27.size)
 have D25:Below w25.heap.size w25 w33:=C26.trans (D26.mono C26.size)
 have D24:Below w24.heap.size w24 w33:=C25.trans (D25.mono C25.size)
 have D23:Below w23.heap.size w23 w33:=C24.trans (D24.mono C24.size)
 have D22:Below w22.heap.size w22 w33:=C23.trans (D23.mono C23.size)
 have D21:Below w21.heap.size w21 w33:=C22.trans (D22.mono C22.size)
 have D20:Below w20.heap.size w20 w33:=C21.trans (D21.mono C21.size)
 have D19:Below w19.heap.size w19 w33:=C20.trans (D20.mono C20.size)
 have D18:Below w18.heap.size w18 w33:=C19.trans (D19.mono C19.size)
 have D17:Below w17.heap.size w17 w33:=C18.trans (D18.mono C18.size)
 have D16:Below w16.heap.size w16 w33:=C17.trans (D17.mono C17.size)
 have D15:Below w15.heap.size w15 w33:=C16.trans (D16.mono C16.size)
 have D14:Below w14.heap.size w14 w33:=C15.trans (D15.mono C15.size)
 have D13:Below w13.heap.size w13 w33:=C14.trans (D14.mono C14.size)
 have D12:Below w12.heap.size w12 w33:=C13.trans (D13.mono C13.size)
 have D11:Below w11.heap.size w11 w33:=C12.trans (D12.mono C12.size)
 have D10:Below w10.heap.size w10 w33:=C11.trans (D11.mono C11.size)
 have D9:Below w9.heap.size w9 w33:=C10.trans (D10.mono C10.size)
 have D8:Below w8.heap.size w8 w33:=C9.trans (D9.mono C9.size)
 have D7:Below w7.heap.size w7 w33:=C8.trans (D8.mono C8.size)
 have D6:Below w6.heap.size w6 w33:=C7.trans (D7.mono C7.size)
 have D5:Below w5.heap.size w5 w33:=C6.trans (D6.mono C6.size)
 have D4:Below w4.heap.size w4 w33:=C5.trans (D5.mono C5.size)
 have D3:Below w3.heap.size w3 w33:=C4.trans (D4.mono C4.size)
 have D2:Below w2.heap.size w2 w33:=C3.trans (D3.mono C3.size)
 have D1:Below w1.heap.size w1 w33:=C2.trans (D2.mono C2.size)
 refine Kd.N_lit k53 (w0:=w) w.heap.size 53 rfl (N':=71) rfl (xs:=yZ) (inner:=[.string (⟨#[101,120,116,101,110,116,95,97,108,108,111,99]⟩:ByteArray),.string (⟨#[69,120,116,101,110,116,65,108,108,111,99,97,116,105,111,110]⟩:ByteArray),.slice A2 4 c2,.string (⟨#[97,98,116]⟩:ByteArray),.string (⟨#[65,108,108,111,99,97,116,105,111,110,66,84,114,101,101]⟩:ByteArray),.slice A1 4 c1,.string (⟨#[98,108,107,95,109,97,112]⟩:ByteArray),.string (⟨#[66,108,111,99,107,77,97,112,112,105,110,103]⟩:ByteArray),.slice A3 7 c3,.string (⟨#[98,109,98,116]⟩:ByteArray),.string (⟨#[66,108,111,99,107,77,97,112,66,84,114,101,101]⟩:ByteArray),.slice A1 4 c1,.string (⟨#[100,105,114]⟩:ByteArray),.string (⟨#[68,105,114,101,99,116,111,114,121,79,112,101,114,97,116,105,111,110]⟩:ByteArray),.slice A4 4 c4,.string (⟨#[116,114,97,110,115]⟩:ByteArray),.string (⟨#[84,114,97,110,115,97,99,116,105,111,110]⟩:ByteArray),.slice A5 3 c5,.string (⟨#[105,103]⟩:ByteArray),.string (⟨#[73,110,111,100,101,79,112,101,114,97,116,105,111,110]⟩:ByteArray),.slice A6 7 c6,.string (⟨#[108,111,103]⟩:ByteArray),.string (⟨#[76,111,103,79,112,101,114,97,116,105,111,110]⟩:ByteArray),.slice A7 5 c7,.string (⟨#[114,119]⟩:ByteArray),.string (⟨#[82,101,97,100,87,114,105,116,101]⟩:ByteArray),.slice A8 2 c8,.string (⟨#[97,116,116,114]⟩:ByteArray),.string (⟨#[65,116,116,114,105,98,117,116,101,79,112,101,114,97,116,105,111,110]⟩:ByteArray),.slice A9 4 c9,.string (⟨#[105,99,108,117,115,116,101,114]⟩:ByteArray),.string (⟨#[73,110,111,100,101,67,108,117,115,116,101,114,105,110,103]⟩:ByteArray),.slice A10 3 c10,.string (⟨#[118,110,111,100,101,115]⟩:ByteArray),.string (⟨#[86,110,111,100,101]⟩:ByteArray),.slice A11 8 c11,.string (⟨#[98,117,102]⟩:ByteArray),.string (⟨#[66,117,102,102,101,114]⟩:ByteArray),.slice A12 9 c12,.string (⟨#[120,112,99]⟩:ByteArray),.string (⟨#[69,120,116,101,110,100,101,100,80,114,101,99,105,115,105,111,110]⟩:ByteArray),.slice A13 3 c13,.string (⟨#[120,115,116,114,97,116]⟩:ByteArray),.string (⟨#[88,115,116,114,97,116]⟩:ByteArray),.slice A14 2 c14,.string (⟨#[112,117,115,104,95,97,105,108]⟩:ByteArray),.string (⟨#[80,117,115,104,65,105,108]⟩:ByteArray),.slice A15 10 c15,.string (⟨#[100,101,98,117,103]⟩:ByteArray),.string (⟨#[68,101,98,117,103]⟩:ByteArray),.slice A16 1 c16,.string (⟨#[113,109]⟩:ByteArray),.string (⟨#[81,117,111,116,97,77,97,110,97,103,101,114]⟩:ByteArray),.slice A17 9 c17,.string (⟨#[97,98,116,98,50]⟩:ByteArray),.string (⟨#[66,116,114,101,101,65,108,108,111,99,66,108,111,99,107,115,50]⟩:ByteArray),.slice A18 15 c18,.string (⟨#[97,98,116,99,50]⟩:ByteArray),.string (⟨#[66,116,114,101,101,65,108,108,111,99,67,111,110,116,105,103,50]⟩:ByteArray),.slice A19 15 c19,.string (⟨#[98,109,98,116,50]⟩:ByteArray),.string (⟨#[66,116,114,101,101,66,108,111,99,107,77,97,112,50]⟩:ByteArray),.slice A20 15 c20,.string (⟨#[105,98,116,50]⟩:ByteArray),.string (⟨#[66,116,114,101,101,73,110,111,100,101,50]⟩:ByteArray),.slice A21 15 c21,.string (⟨#[102,105,98,116,50]⟩:ByteArray),.string (⟨#[66,116,114,101,101,70,114,101,101,73,110,111,100,101,50]⟩:ByteArray),.slice A22 15 c22,.string (⟨#[114,109,97,112,98,116]⟩:ByteArray),.string (⟨#[66,116,114,101,101,82,101,118,101,114,115,101,77,97,112]⟩:ByteArray),.slice A23 15 c23,.string (⟨#[114,101,102,99,110,116,98,116]⟩:ByteArray),.string (⟨#[66,116,114,101,101,82,101,102,67,111,117,110,116]⟩:ByteArray),.slice A24 15 c24,.string (⟨#[114,109,97,112,98,116,95,109,101,109]⟩:ByteArray),.string (⟨#[66,116,114,101,101,82,101,118,101,114,115,101,77,97,112,77,101,109]⟩:ByteArray),.slice A25 15 c25,.string (⟨#[114,99,98,97,103,98,116]⟩:ByteArray),.string (⟨#[66,116,114,101,101,82,99,98,97,103]⟩:ByteArray),.slice A26 15 c26,.string (⟨#[114,116,114,109,97,112,98,116]⟩:ByteArray),.string (⟨#[66,116,114,101,101,82,116,82,101,118,101,114,115,101,77,97,112]⟩:ByteArray),.slice A27 15 c27,.string (⟨#[114,116,114,109,97,112,98,116,95,109,101,109]⟩:ByteArray),.string (⟨#[66,116,114,101,101,82,116,82,101,118,101,114,115,101,77,97,112,77,101,109]⟩:ByteArray),.slice A28 15 c28,.string (⟨#[114,116,114,101,102,99,110,116,98,116]⟩:ByteArray),.string (⟨#[66,116,114,101,101,82,116,82,101,102,67,111,117,110,116]⟩:ByteArray),.slice A29 15 c29,.string (⟨#[122,111,110,101,100]⟩:ByteArray),.string (⟨#[90,111,110,101,100]⟩:ByteArray),.slice A30 3 c30,.string (⟨#[109,101,116,97,102,105,108,101]⟩:ByteArray),.string (⟨#[77,101,116,97,70,105,108,101]⟩:ByteArray),.slice A31 1 c31,.string (⟨#[100,101,102,101,114,95,114,101,108,111,103]⟩:ByteArray),.string (⟨#[68,101,102,101,114,82,101,108,111,103]⟩:ByteArray),.slice A32 1 c32,.string (⟨#[103,99]⟩:ByteArray),.string (⟨#[71,99,88,112,99]⟩:ByteArray),.slice A33 1 c33]) (ok:=fun k=>w.heap.size≤k) (okp:=fun k=>w.heap.size≤k) ?hr ?hp (fun _ hk=>hk) (yt B33) B33 (yt B33) Zd ?_
 case hr=>
  refine Jc (s:=Instr.buildSlice 50 34 #[(0,.agg #[.string (⟨#[101,120,116,101,110,116,95,97,108,108,111,99]⟩:ByteArray),.string (⟨#[69,120,116,101,110,116,65,108,108,111,99,97,116,105,111,110]⟩:ByteArray),.slice A2 4 c2]),(1,.agg #[.string (⟨#[97,98,116]⟩:ByteArray),.string (⟨#[65,108,108,111,99,97,116,105,111,110,66,84,114,101,101]⟩:ByteArray),.slice A1 4 c1]),(2,.agg #[.string (⟨#[98,108,107,95,109,97,112]⟩:ByteArray),.string (⟨#[66,108,111,99,107,77,97,112,112,105,110,103]⟩:ByteArray),.slice A3 7 c3]),(3,.agg #[.string (⟨#[98,109,98,116]⟩:ByteArray),.string (⟨#[66,108,111,99,107,77,97,112,66,84,114,101,101]⟩:ByteArray),.slice A1 4 c1]),(4,.agg #[.string (⟨#[100,105,114]⟩:ByteArray),.string (⟨#[68,105,114,101,99,116,111,114,121,79,112,101,114,97,116,105,111,110]⟩:ByteArray),.slice A4 4 c4]),(5,.agg #[.string (⟨#[116,114,97,110,115]⟩:ByteArray),.string (⟨#[84,114,97,110,115,97,99,116,105,111,110]⟩:ByteArray),.slice A5 3 c5]),(6,.agg #[.string (⟨#[105,103]⟩:ByteArray),.string (⟨#[73,110,111,100,101,79,112,101,114,97,116,105,111,110]⟩:ByteArray),.slice A6 7 c6]),(7,.agg #[.string (⟨#[108,111,103]⟩:ByteArray),.string (⟨#[76,111,103,79,112,101,114,97,116,105,111,110]⟩:ByteArray),.slice A7 5 c7]),(8,.agg #[.string (⟨#[114,119]⟩:ByteArray),.string (⟨#[82,101,97,100,87,114,105,116,101]⟩:ByteArray),.slice A8 2 c8]),(9,.agg #[.string (⟨#[97,116,116,114]⟩:ByteArray),.string (⟨#[65,116,116,114,105,98,117,116,101,79,112,101,114,97,116,105,111,110]⟩:ByteArray),.slice A9 4 c9]),(10,.agg #[.string (⟨#[105,99,108,117,115,116,101,114]⟩:ByteArray),.string (⟨#[73,110,111,100,101,67,108,117,115,116,101,114,105,110,103]⟩:ByteArray),.slice A10 3 c10]),(11,.agg #[.string (⟨#[118,110,111,100,101,115]⟩:ByteArray),.string (⟨#[86,110,111,100,101]⟩:ByteArray),.slice A11 8 c11]),(12,.agg #[.string (⟨#[98,117,102]⟩:ByteArray),.string (⟨#[66,117,102,102,101,114]⟩:ByteArray),.slice A12 9 c12]),(13,.agg #[.string (⟨#[120,112,99]⟩:ByteArray),.string (⟨#[69,120,116,101,110,100,101,100,80,114,101,99,105,115,105,111,110]⟩:ByteArray),.slice A13 3 c13]),(14,.agg #[.string (⟨#[120,115,116,114,97,116]⟩:ByteArray),.string (⟨#[88,115,116,114,97,116]⟩:ByteArray),.slice A14 2 c14]),(15,.agg #[.string (⟨#[112,117,115,104,95,97,105,108]⟩:ByteArray),.string (⟨#[80,117,115,104,65,105,108]⟩:ByteArray),.slice A15 10 c15]),(16,.agg #[.string (⟨#[100,101,98,117,103]⟩:ByteArray),.string (⟨#[68,101,98,117,103]⟩:ByteArray),.slice A16 1 c16]),(17,.agg #[.string (⟨#[113,109]⟩:ByteArray),.string (⟨#[81,117,111,116,97,77,97,110,97,103,101,114]⟩:ByteArray),.slice A17 9 c17]),(18,.agg #[.string (⟨#[97,98,116,98,50]⟩:ByteArray),.string (⟨#[66,116,114,101,101,65,108,108,111,99,66,108,111,99,107,115,50]⟩:ByteArray),.slice A18 15 c18]),(19,.agg #[.string (⟨#[97,98,116,99,50]⟩:ByteArray),.string (⟨#[66,116,114,101,101,65,108,108,111,99,67,111,110,116,105,103,50]⟩:ByteArray),.slice A19 15 c19]),(20,.agg #[.string (⟨#[98,109,98,116,50]⟩:ByteArray),.string (⟨#[66,116,114,101,101,66,108,111,99,107,77,97,112,50]⟩:ByteArray),.slice A20 15 c20]),(21,.agg #[.string (⟨#[105,98,116,50]⟩:ByteArray),.string (⟨#[66,116,114,101,101,73,110,111,100,101,50]⟩:ByteArray),.slice A21 15 c21]),(22,.agg #[.string (⟨#[102,105,98,116,50]⟩:ByteArray),.string (⟨#[66,116,114,101,101,70,114,101,101,73,110,111,100,101,50]⟩:ByteArray),.slice A22 15 c22]),(23,.agg #[.string (⟨#[114,109,97,112,98,116]⟩:ByteArray),.string (⟨#[66,116,114,101,101,82,101,118,101,114,115,101,77,97,112]⟩:ByteArray),.slice A23 15 c23]),(24,.agg #[.string (⟨#[114,101,102,99,110,116,98,116]⟩:ByteArray),.string (⟨#[66,116,114,101,101,82,101,102,67,111,117,110,116]⟩:ByteArray),.slice A24 15 c24]),(25,.agg #[.string (⟨#[114,109,97,112,98,116,95,109,101,109]⟩:ByteArray),.string (⟨#[66,116,114,101,101,82,101,118,101,114,115,101,77,97,112,77,101,109]⟩:ByteArray),.slice A25 15 c25]),(26,.agg #[.string (⟨#[114,99,98,97,103,98,116]⟩:ByteArray),.string (⟨#[66,116,114,101,101,82,99,98,97,103]⟩:ByteArray),.slice A26 15 c26]),(27,.agg #[.string (⟨#[114,116,114,109,97,112,98,116]⟩:ByteArray),.string (⟨#[66,116,114,101,101,82,116,82,101,118,101,114,115,101,77,97,112]⟩:ByteArray),.slice A27 15 c27]),(28,.agg #[.string (⟨#[114,116,114,109,97,112,98,116,95,109,101,109]⟩:ByteArray),.string (⟨#[66,116,114,101,101,82,116,82,101,118,101,114,115,101,77,97,112,77,101,109]⟩:ByteArray),.slice A28 15 c28]),(29,.agg #[.string (⟨#[114,116,114,101,102,99,110,116,98,116]⟩:ByteArray),.string (⟨#[66,116,114,101,101,82,116,82,101,102,67,111,117,110,116]⟩:ByteArray),.slice A29 15 c29]),(30,.agg #[.string (⟨#[122,111,110,101,100]⟩:ByteArray),.string (⟨#[90,111,110,101,100]⟩:ByteArray),.slice A30 3 c30]),(31,.agg #[.string (⟨#[109,101,116,97,102,105,108,101]⟩:ByteArray),.string (⟨#[77,101,116,97,70,105,108,101]⟩:ByteArray),.slice A31 1 c31]),(32,.agg #[.string (⟨#[100,101,102,101,114,95,114,101,108,111,103]⟩:ByteArray),.string (⟨#[68,101,102,101,114,82,101,108,111,103]⟩:ByteArray),.slice A32 1 c32]),(33,.agg #[.string (⟨#[103,99]⟩:ByteArray),.string (⟨#[71,99,88,112,99]⟩:ByteArray),.slice A33 1 c33])]) Zk |> (fun h_=>Eq.trans (congrArg (fun s_=>Sem.run _ s_ _) ?_) h_)
  unfold execOp;simp only [List.map_toArray,List.map_cons,List.map_nil]
  simp (disch:=first|decide|(simp only [size_put,hsz];decide)) only [ya,yb]
 case hp=>
  exact YD.JK (YR w33 _ (⟨(⟨#[101,120,116,101,110,116,95,97,108,108,111,99]⟩:ByteArray),(⟨#[69,120,116,101,110,116,65,108,108,111,99,97,116,105,111,110]⟩:ByteArray),litL2⟩:S53) l2 (Kd.YN F2 D2)) (YD.JK (YR w33 _ (⟨(⟨#[97,98,116]⟩:ByteArray),(⟨#[65,108,108,111,99,97,116,105,111,110,66,84,114,101,101]⟩:ByteArray),litL1⟩:S53) l1 (Kd.YN F1 D1)) (YD.JK (YR w33 _ (⟨(⟨#[98,108,107,95,109,97,112]⟩:ByteArray),(⟨#[66,108,111,99,107,77,97,112,112,105,110,103]⟩:ByteArray),litL3⟩:S53) l3 (Kd.YN F3 D3)) (YD.JK (YR w33 _ (⟨(⟨#[98,109,98,116]⟩:ByteArray),(⟨#[66,108,111,99,107,77,97,112,66,84,114,101,101]⟩:ByteArray),litL1⟩:S53) l1 (Kd.YN F1 D1)) (YD.JK (YR w33 _ (⟨(⟨#[100,105,114]⟩:ByteArray),(⟨#[68,105,114,101,99,116,111,114,121,79,112,101,114,97,116,105,111,110]⟩:ByteArray),litL4⟩:S53) l4 (Kd.YN F4 D4)) (YD.JK (YR w33 _ (⟨(⟨#[116,114,97,110,115]⟩:ByteArray),(⟨#[84,114,97,110,115,97,99,116,105,111,110]⟩:ByteArray),litL5⟩:S53) l5 (Kd.YN F5 D5)) (YD.JK (YR w33 _ (⟨(⟨#[105,103]⟩:ByteArray),(⟨#[73,110,111,100,101,79,112,101,114,97,116,105,111,110]⟩:ByteArray),litL6⟩:S53) l6 (Kd.YN F6 D6)) (YD.JK (YR w33 _ (⟨(⟨#[108,111,103]⟩:ByteArray),(⟨#[76,111,103,79,112,101,114,97,116,105,111,110]⟩:ByteArray),litL7⟩:S53) l7 (Kd.YN F7 D7)) (YD.JK (YR w33 _ (⟨(⟨#[114,119]⟩:ByteArray),(⟨#[82,101,97,100,87,114,105,116,101]⟩:ByteArray),litL8⟩:S53) l8 (Kd.YN F8 D8)) (YD.JK (YR w33 _ (⟨(⟨#[97,116,116,114]⟩:ByteArray),(⟨#[65,116,116,114,105,98,117,116,101,79,112,101,114,97,116,105,111,110]⟩:ByteArray),litL9⟩:S53) l9 (Kd.YN F9 D9)) (YD.JK (YR w33 _ (⟨(⟨#[105,99,108,117,115,116,101,114]⟩:ByteArray),(⟨#[73,110,111,100,101,67,108,117,115,116,101,114,105,110,103]⟩:ByteArray),litL10⟩:S53) l10 (Kd.YN F10 D10)) (YD.JK (YR w33 _ (⟨(⟨#[118,110,111,100,101,115]⟩:ByteArray),(⟨#[86,110,111,100,101]⟩:ByteArray),litL11⟩:S53) l11 (Kd.YN F11 D11)) (YD.JK (YR w33 _ (⟨(⟨#[98,117,102]⟩:ByteArray),(⟨#[66,117,102,102,101,114]⟩:ByteArray),litL12⟩:S53) l12 (Kd.YN F12 D12)) (YD.JK (YR w33 _ (⟨(⟨#[120,112,99]⟩:ByteArray),(⟨#[69,120,116,101,110,100,101,100,80,114,101,99,105,115,105,111,110]⟩:ByteArray),litL13⟩:S53) l13 (Kd.YN F13 D13)) (YD.JK (YR w33 _ (⟨(⟨#[120,115,116,114,97,116]⟩:ByteArray),(⟨#[88,115,116,114,97,116]⟩:ByteArray),litL14⟩:S53) l14 (Kd.YN F14 D14)) (YD.JK (YR w33 _ (⟨(⟨#[112,117,115,104,95,97,105,108]⟩:ByteArray),(⟨#[80,117,115,104,65,105,108]⟩:ByteArray),litL15⟩:S53) l15 (Kd.YN F15 D15)) (YD.JK (YR w33 _ (⟨(⟨#[100,101,98,117,103]⟩:ByteArray),(⟨#[68,101,98,117,103]⟩:ByteArray),litL16⟩:S53) l16 (Kd.YN F16 D16)) (YD.JK (YR w33 _ (⟨(⟨#[113,109]⟩:ByteArray),(⟨#[81,117,111,116,97,77,97,110,97,103,101,114]⟩:ByteArray),litL17⟩:S53) l17 (Kd.YN F17 D17)) (YD.JK (YR w33 _ (⟨(⟨#[97,98,116,98,50]⟩:ByteArray),(⟨#[66,116,114,101,101,65,108,108,111,99,66,108,111,99,107,115,50]⟩:ByteArray),Qk⟩:S53) l18 (Kd.YN F18 D18)) (YD.JK (YR w33 _ (⟨(⟨#[97,98,116,99,50]⟩:ByteArray),(⟨#[66,116,114,101,101,65,108,108,111,99,67,111,110,116,105,103,50]⟩:ByteArray),Qk⟩:S53) l19 (Kd.YN F19 D19)) (YD.JK (YR w33 _ (⟨(⟨#[98,109,98,116,50]⟩:ByteArray),(⟨#[66,116,114,101,101,66,108,111,99,107,77,97,112,50]⟩:ByteArray),Qk⟩:S53) l20 (Kd.YN F20 D20)) (YD.JK (YR w33 _ (⟨(⟨#[105,98,116,50]⟩:ByteArray),(⟨#[66,116,114,101,101,73,110,111,100,101,50]⟩:ByteArray),Qk⟩:S53) l21 (Kd.YN F21 D21)) (YD.JK (YR w33 _ (⟨(⟨#[102,105,98,116,50]⟩:ByteArray),(⟨#[66,116,114,101,101,70,114,101,101,73,110,111,100,101,50]⟩:ByteArray),Qk⟩:S53) l22 (Kd.YN F22 D22)) (YD.JK (YR w33 _ (⟨(⟨#[114,109,97,112,98,116]⟩:ByteArray),(⟨#[66,116,114,101,101,82,101,118,101,114,115,101,77,97,112]⟩:ByteArray),Qk⟩:S53) l23 (Kd.YN F23 D23)) (YD.JK (YR w33 _ (⟨(⟨#[114,101,102,99,110,116,98,116]⟩:ByteArray),(⟨#[66,116,114,101,101,82,101,102,67,111,117,110,116]⟩:ByteArray),Qk⟩:S53) l24 (Kd.YN F24 D24)) (YD.JK (YR w33 _ (⟨(⟨#[114,109,97,112,98,116,95,109,101,109]⟩:ByteArray),(⟨#[66,116,114,101,101,82,101,118,101,114,115,101,77,97,112,77,101,109]⟩:ByteArray),Qk⟩:S53) l25 (Kd.YN F25 D25)) (YD.JK (YR w33 _ (⟨(⟨#[114,99,98,97,103,98,116]⟩:ByteArray),(⟨#[66,116,114,101,101,82,99,98,97,103]⟩:ByteArray),Qk⟩:S53) l26 (Kd.YN F26 D26)) (YD.JK (YR w33 _ (⟨(⟨#[114,116,114,109,97,112,98,116]⟩:ByteArray),(⟨#[66,116,114,101,101,82,116,82,101,118,101,114,115,101,77,97,112]⟩:ByteArray),Qk⟩:S53) l27 (Kd.YN F27 D27)) (YD.JK (YR w33 _ (⟨(⟨#[114,116,114,109,97,112,98,116,95,109,101,109]⟩:ByteArray),(⟨#[66,116,114,101,101,82,116,82,101,118,101,114,115,101,77,97,112,77,101,109]⟩:ByteArray),Qk⟩:S53) l28 (Kd.YN F28 D28)) (YD.JK (YR w33 _ (⟨(⟨#[114,116,114,101,102,99,110,116,98,116]⟩:ByteArray),(⟨#[66,116,114,101,101,82,116,82,101,102,67,111,117,110,116]⟩:ByteArray),Qk⟩:S53) l29 (Kd.YN F29 D29)) (YD.JK (YR w33 _ (⟨(⟨#[122,111,110,101,100]⟩:ByteArray),(⟨#[90,111,110,101,100]⟩:ByteArray),litL30⟩:S53) l30 (Kd.YN F30 D30)) (YD.JK (YR w33 _ (⟨(⟨#[109,101,116,97,102,105,108,101]⟩:ByteArray),(⟨#[77,101,116,97,70,105,108,101]⟩:ByteArray),litL31⟩:S53) l31 (Kd.YN F31 D31)) (YD.JK (YR w33 _ (⟨(⟨#[100,101,102,101,114,95,114,101,108,111,103]⟩:ByteArray),(⟨#[68,101,102,101,114,82,101,108,111,103]⟩:ByteArray),litL32⟩:S53) l32 (Kd.YN F32 D32)) (YD.JK (YR w33 _ (⟨(⟨#[103,99]⟩:ByteArray),(⟨#[71,99,88,112,99]⟩:ByteArray),litL33⟩:S53) l33 (Kd.YN F33 D33)) (YD.none _ _))))))))))))))))))))))))))))))))))
 intro v wf hN hb _ _
 refine Kd.yh rfl run_assign ?_;refine wpList_nil ?_
 refine wp_ret ?_
 refine Y8 (v:=v) (t:=0) rfl (by simp only [yq];exact hdf) ?_ ⟨v,rfl,hN,hb⟩
 simp (disch:=first|decide|(simp only [size_put,hsz];decide)) only [ya,yb]
end Go.Proofs.YtdcaggoicdfehaaGreatDoor
