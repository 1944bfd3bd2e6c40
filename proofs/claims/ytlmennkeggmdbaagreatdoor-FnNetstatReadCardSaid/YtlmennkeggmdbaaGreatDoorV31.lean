/- Part 31 of 34 of the proof of the tied card of FnNetstatRead. -/
import Derived.Test.YtlmennkeggmdbaaGreatDoorVz
import Derived.Test.YtlmennkeggmdbaaGreatDoorV3
set_option linter.unusedVariables false
set_option linter.unusedSimpArgs false
namespace Go.Proofs.YtlmennkeggmdbaaGreatDoor
open Go.RowKit Go.Proofs.YtlmennkeggmdbaaGreatDoorW.PrintWords Go.Proofs.YtlmennkeggmdbaaGreatDoorW.PrintLast Go.Proofs.YtlmennkeggmdbaaGreatDoorW.PrintMore
attribute [local go_sem] Yt Yp YE YB Yj Yk Yu Yv
mutual
def yS.l0:Nat→List (S34)→Int→Int→ByteArray→Int→Bool→Int→Int→Nat→ByteArray→List (S38)→Option (ByteArray × Int × Bool × Int × Int × Nat × ByteArray × (List (S38)))
 | 0,_,_,_,_,_,_,_,_,_,_,_=>none
 | k+1,x22,x23,x24,x112000,x112001,x112002,x112003,x112004,x112005,x112006,x112007=>if x24<x23 then (if 0≤x24 then (if x24<(x22.length:Int) then ((yS.f k ((yC x22 x24).f0) ((yC x22 x24).f1) ((yC x22 x24).f2) ((yC x22 x24).f3) ((yC x22 x24).f4) ((yC x22 x24).f5) ((yC x22 x24).f6) ((yC x22 x24).f7)).bind fun bt114=>(if x112007.length<1466015503701 then (yS.l0 k x22 x23 (wrap64 (x24+1)) x112000 x112001 x112002 x112003 x112004 x112005 x112006 (x112007++[(⟨bt114.1,bt114.2.1,bt114.2.2.1,bt114.2.2.2.1,bt114.2.2.2.2.1,bt114.2.2.2.2.2.1,bt114.2.2.2.2.2.2.1,bt114.2.2.2.2.2.2.2⟩:S38)])) else (none))) else (none)) else (none)) else (some (x112000,x112001,x112002,x112003,x112004,x112005,x112006,x112007))
def yS.f:Nat→ByteArray→Int→Bool→Int→Int→Nat→ByteArray→List (S34)→Option (ByteArray × Int × Bool × Int × Int × Nat × ByteArray × (List (S38)))
 | 0,_,_,_,_,_,_,_,_=>none
 | k+1,a0_0,a0_1,a0_2,a0_3,a0_4,a0_5,a0_6,l0_7=>yS.l0 k l0_7 (l0_7.length:Int) 0 a0_0 a0_1 a0_2 a0_3 a0_4 a0_5 a0_6 ([]:List (S38))
end
theorem yS.YY:∀ k,(∀ y0 y1 y2 y3 y4 y5 y6 y7,LeO (yS.f k y0 y1 y2 y3 y4 y5 y6 y7) (yS.f (k+1) y0 y1 y2 y3 y4 y5 y6 y7))∧(∀ y0 y1 y2 y3 y4 y5 y6 y7 y8 y9 y10,LeO (yS.l0 k y0 y1 y2 y3 y4 y5 y6 y7 y8 y9 y10) (yS.l0 (k+1) y0 y1 y2 y3 y4 y5 y6 y7 y8 y9 y10))
 | 0=>⟨fun _ _ _ _ _ _ _ _ r h=>by simp [yS.f] at h,fun _ _ _ _ _ _ _ _ _ _ _ r h=>by simp [yS.l0] at h⟩
 | k+1=>by
  obtain ⟨ih0,ih1⟩:=yS.YY k
  refine ⟨?_,?_⟩
  · intro y0 y1 y2 y3 y4 y5 y6 y7
    unfold yS.f
    repeat' first
    | (with_reducible exact ih0 _ _ _ _ _ _ _ _)
    | (with_reducible exact ih1 _ _ _ _ _ _ _ _ _ _ _)
    | (with_reducible exact LeO.refl _)
    | (with_reducible exact LeO.none _)
    | (with_reducible refine LeO.ite ?_ ?_)
    | (with_reducible refine LeO.bind ?_ (fun _=>?_))
    | exact ih0 _ _ _ _ _ _ _ _
    | exact ih1 _ _ _ _ _ _ _ _ _ _ _
    | exact LeO.none _
    | refine LeO.ite ?_ ?_
    | refine LeO.bind ?_ (fun _=>?_)
  · intro y0 y1 y2 y3 y4 y5 y6 y7 y8 y9 y10
    unfold yS.l0
    repeat' first
    | (with_reducible exact ih0 _ _ _ _ _ _ _ _)
    | (with_reducible exact ih1 _ _ _ _ _ _ _ _ _ _ _)
    | (with_reducible exact LeO.refl _)
    | (with_reducible exact LeO.none _)
    | (with_reducible refine LeO.ite ?_ ?_)
    | (with_reducible refine LeO.bind ?_ (fun _=>?_))
    | exact ih0 _ _ _ _ _ _ _ _
    | exact ih1 _ _ _ _ _ _ _ _ _ _ _
    | exact LeO.none _
    | refine LeO.ite ?_ ?_
    | refine LeO.bind ?_ (fun _=>?_)
theorem yS.mono:∀ a0 a1 a2 a3 a4 a5 a6 a7 k,LeO (yS.f k a0 a1 a2 a3 a4 a5 a6 a7) (yS.f (k+1) a0 a1 a2 a3 a4 a5 a6 a7):=by
 intro a0 a1 a2 a3 a4 a5 a6 a7 k
 obtain ⟨ih0,ih1⟩:=yS.YY k
 exact ih0 a0 a1 a2 a3 a4 a5 a6 a7
def yS.T5:Bool × List (List Nat × List Nat):=(true,[([],[]),([0],[0]),([],[]),([2],[2]),([3],[3]),([1,4,3],[1,4]),([0,1,2,3,4,5],[]),([6,5,5,0,1,2,3,4,5],[5,6])])
def yS.B5:List Nat:=[0,1,0,4,12,31,63,127]
theorem yS.tab5:JM .any (opsOf Tryz.f10 5)=yS.T5:=by kernel_rfl
theorem yS.bits5:qd yS.T5.2 yS.B5=true:=by kernel_rfl
set_option maxHeartbeats 8000000 in
set_option maxRecDepth 100000 in
theorem yS.calls (k:Nat):∀ (a0_0:ByteArray) (a0_1:Int) (a0_2:Bool) (a0_3:Int) (a0_4:Int) (a0_5:Nat) (a0_6:ByteArray) (A0_7:Option Addr) (c0_7:Nat) (l0_7:List (S34)) (r1:ByteArray) (r2:Int) (r3:Bool) (r4:Int) (r5:Int) (r6:Nat) (r7:ByteArray) (r8:List (S38)) (w:World) (hr0_7:Kd.C k34 w A0_7 l0_7.length l0_7) (hc0_7:l0_7.length≤c0_7) (h:yS.f k a0_0 a0_1 a0_2 a0_3 a0_4 a0_5 a0_6 l0_7=some (r1,r2,r3,r4,r5,r6,r7,r8)),
 Calls Tryz.prog 10 #[.agg #[.string a0_0,.int .i64 a0_1,.bool a0_2,.int .i64 a0_3,.int .u64 a0_4,.float .f64 a0_5,.string a0_6,.slice A0_7 l0_7.length c0_7]] w fun e w'=>∃ v7_:Value,e=.returned (.agg #[.string r1,.int .i64 r2,.bool r3,.int .i64 r4,.int .u64 r5,.float .f64 r6,.string r7,v7_])∧Kd.R k38 38 w' w.heap.size (fun _=>True) v7_ r8∧Below w.heap.size w w':=by
 induction k using Nat.strongRecOn with
 | _ k ih=>
 intro a0_0 a0_1 a0_2 a0_3 a0_4 a0_5 a0_6 A0_7 c0_7 l0_7 r1 r2 r3 r4 r5 r6 r7 r8 w hr0_7 hc0_7 h
 cases k with
 | zero=>exact absurd h (by simp [yS.f])
 | succ k=>
 simp only [yS.f] at h
 have hu34:=Tryz.underlying34
 have hu38:=Tryz.underlying38
 have HR0_7:=yc.mk hr0_7
 have HC0_7:=yc.mk hc0_7
 clear hr0_7 hc0_7
 have HB:=yc.mk (Below.refl w.heap.size w)
 have H:(yS.l0 k l0_7 (l0_7.length:Int) 0 a0_0 a0_1 a0_2 a0_3 a0_4 a0_5 a0_6 ([]:List (S38)))=some (r1,r2,r3,r4,r5,r6,r7,r8):=h
 clear h
 have H':=yc.mk H
 clear H
 go_enter Tryz.func10,Tryz.ntmps10
 go_wp2_with (first|((with_reducible refine YX (N:=1) rfl ?_);refine YW ?hg (N:=1) ?hd (cs:=#[.string a0_0,.int .i64 a0_1,.bool a0_2,.int .i64 a0_3,.int .u64 a0_4,.float .f64 a0_5,.string a0_6,.slice A0_7 l0_7.length c0_7]) (t:=34) ?hr ?_;(case hd=>rfl);(case hg=>rfl);(case hr=>first|(go_simp;done)|(go_simp;rfl));intro gb109 hg w2 hbox hb;have n0_:=yc.mk (yw Zh hb);have n1_:=yc.mk (hbox);have n2_:=yc.mk ((by rw [hg];exact (yt Zh):w.heap.size≤gb109));have n3_:=yc.mk ((by rw [hg];exact (yt Zh):w.heap.size≤gb109));clear HB;have HB:=n0_;have BK109:=n1_;have GW109:=n2_;have GE109:=n3_;clear n0_ n1_ n2_ n3_;clear hb hbox hg)|((with_reducible refine YX (N:=2) rfl ?_);refine YW ?hg (N:=2) ?hd (cs:=#[.string (⟨#[]⟩:ByteArray),.int .i64 0,.bool false,.int .i64 0,.int .u64 0,.float .f64 0,.string (⟨#[]⟩:ByteArray),.slice none 0 0]) (t:=38) ?hr ?_;(case hd=>rfl);(case hg=>rfl);(case hr=>first|(go_simp;done)|(go_simp;rfl));intro gb110 hg w3 hbox hb;have n0_:=yc.mk (yI (g:=gb109) (o:=.cells #[.string a0_0,.int .i64 a0_1,.bool a0_2,.int .i64 a0_3,.int .u64 a0_4,.float .f64 a0_5,.string a0_6,.slice A0_7 l0_7.length c0_7] 34 (0,0)) (Zb BK109.out) hb);have n1_:=yc.mk (yw (Zg GE109.out) hb);have n2_:=yc.mk (hbox);have n3_:=yc.mk ((by rw [hg];exact (yt (Zg GE109.out)):w.heap.size≤gb110));have n4_:=yc.mk ((by rw [hg];exact (yt (Zg GE109.out)):w.heap.size≤gb110));have n5_:=yc.mk ((by rw [hg];exact Nat.ne_of_lt (YQ (g:=gb109) (o:=.cells #[.string a0_0,.int .i64 a0_1,.bool a0_2,.int .i64 a0_3,.int .u64 a0_4,.float .f64 a0_5,.string a0_6,.slice A0_7 l0_7.length c0_7] 34 (0,0)) (Zb BK109.out)):gb109≠gb110));have n6_:=yc.mk ((by rw [hg];exact Nat.ne_of_gt (YQ (g:=gb109) (o:=.cells #[.string a0_0,.int .i64 a0_1,.bool a0_2,.int .i64 a0_3,.int .u64 a0_4,.float .f64 a0_5,.string a0_6,.slice A0_7 l0_7.length c0_7] 34 (0,0)) (Zb BK109.out)):gb110≠gb109));clear BK109 HB;have BK109:=n0_;have HB:=n1_;have BK110:=n2_;have GW110:=n3_;have GE110:=n4_;have NB109_110:=n5_;have NB110_109:=n6_;clear n0_ n1_ n2_ n3_ n4_ n5_ n6_;clear hb hbox hg;have hnb4:=NB109_110.out;have hnc4:=NB110_109.out;have hcz5_0:w3.cell? ⟨gb109,0,none⟩=some (.string a0_0):=(yg BK109.out 0).trans rfl;have hcz5_1:w3.cell? ⟨gb109,1,none⟩=some (.int .i64 a0_1):=(yg BK109.out 1).trans rfl;have hcz5_2:w3.cell? ⟨gb109,2,none⟩=some (.bool a0_2):=(yg BK109.out 2).trans rfl;have hcz5_3:w3.cell? ⟨gb109,3,none⟩=some (.int .i64 a0_3):=(yg BK109.out 3).trans rfl;have hcz5_4:w3.cell? ⟨gb109,4,none⟩=some (.int .u64 a0_4):=(yg BK109.out 4).trans rfl;have hcz5_5:w3.cell? ⟨gb109,5,none⟩=some (.float .f64 a0_5):=(yg BK109.out 5).trans rfl;have hcz5_6:w3.cell? ⟨gb109,6,none⟩=some (.string a0_6):=(yg BK109.out 6).trans rfl;have hcz5_7:w3.cell? ⟨gb109,7,none⟩=some (.slice A0_7 l0_7.length c0_7):=(yg BK109.out 7).trans rfl;have hfz5_0:=yf BK109.out 0;have hfz5_1:=yf BK109.out 1;have hfz5_2:=yf BK109.out 2;have hfz5_3:=yf BK109.out 3;have hfz5_4:=yf BK109.out 4;have hfz5_5:=yf BK109.out 5;have hfz5_6:=yf BK109.out 6;have hfz5_7:=yf BK109.out 7)|((with_reducible refine YX (N:=3) rfl ?_);refine YW ?hg (N:=3) ?hd (cs:=#[.string (⟨#[]⟩:ByteArray),.int .i64 0,.bool false,.int .i64 0,.int .u64 0,.float .f64 0,.string (⟨#[]⟩:ByteArray),.slice none 0 0]) (t:=38) ?hr ?_;(case hd=>rfl);(case hg=>rfl);(case hr=>first|(go_simp;done)|(go_simp;rfl));intro gb111 hg w6 hbox hb;have n0_:=yc.mk (yI (g:=gb109) (o:=.cells #[.string a0_0,.int .i64 a0_1,.bool a0_2,.int .i64 a0_3,.int .u64 a0_4,.float .f64 a0_5,.string a0_6,.slice A0_7 l0_7.length c0_7] 34 (0,0)) (Zb BK109.out) hb);have n1_:=yc.mk (yI (g:=gb110) (o:=.cells #[.string (⟨#[]⟩:ByteArray),.int .i64 0,.bool false,.int .i64 0,.int .u64 0,.float .f64 0,.string (⟨#[]⟩:ByteArray),.slice none 0 0] 38 (0,0)) (Zb BK110.out) hb);have n2_:=yc.mk (yw (Zg2 GE109.out GE110.out) hb);have n3_:=yc.mk (hbox);have n4_:=yc.mk ((by rw [hg];exact (yt (Zg2 GE109.out GE110.out)):w.heap.size≤gb111));have n5_:=yc.mk ((by rw [hg];exact (yt (Zg2 GE109.out GE110.out)):w.heap.size≤gb111));have n6_:=yc.mk ((by rw [hg];exact Nat.ne_of_lt (YQ (g:=gb109) (o:=.cells #[.string a0_0,.int .i64 a0_1,.bool a0_2,.int .i64 a0_3,.int .u64 a0_4,.float .f64 a0_5,.string a0_6,.slice A0_7 l0_7.length c0_7] 34 (0,0)) (Zb BK109.out)):gb109≠gb111));have n7_:=yc.mk ((by rw [hg];exact Nat.ne_of_gt (YQ (g:=gb109) (o:=.cells #[.string a0_0,.int .i64 a0_1,.bool a0_2,.int .i64 a0_3,.int .u64 a0_4,.float .f64 a0_5,.string a0_6,.slice A0_7 l0_7.length c0_7] 34 (0,0)) (Zb BK109.out)):gb111≠gb109));have n8_:=yc.mk ((by rw [hg];exact Nat.ne_of_lt (YQ (g:=gb110) (o:=.cells #[.string (⟨#[]⟩:ByteArray),.int .i64 0,.bool false,.int .i64 0,.int .u64 0,.float .f64 0,.string (⟨#[]⟩:ByteArray),.slice none 0 0] 38 (0,0)) (Zb BK110.out)):gb110≠gb111));have n9_:=yc.mk ((by rw [hg];exact Nat.ne_of_gt (YQ (g:=gb110) (o:=.cells #[.string (⟨#[]⟩:ByteArray),.int .i64 0,.bool false,.int .i64 0,.int .u64 0,.float .f64 0,.string (⟨#[]⟩:ByteArray),.slice none 0 0] 38 (0,0)) (Zb BK110.out)):gb111≠gb110));clear BK109 BK110 HB;have BK109:=n0_;have BK110:=n1_;have HB:=n2_;have BK111:=n3_;have GW111:=n4_;have GE111:=n5_;have NB109_111:=n6_;have NB111_109:=n7_;have NB110_111:=n8_;have NB111_110:=n9_;clear n0_ n1_ n2_ n3_ n4_ n5_ n6_ n7_ n8_ n9_;clear hb hbox hg;have hnb7:=NB111_109.out;have hnc7:=NB109_111.out;have hnb8:=NB111_110.out;have hnc8:=NB110_111.out;have hcz9_0:w6.cell? ⟨gb111,0,none⟩=some (.string (⟨#[]⟩:ByteArray)):=(yg BK111.out 0).trans rfl;have hcz9_1:w6.cell? ⟨gb111,1,none⟩=some (.int .i64 0):=(yg BK111.out 1).trans rfl;have hcz9_2:w6.cell? ⟨gb111,2,none⟩=some (.bool false):=(yg BK111.out 2).trans rfl;have hcz9_3:w6.cell? ⟨gb111,3,none⟩=some (.int .i64 0):=(yg BK111.out 3).trans rfl;have hcz9_4:w6.cell? ⟨gb111,4,none⟩=some (.int .u64 0):=(yg BK111.out 4).trans rfl;have hcz9_5:w6.cell? ⟨gb111,5,none⟩=some (.float .f64 0):=(yg BK111.out 5).trans rfl;have hcz9_6:w6.cell? ⟨gb111,6,none⟩=some (.string (⟨#[]⟩:ByteArray)):=(yg BK111.out 6).trans rfl;have hcz9_7:w6.cell? ⟨gb111,7,none⟩=some (.slice none 0 0):=(yg BK111.out 7).trans rfl;have hfz9_0:=yf BK111.out 0;have hfz9_1:=yf BK111.out 1;have hfz9_2:=yf BK111.out 2;have hfz9_3:=yf BK111.out 3;have hfz9_4:=yf BK111.out 4;have hfz9_5:=yf BK111.out 5;have hfz9_6:=yf BK111.out 6;have hfz9_7:=yf BK111.out 7;have hcz10_0:w6.cell? ⟨gb109,0,none⟩=some (.string a0_0):=(yg BK109.out 0).trans rfl;have hcz10_1:w6.cell? ⟨gb109,1,none⟩=some (.int .i64 a0_1):=(yg BK109.out 1).trans rfl;have hcz10_2:w6.cell? ⟨gb109,2,none⟩=some (.bool a0_2):=(yg BK109.out 2).trans rfl;have hcz10_3:w6.cell? ⟨gb109,3,none⟩=some (.int .i64 a0_3):=(yg BK109.out 3).trans rfl;have hcz10_4:w6.cell? ⟨gb109,4,none⟩=some (.int .u64 a0_4):=(yg BK109.out 4).trans rfl;have hcz10_5:w6.cell? ⟨gb109,5,none⟩=some (.float .f64 a0_5):=(yg BK109.out 5).trans rfl;have hcz10_6:w6.cell? ⟨gb109,6,none⟩=some (.string a0_6):=(yg BK109.out 6).trans rfl;have hcz10_7:w6.cell? ⟨gb109,7,none⟩=some (.slice A0_7 l0_7.length c0_7):=(yg BK109.out 7).trans rfl;have hfz10_0:=yf BK109.out 0;have hfz10_1:=yf BK109.out 1;have hfz10_2:=yf BK109.out 2;have hfz10_3:=yf BK109.out 3;have hfz10_4:=yf BK109.out 4;have hfz10_5:=yf BK109.out 5;have hfz10_6:=yf BK109.out 6;have hfz10_7:=yf BK109.out 7))
 go_loopg [24] k (fun kq v24 w'=>∃ (x24_1:Int) (x112007_1:List (S38)) (u112007:Value),v24=.int .i64 x24_1∧yc (yS.l0 kq l0_7 (l0_7.length:Int) x24_1 a0_0 a0_1 a0_2 a0_3 a0_4 a0_5 a0_6 x112007_1=some (r1,r2,r3,r4,r5,r6,r7,r8))∧yc (kq≤k)∧yc (Kd.R k38 38 w' w.heap.size (fun k_=>k_≠gb110∧k_≠gb111) u112007 x112007_1)∧yc (w'.heap[gb109]?=some (.cells #[.string a0_0,.int .i64 a0_1,.bool a0_2,.int .i64 a0_3,.int .u64 a0_4,.float .f64 a0_5,.string a0_6,(.slice A0_7 l0_7.length c0_7)] 34 (0,0)))∧yc (w'.heap[gb110]?=some (.cells #[.string (⟨#[]⟩:ByteArray),.int .i64 0,.bool false,.int .i64 0,.int .u64 0,.float .f64 0,.string (⟨#[]⟩:ByteArray),(.slice none 0 0)] 38 (0,0)))∧yc (w'.heap[gb111]?=some (.cells #[.string a0_0,.int .i64 a0_1,.bool a0_2,.int .i64 a0_3,.int .u64 a0_4,.float .f64 a0_5,.string a0_6,u112007] 38 (0,0)))∧yc (Below w.heap.size w w'))
 case atStart=>exact ⟨(0),(([]:List (S38))),(.slice none 0 0),(by first|rfl|(simp;done)|(simp [*];done)|(simp [yn];done)),H',⟨Nat.le_refl _⟩,⟨by first|exact Kd.qm _ _ _ _ _|exact Kd.yae _ _ _ _ _|exact Kd.QV _ _ _ _ _|exact Kd.yaf _ _ _ _ _|exact Kd.yah _ _ _ _ _⟩,⟨by refine Zb ?_;refine yH ?_ NB109_111.out _;refine Zb ?_;refine yH ?_ NB109_111.out _;refine Zb ?_;refine yH ?_ NB109_111.out _;refine Zb ?_;refine yH ?_ NB109_111.out _;refine Zb ?_;refine yH ?_ NB109_111.out _;refine Zb ?_;refine yH ?_ NB109_111.out _;refine Zb ?_;refine yH ?_ NB109_111.out _;refine Zb ?_;refine yH ?_ NB109_111.out _;refine Zb ?_;exact BK109.out⟩,⟨by refine Zb ?_;refine yH ?_ NB110_111.out _;refine Zb ?_;refine yH ?_ NB110_111.out _;refine Zb ?_;refine yH ?_ NB110_111.out _;refine Zb ?_;refine yH ?_ NB110_111.out _;refine Zb ?_;refine yH ?_ NB110_111.out _;refine Zb ?_;refine yH ?_ NB110_111.out _;refine Zb ?_;refine yH ?_ NB110_111.out _;refine Zb ?_;refine yH ?_ NB110_111.out _;refine Zb ?_;exact BK110.out⟩,⟨by refine Zb ?_;refine yy (cs:=#[.string a0_0,.int .i64 a0_1,.bool a0_2,.int .i64 a0_3,.int .u64 a0_4,.float .f64 a0_5,.string a0_6,.slice none 0 0]) ?_ 7 _ rfl;refine Zb ?_;refine yy (cs:=#[.string a0_0,.int .i64 a0_1,.bool a0_2,.int .i64 a0_3,.int .u64 a0_4,.float .f64 a0_5,.string (⟨#[]⟩:ByteArray),.slice none 0 0]) ?_ 6 _ rfl;refine Zb ?_;refine yy (cs:=#[.string a0_0,.int .i64 a0_1,.bool a0_2,.int .i64 a0_3,.int .u64 a0_4,.float .f64 0,.string (⟨#[]⟩:ByteArray),.slice none 0 0]) ?_ 5 _ rfl;refine Zb ?_;refine yy (cs:=#[.string a0_0,.int .i64 a0_1,.bool a0_2,.int .i64 a0_3,.int .u64 0,.float .f64 0,.string (⟨#[]⟩:ByteArray),.slice none 0 0]) ?_ 4 _ rfl;refine Zb ?_;refine yy (cs:=#[.string a0_0,.int .i64 a0_1,.bool a0_2,.int .i64 0,.int .u64 0,.float .f64 0,.string (⟨#[]⟩:ByteArray),.slice none 0 0]) ?_ 3 _ rfl;refine Zb ?_;refine yy (cs:=#[.string a0_0,.int .i64 a0_1,.bool false,.int .i64 0,.int .u64 0,.float .f64 0,.string (⟨#[]⟩:ByteArray),.slice none 0 0]) ?_ 2 _ rfl;refine Zb ?_;refine yy (cs:=#[.string a0_0,.int .i64 0,.bool false,.int .i64 0,.int .u64 0,.float .f64 0,.string (⟨#[]⟩:ByteArray),.slice none 0 0]) ?_ 1 _ rfl;refine Zb ?_;refine yy (cs:=#[.string (⟨#[]⟩:ByteArray),.int .i64 0,.bool false,.int .i64 0,.int .u64 0,.float .f64 0,.string (⟨#[]⟩:ByteArray),.slice none 0 0]) ?_ 0 _ rfl;refine Zb ?_;exact BK111.out⟩,⟨by repeat (first|(with_reducible first|exact HB.out|apply yl|apply ym|apply yp|refine yu ?_ GE109.out|refine yu ?_ GE110.out|refine yu ?_ GE111.out)|exact HB.out)⟩⟩
 case round=>
  clear H'
  try clear c1
  try clear p2
  try clear c4
  try clear c7
  try clear c8
  try clear c10
  try clear hcz10_0
  try clear hcz10_1
  try clear hcz10_2
  try clear hcz10_3
  try clear hcz10_4
  try clear hcz10_5
  try clear hcz10_6
  try clear hcz10_7
  try clear hcz5_0
  try clear hcz5_1
  try clear hcz5_2
  try clear hcz5_3
  try clear hcz5_4
  try clear hcz5_5
  try clear hcz5_6
  try clear hcz5_7
  try clear hcz9_0
  try clear hcz9_1
  try clear hcz9_2
  try clear hcz9_3
  try clear hcz9_4
  try clear hcz9_5
  try clear hcz9_6
  try clear hcz9_7
  try clear hfz10_0
  try clear hfz10_1
  try clear hfz10_2
  try clear hfz10_3
  try clear hfz10_4
  try clear hfz10_5
  try clear hfz10_6
  try clear hfz10_7
  try clear hfz5_0
  try clear hfz5_1
  try clear hfz5_2
  try clear hfz5_3
  try clear hfz5_4
  try clear hfz5_5
  try clear hfz5_6
  try clear hfz5_7
  try clear hfz9_0
  try clear hfz9_1
  try clear hfz9_2
  try clear hfz9_3
  try clear hfz9_4
  try clear hfz9_5
  try clear hfz9_6
  try clear hfz9_7
  obtain ⟨x24_1,x112007_1,u112007,rfl,HA,HK1,HO_112007,BK109,BK110,BK111,HB⟩:=hrel
  cases gk with
  | zero=>exact absurd HA.out (by simp [yS.l0])
  | succ k1=>
   have H:=HA.out
   clear HA
   simp only [yS.l0] at H
   by_cases c11:x24_1<(l0_7.length:Int)
   · rw [if_pos c11] at H
     have c11b0:decide (x24_1<(l0_7.length:Int))=true:=decide_eq_true c11
     clear c11
     by_cases c12:0≤x24_1
     · rw [if_pos c12] at H
       have c12b0:decide (0≤x24_1)=true:=decide_eq_true c12
       clear c12
       by_cases c13:x24_1<(l0_7.length:Int)
       · rw [if_pos c13] at H
         have c13b0:decide (x24_1<(l0_7.length:Int))=true:=decide_eq_true c13
         clear c13
         replace H:=Option.bind_eq_some_iff.mp H
         obtain ⟨⟨t114,t115,t116,t117,t118,t119,t120,t121⟩,A140,H⟩:=H
         replace H:(if x112007_1.length<1466015503701 then (yS.l0 k1 l0_7 (l0_7.length:Int) (wrap64 (x24_1+1)) a0_0 a0_1 a0_2 a0_3 a0_4 a0_5 a0_6 (x112007_1++[(⟨t114,t115,t116,t117,t118,t119,t120,t121⟩:S38)])) else (none))=some (r1,r2,r3,r4,r5,r6,r7,r8):=H
         have A14:=yc.mk A140
         clear A140
         by_cases c15:x112007_1.length<1466015503701
         · rw [if_pos c15] at H
           have LMc15:=yc.mk c15
           clear c15
           obtain ⟨y124,hy124⟩:∃ y_:List (S38),y_=(x112007_1++[(⟨t114,t115,t116,t117,t118,t119,t120,t121⟩:S38)]):=⟨_,rfl⟩
           replace H:(yS.l0 k1 l0_7 (l0_7.length:Int) (wrap64 (x24_1+1)) a0_0 a0_1 a0_2 a0_3 a0_4 a0_5 a0_6 y124)=some (r1,r2,r3,r4,r5,r6,r7,r8):=by first|(rw [hy124];with_reducible exact H)|(have H2_:=(Option.bind_some _ _).symm.trans H;rw [hy124];with_reducible exact H2_)|(have H2_:=(Option.bind_some _ _).symm.trans H;with_reducible exact H2_)|with_reducible exact H|(rw [hy124];exact H)|exact H
           have Ny124:=yc.mk hy124
           clear hy124
           have H':=yc.mk H
           clear H
           have p112:0≤(x24_1:Int):=of_decide_eq_true (by first|(with_reducible assumption)|assumption)
           have q112:x24_1<(l0_7.length:Int):=of_decide_eq_true (by first|(with_reducible assumption)|assumption)
           obtain ⟨ad112,A112_7,c112_7,e112,hx112_0,hx112_1,hx112_2,hx112_3,hx112_4,hx112_5,hx112_6,hx112_7,hl112_7,hi112_7⟩:=at_T34 HR0_7.out x24_1 p112 q112
           cases e112
           replace hx112_0:=(HB.out.cell (World.block_lt_of_cell? w _ hx112_0)).trans hx112_0
           replace hx112_1:=(HB.out.cell (World.block_lt_of_cell? w _ hx112_1)).trans hx112_1
           replace hx112_2:=(HB.out.cell (World.block_lt_of_cell? w _ hx112_2)).trans hx112_2
           replace hx112_3:=(HB.out.cell (World.block_lt_of_cell? w _ hx112_3)).trans hx112_3
           replace hx112_4:=(HB.out.cell (World.block_lt_of_cell? w _ hx112_4)).trans hx112_4
           replace hx112_5:=(HB.out.cell (World.block_lt_of_cell? w _ hx112_5)).trans hx112_5
           replace hx112_6:=(HB.out.cell (World.block_lt_of_cell? w _ hx112_6)).trans hx112_6
           replace hx112_7:=(HB.out.cell (World.block_lt_of_cell? w _ hx112_7)).trans hx112_7
           have HR112_7:=yc.mk hi112_7
           have HC112_7:=yc.mk hl112_7
           clear hi112_7 hl112_7
           replace p112:=eq_true p112
           replace q112:=eq_true q112
           try go_wp2_with (first|((with_reducible refine YX (N:=5) rfl ?_);refine YW ?hg (N:=5) ?hd (cs:=#[.string (⟨#[]⟩:ByteArray),.int .i64 0,.bool false,.int .i64 0,.int .u64 0,.float .f64 0,.string (⟨#[]⟩:ByteArray),.slice none 0 0]) (t:=34) ?hr ?_;(case hd=>rfl);(case hg=>rfl);(case hr=>first|(go_simp;done)|(go_simp;rfl));intro gb113 hg w16 hbox hb;have n0_:=yc.mk (Kd.Y1 (Zr HO_112007.out) hb);have n1_:=yc.mk (yI (g:=gb109) (o:=.cells #[.string a0_0,.int .i64 a0_1,.bool a0_2,.int .i64 a0_3,.int .u64 a0_4,.float .f64 a0_5,.string a0_6,.slice (some ad112) l0_7.length c0_7] 34 (0,0)) (Zb BK109.out) hb);have n2_:=yc.mk (yI (g:=gb110) (o:=.cells #[.string (⟨#[]⟩:ByteArray),.int .i64 0,.bool false,.int .i64 0,.int .u64 0,.float .f64 0,.string (⟨#[]⟩:ByteArray),.slice none 0 0] 38 (0,0)) (Zb BK110.out) hb);have n3_:=yc.mk (yI (g:=gb111) (o:=.cells #[.string a0_0,.int .i64 a0_1,.bool a0_2,.int .i64 a0_3,.int .u64 a0_4,.float .f64 a0_5,.string a0_6,u112007] 38 (0,0)) (Zb BK111.out) hb);have n4_:=yc.mk (yw (by repeat (first|(with_reducible first|exact HB.out|apply yl|apply ym|apply yp|refine yu ?_ GE109.out|refine yu ?_ GE110.out|refine yu ?_ GE111.out)|exact HB.out)) hb);have n5_:=yc.mk (hbox);have n6_:=yc.mk ((by rw [hg];exact (yt (by repeat (first|(with_reducible first|exact HB.out|apply yl|apply ym|apply yp|refine yu ?_ GE109.out|refine yu ?_ GE110.out|refine yu ?_ GE111.out)|exact HB.out))):w.heap.size≤gb113));have n7_:=yc.mk ((by rw [hg];exact (yt (by repeat (first|(with_reducible first|exact HB.out|apply yl|apply ym|apply yp|refine yu ?_ GE109.out|refine yu ?_ GE110.out|refine yu ?_ GE111.out)|exact HB.out))):w.heap.size≤gb113));have n8_:=yc.mk ((by rw [hg];exact Nat.ne_of_lt (YQ (g:=gb109) (o:=.cells #[.string a0_0,.int .i64 a0_1,.bool a0_2,.int .i64 a0_3,.int .u64 a0_4,.float .f64 a0_5,.string a0_6,.slice (some ad112) l0_7.length c0_7] 34 (0,0)) (Zb BK109.out)):gb109≠gb113));have n9_:=yc.mk ((by rw [hg];exact Nat.ne_of_gt (YQ (g:=gb109) (o:=.cells #[.string a0_0,.int .i64 a0_1,.bool a0_2,.int .i64 a0_3,.int .u64 a0_4,.float .f64 a0_5,.string a0_6,.slice (some ad112) l0_7.length c0_7] 34 (0,0)) (Zb BK109.out)):gb113≠gb109));have n10_:=yc.mk ((by rw [hg];exact Nat.ne_of_lt (YQ (g:=gb110) (o:=.cells #[.string (⟨#[]⟩:ByteArray),.int .i64 0,.bool false,.int .i64 0,.int .u64 0,.float .f64 0,.string (⟨#[]⟩:ByteArray),.slice none 0 0] 38 (0,0)) (Zb BK110.out)):gb110≠gb113));have n11_:=yc.mk ((by rw [hg];exact Nat.ne_of_gt (YQ (g:=gb110) (o:=.cells #[.string (⟨#[]⟩:ByteArray),.int .i64 0,.bool false,.int .i64 0,.int .u64 0,.float .f64 0,.string (⟨#[]⟩:ByteArray),.slice none 0 0] 38 (0,0)) (Zb BK110.out)):gb113≠gb110));have n12_:=yc.mk ((by rw [hg];exact Nat.ne_of_lt (YQ (g:=gb111) (o:=.cells #[.string a0_0,.int .i64 a0_1,.bool a0_2,.int .i64 a0_3,.int .u64 a0_4,.float .f64 a0_5,.string a0_6,u112007] 38 (0,0)) (Zb BK111.out)):gb111≠gb113));have n13_:=yc.mk ((by rw [hg];exact Nat.ne_of_gt (YQ (g:=gb111) (o:=.cells #[.string a0_0,.int .i64 a0_1,.bool a0_2,.int .i64 a0_3,.int .u64 a0_4,.float .f64 a0_5,.string a0_6,u112007] 38 (0,0)) (Zb BK111.out)):gb113≠gb111));clear HO_112007 BK109 BK110 BK111 HB;have HO_112007:=n0_;have BK109:=n1_;have BK110:=n2_;have BK111:=n3_;have HB:=n4_;have BK113:=n5_;have GW113:=n6_;have GE113:=n7_;have NB109_113:=n8_;have NB113_109:=n9_;have NB110_113:=n10_;have NB113_110:=n11_;have NB111_113:=n12_;have NB113_111:=n13_;clear n0_ n1_ n2_ n3_ n4_ n5_ n6_ n7_ n8_ n9_ n10_ n11_ n12_ n13_;clear hb hbox hg;have hnb17:=NB113_109.out;have hnc17:=NB109_113.out;have hnb18:=NB113_110.out;have hnc18:=NB110_113.out;have hnb19:=NB113_111.out;have hnc19:=NB111_113.out;have hcz20_0:w16.cell? ⟨gb113,0,none⟩=some (.string (⟨#[]⟩:ByteArray)):=(yg BK113.out 0).trans rfl;have hcz20_1:w16.cell? ⟨gb113,1,none⟩=some (.int .i64 0):=(yg BK113.out 1).trans rfl;have hcz20_2:w16.cell? ⟨gb113,2,none⟩=some (.bool false):=(yg BK113.out 2).trans rfl;have hcz20_3:w16.cell? ⟨gb113,3,none⟩=some (.int .i64 0):=(yg BK113.out 3).trans rfl;have hcz20_4:w16.cell? ⟨gb113,4,none⟩=some (.int .u64 0):=(yg BK113.out 4).trans rfl;have hcz20_5:w16.cell? ⟨gb113,5,none⟩=some (.float .f64 0):=(yg BK113.out 5).trans rfl;have hcz20_6:w16.cell? ⟨gb113,6,none⟩=some (.string (⟨#[]⟩:ByteArray)):=(yg BK113.out 6).trans rfl;have hcz20_7:w16.cell? ⟨gb113,7,none⟩=some (.slice none 0 0):=(yg BK113.out 7).trans rfl;have hfz20_0:=yf BK113.out 0;have hfz20_1:=yf BK113.out 1;have hfz20_2:=yf BK113.out 2;have hfz20_3:=yf BK113.out 3;have hfz20_4:=yf BK113.out 4;have hfz20_5:=yf BK113.out 5;have hfz20_6:=yf BK113.out 6;have hfz20_7:=yf BK113.out 7))
           have n0_:yc (Kd.R k38 38 ((((((((w16.setCell ⟨gb113,0,none⟩ (.string ((yC l0_7 x24_1).f0))).setCell ⟨gb113,1,none⟩ (.int .i64 ((yC l0_7 x24_1).f1))).setCell ⟨gb113,2,none⟩ (.bool ((yC l0_7 x24_1).f2))).setCell ⟨gb113,3,none⟩ (.int .i64 ((yC l0_7 x24_1).f3))).setCell ⟨gb113,4,none⟩ (.int .u64 ((yC l0_7 x24_1).f4))).setCell ⟨gb113,5,none⟩ (.float .f64 ((yC l0_7 x24_1).f5))).setCell ⟨gb113,6,none⟩ (.string ((yC l0_7 x24_1).f6))).setCell ⟨gb113,7,none⟩ (.slice A112_7 ((yC l0_7 x24_1).f7).length c112_7)) w.heap.size (fun k_=>k_≠gb110∧k_≠gb111) u112007 x112007_1):=⟨by refine Zr ?_;exact Kd.Yr (Kd.YN (p:=⟨gb113,7,none⟩) (Kd.YN (p:=⟨gb113,6,none⟩) (Kd.YN (p:=⟨gb113,5,none⟩) (Kd.YN (p:=⟨gb113,4,none⟩) (Kd.YN (p:=⟨gb113,3,none⟩) (Kd.YN (p:=⟨gb113,2,none⟩) (Kd.YN (p:=⟨gb113,1,none⟩) (Kd.YN (p:=⟨gb113,0,none⟩) (Kd.qI HO_112007.out BK113.out Zd) (fun _ hk=>hk.2) (.string ((yC l0_7 x24_1).f0))) (fun _ hk=>hk.2) (.int .i64 ((yC l0_7 x24_1).f1))) (fun _ hk=>hk.2) (.bool ((yC l0_7 x24_1).f2))) (fun _ hk=>hk.2) (.int .i64 ((yC l0_7 x24_1).f3))) (fun _ hk=>hk.2) (.int .u64 ((yC l0_7 x24_1).f4))) (fun _ hk=>hk.2) (.float .f64 ((yC l0_7 x24_1).f5))) (fun _ hk=>hk.2) (.string ((yC l0_7 x24_1).f6))) (fun _ hk=>hk.2) (.slice A112_7 ((yC l0_7 x24_1).f7).length c112_7)) (fun _ hk=>⟨hk.1.1,hk.1.2⟩)⟩
           have n1_:yc (((((((((w16.setCell ⟨gb113,0,none⟩ (.string ((yC l0_7 x24_1).f0))).setCell ⟨gb113,1,none⟩ (.int .i64 ((yC l0_7 x24_1).f1))).setCell ⟨gb113,2,none⟩ (.bool ((yC l0_7 x24_1).f2))).setCell ⟨gb113,3,none⟩ (.int .i64 ((yC l0_7 x24_1).f3))).setCell ⟨gb113,4,none⟩ (.int .u64 ((yC l0_7 x24_1).f4))).setCell ⟨gb113,5,none⟩ (.float .f64 ((yC l0_7 x24_1).f5))).setCell ⟨gb113,6,none⟩ (.string ((yC l0_7 x24_1).f6))).setCell ⟨gb113,7,none⟩ (.slice A112_7 ((yC l0_7 x24_1).f7).length c112_7)).heap[gb109]?=some (.cells #[.string a0_0,.int .i64 a0_1,.bool a0_2,.int .i64 a0_3,.int .u64 a0_4,.float .f64 a0_5,.string a0_6,.slice (some ad112) l0_7.length c0_7] 34 (0,0))):=⟨by refine Zb ?_;refine yH ?_ NB109_113.out _;refine Zb ?_;refine yH ?_ NB109_113.out _;refine Zb ?_;refine yH ?_ NB109_113.out _;refine Zb ?_;refine yH ?_ NB109_113.out _;refine Zb ?_;refine yH ?_ NB109_113.out _;refine Zb ?_;refine yH ?_ NB109_113.out _;refine Zb ?_;refine yH ?_ NB109_113.out _;refine Zb ?_;refine yH ?_ NB109_113.out _;refine Zb ?_;exact BK109.out⟩
           have n2_:yc (((((((((w16.setCell ⟨gb113,0,none⟩ (.string ((yC l0_7 x24_1).f0))).setCell ⟨gb113,1,none⟩ (.int .i64 ((yC l0_7 x24_1).f1))).setCell ⟨gb113,2,none⟩ (.bool ((yC l0_7 x24_1).f2))).setCell ⟨gb113,3,none⟩ (.int .i64 ((yC l0_7 x24_1).f3))).setCell ⟨gb113,4,none⟩ (.int .u64 ((yC l0_7 x24_1).f4))).setCell ⟨gb113,5,none⟩ (.float .f64 ((yC l0_7 x24_1).f5))).setCell ⟨gb113,6,none⟩ (.string ((yC l0_7 x24_1).f6))).setCell ⟨gb113,7,none⟩ (.slice A112_7 ((yC l0_7 x24_1).f7).length c112_7)).heap[gb110]?=some (.cells #[.string (⟨#[]⟩:ByteArray),.int .i64 0,.bool false,.int .i64 0,.int .u64 0,.float .f64 0,.string (⟨#[]⟩:ByteArray),.slice none 0 0] 38 (0,0))):=⟨by refine Zb ?_;refine yH ?_ NB110_113.out _;refine Zb ?_;refine yH ?_ NB110_113.out _;refine Zb ?_;refine yH ?_ NB110_113.out _;refine Zb ?_;refine yH ?_ NB110_113.out _;refine Zb ?_;refine yH ?_ NB110_113.out _;refine Zb ?_;refine yH ?_ NB110_113.out _;refine Zb ?_;refine yH ?_ NB110_113.out _;refine Zb ?_;refine yH ?_ NB110_113.out _;refine Zb ?_;exact BK110.out⟩
           have n3_:yc (((((((((w16.setCell ⟨gb113,0,none⟩ (.string ((yC l0_7 x24_1).f0))).setCell ⟨gb113,1,none⟩ (.int .i64 ((yC l0_7 x24_1).f1))).setCell ⟨gb113,2,none⟩ (.bool ((yC l0_7 x24_1).f2))).setCell ⟨gb113,3,none⟩ (.int .i64 ((yC l0_7 x24_1).f3))).setCell ⟨gb113,4,none⟩ (.int .u64 ((yC l0_7 x24_1).f4))).setCell ⟨gb113,5,none⟩ (.float .f64 ((yC l0_7 x24_1).f5))).setCell ⟨gb113,6,none⟩ (.string ((yC l0_7 x24_1).f6))).setCell ⟨gb113,7,none⟩ (.slice A112_7 ((yC l0_7 x24_1).f7).length c112_7)).heap[gb111]?=some (.cells #[.string a0_0,.int .i64 a0_1,.bool a0_2,.int .i64 a0_3,.int .u64 a0_4,.float .f64 a0_5,.string a0_6,u112007] 38 (0,0))):=⟨by refine Zb ?_;refine yH ?_ NB111_113.out _;refine Zb ?_;refine yH ?_ NB111_113.out _;refine Zb ?_;refine yH ?_ NB111_113.out _;refine Zb ?_;refine yH ?_ NB111_113.out _;refine Zb ?_;refine yH ?_ NB111_113.out _;refine Zb ?_;refine yH ?_ NB111_113.out _;refine Zb ?_;refine yH ?_ NB111_113.out _;refine Zb ?_;refine yH ?_ NB111_113.out _;refine Zb ?_;exact BK111.out⟩
           have n4_:yc (((((((((w16.setCell ⟨gb113,0,none⟩ (.string ((yC l0_7 x24_1).f0))).setCell ⟨gb113,1,none⟩ (.int .i64 ((yC l0_7 x24_1).f1))).setCell ⟨gb113,2,none⟩ (.bool ((yC l0_7 x24_1).f2))).setCell ⟨gb113,3,none⟩ (.int .i64 ((yC l0_7 x24_1).f3))).setCell ⟨gb113,4,none⟩ (.int .u64 ((yC l0_7 x24_1).f4))).setCell ⟨gb113,5,none⟩ (.float .f64 ((yC l0_7 x24_1).f5))).setCell ⟨gb113,6,none⟩ (.string ((yC l0_7 x24_1).f6))).setCell ⟨gb113,7,none⟩ (.slice A112_7 ((yC l0_7 x24_1).f7).length c112_7)).heap[gb113]?=some (.cells #[.string ((yC l0_7 x24_1).f0),.int .i64 ((yC l0_7 x24_1).f1),.bool ((yC l0_7 x24_1).f2),.int .i64 ((yC l0_7 x24_1).f3),.int .u64 ((yC l0_7 x24_1).f4),.float .f64 ((yC l0_7 x24_1).f5),.string ((yC l0_7 x24_1).f6),.slice A112_7 ((yC l0_7 x24_1).f7).length c112_7] 34 (0,0))):=⟨by refine Zb ?_;refine yy (cs:=#[.string ((yC l0_7 x24_1).f0),.int .i64 ((yC l0_7 x24_1).f1),.bool ((yC l0_7 x24_1).f2),.int .i64 ((yC l0_7 x24_1).f3),.int .u64 ((yC l0_7 x24_1).f4),.float .f64 ((yC l0_7 x24_1).f5),.string ((yC l0_7 x24_1).f6),.slice none 0 0]) ?_ 7 _ rfl;refine Zb ?_;refine yy (cs:=#[.string ((yC l0_7 x24_1).f0),.int .i64 ((yC l0_7 x24_1).f1),.bool ((yC l0_7 x24_1).f2),.int .i64 ((yC l0_7 x24_1).f3),.int .u64 ((yC l0_7 x24_1).f4),.float .f64 ((yC l0_7 x24_1).f5),.string (⟨#[]⟩:ByteArray),.slice none 0 0]) ?_ 6 _ rfl;refine Zb ?_;refine yy (cs:=#[.string ((yC l0_7 x24_1).f0),.int .i64 ((yC l0_7 x24_1).f1),.bool ((yC l0_7 x24_1).f2),.int .i64 ((yC l0_7 x24_1).f3),.int .u64 ((yC l0_7 x24_1).f4),.float .f64 0,.string (⟨#[]⟩:ByteArray),.slice none 0 0]) ?_ 5 _ rfl;refine Zb ?_;refine yy (cs:=#[.string ((yC l0_7 x24_1).f0),.int .i64 ((yC l0_7 x24_1).f1),.bool ((yC l0_7 x24_1).f2),.int .i64 ((yC l0_7 x24_1).f3),.int .u64 0,.float .f64 0,.string (⟨#[]⟩:ByteArray),.slice none 0 0]) ?_ 4 _ rfl;refine Zb ?_;refine yy (cs:=#[.string ((yC l0_7 x24_1).f0),.int .i64 ((yC l0_7 x24_1).f1),.bool ((yC l0_7 x24_1).f2),.int .i64 0,.int .u64 0,.float .f64 0,.string (⟨#[]⟩:ByteArray),.slice none 0 0]) ?_ 3 _ rfl;refine Zb ?_;refine yy (cs:=#[.string ((yC l0_7 x24_1).f0),.int .i64 ((yC l0_7 x24_1).f1),.bool false,.int .i64 0,.int .u64 0,.float .f64 0,.string (⟨#[]⟩:ByteArray),.slice none 0 0]) ?_ 2 _ rfl;refine Zb ?_;refine yy (cs:=#[.string ((yC l0_7 x24_1).f0),.int .i64 0,.bool false,.int .i64 0,.int .u64 0,.float .f64 0,.string (⟨#[]⟩:ByteArray),.slice none 0 0]) ?_ 1 _ rfl;refine Zb ?_;refine yy (cs:=#[.string (⟨#[]⟩:ByteArray),.int .i64 0,.bool false,.int .i64 0,.int .u64 0,.float .f64 0,.string (⟨#[]⟩:ByteArray),.slice none 0 0]) ?_ 0 _ rfl;refine Zb ?_;exact BK113.out⟩
           have n5_:yc (Below w.heap.size w ((((((((w16.setCell ⟨gb113,0,none⟩ (.string ((yC l0_7 x24_1).f0))).setCell ⟨gb113,1,none⟩ (.int .i64 ((yC l0_7 x24_1).f1))).setCell ⟨gb113,2,none⟩ (.bool ((yC l0_7 x24_1).f2))).setCell ⟨gb113,3,none⟩ (.int .i64 ((yC l0_7 x24_1).f3))).setCell ⟨gb113,4,none⟩ (.int .u64 ((yC l0_7 x24_1).f4))).setCell ⟨gb113,5,none⟩ (.float .f64 ((yC l0_7 x24_1).f5))).setCell ⟨gb113,6,none⟩ (.string ((yC l0_7 x24_1).f6))).setCell ⟨gb113,7,none⟩ (.slice A112_7 ((yC l0_7 x24_1).f7).length c112_7))):=⟨by repeat (first|(with_reducible first|exact HB.out|apply yl|apply ym|apply yp|refine yu ?_ GE109.out|refine yu ?_ GE110.out|refine yu ?_ GE111.out|refine yu ?_ GE113.out)|exact HB.out)⟩
           (try clear HO_112007)
           (try clear BK109)
           (try clear BK110)
           (try clear BK111)
           (try clear BK113)
           (try clear HB)
           generalize ((((((((w16.setCell ⟨gb113,0,none⟩ (.string ((yC l0_7 x24_1).f0))).setCell ⟨gb113,1,none⟩ (.int .i64 ((yC l0_7 x24_1).f1))).setCell ⟨gb113,2,none⟩ (.bool ((yC l0_7 x24_1).f2))).setCell ⟨gb113,3,none⟩ (.int .i64 ((yC l0_7 x24_1).f3))).setCell ⟨gb113,4,none⟩ (.int .u64 ((yC l0_7 x24_1).f4))).setCell ⟨gb113,5,none⟩ (.float .f64 ((yC l0_7 x24_1).f5))).setCell ⟨gb113,6,none⟩ (.string ((yC l0_7 x24_1).f6))).setCell ⟨gb113,7,none⟩ (.slice A112_7 ((yC l0_7 x24_1).f7).length c112_7))=w21 at n0_ n1_ n2_ n3_ n4_ n5_ ⊢
           have HO_112007:=n0_
           have BK109:=n1_
           have BK110:=n2_
           have BK111:=n3_
           have BK113:=n4_
           have HB:=n5_
           clear n0_ n1_ n2_ n3_ n4_ n5_
           have n0_:=yc.mk (Kd.qh HO_112007.out)
           have n1_:=yc.mk (ybI BK109.out)
           have n2_:=yc.mk (ybI BK110.out)
           have n3_:=yc.mk (ybI BK111.out)
           have n4_:=yc.mk (ybI BK113.out)
           have n5_:=yc.mk (yp HB.out)
           clear HO_112007
           clear BK109
           clear BK110
           clear BK111
           clear BK113
           clear HB
           have HO_112007:=n0_
           have BK109:=n1_
           have BK110:=n2_
           have BK111:=n3_
           have BK113:=n4_
           have HB:=n5_
           clear n0_ n1_ n2_ n3_ n4_ n5_
           refine QQ (n:=8) (S:=fun w'=>w'.cell? ⟨gb111,0,none⟩=some (.string a0_0)∧w'.cell? ⟨gb111,1,none⟩=some (.int .i64 a0_1)∧w'.cell? ⟨gb111,2,none⟩=some (.bool a0_2)∧w'.cell? ⟨gb111,3,none⟩=some (.int .i64 a0_3)∧w'.cell? ⟨gb111,4,none⟩=some (.int .u64 a0_4)∧w'.cell? ⟨gb111,5,none⟩=some (.float .f64 a0_5)∧w'.cell? ⟨gb111,6,none⟩=some (.string a0_6)∧w'.cell? ⟨gb111,7,none⟩=some (u112007)∧w'.cell? ⟨gb113,0,none⟩=some (.string ((yC l0_7 x24_1).f0))∧w'.cell? ⟨gb113,1,none⟩=some (.int .i64 ((yC l0_7 x24_1).f1))∧w'.cell? ⟨gb113,2,none⟩=some (.bool ((yC l0_7 x24_1).f2))∧w'.cell? ⟨gb113,3,none⟩=some (.int .i64 ((yC l0_7 x24_1).f3))∧w'.cell? ⟨gb113,4,none⟩=some (.int .u64 ((yC l0_7 x24_1).f4))∧w'.cell? ⟨gb113,5,none⟩=some (.float .f64 ((yC l0_7 x24_1).f5))∧w'.cell? ⟨gb113,6,none⟩=some (.string ((yC l0_7 x24_1).f6))∧w'.cell? ⟨gb113,7,none⟩=some (.slice A112_7 ((yC l0_7 x24_1).f7).length c112_7)) (ds:=[7]) #[false,false,false,false,false,false,false,false] Zk rfl rfl ⟨(yg BK111.out 0).trans rfl,(yg BK111.out 1).trans rfl,(yg BK111.out 2).trans rfl,(yg BK111.out 3).trans rfl,(yg BK111.out 4).trans rfl,(yg BK111.out 5).trans rfl,(yg BK111.out 6).trans rfl,(yg BK111.out 7).trans rfl,(yg BK113.out 0).trans rfl,(yg BK113.out 1).trans rfl,(yg BK113.out 2).trans rfl,(yg BK113.out 3).trans rfl,(yg BK113.out 4).trans rfl,(yg BK113.out 5).trans rfl,(yg BK113.out 6).trans rfl,(yg BK113.out 7).trans rfl⟩ (fun hHeld=>?_);refine qP yS.tab5 yS.bits5 (fun HT_ HW_=>?_)
           generalize w21.drew=w22 at HO_112007 BK109 BK110 BK111 BK113 HB hHeld ⊢
           refine Ya (i:=0) (N:=some 28) (v:=?_) (a':=?_) #[true,false,false,false,false,false,false,false] rfl rfl (yN HT_.out Zk) (fun _ _ _ h=>h) (Or.inl ⟨by rfl,?_⟩) ?_ ?_
           rotate_left
           · intro w'
             go_simp
             with_reducible rfl
           rotate_left
           · simp only [Act.put,List.setIfInBounds_toArray,List.set_cons_zero,List.set_cons_succ,yM,yP]
             rfl
           refine Q1 (i:=1) (N:=some 29) (v:=?_) (a':=?_) #[true,true,false,false,false,false,false,false] rfl rfl (qq HT_.out HW_.out Zk) (fun _ _ _ h=>h) (Or.inl ⟨by rfl,?_⟩) hHeld ?_ ?_
           rotate_left
           · rintro w' ⟨s0,s1,s2,s3,s4,s5,s6,s7,s8,s9,s10,s11,s12,s13,s14,s15⟩
             go_simp
             with_reducible rfl
           rotate_left
           · simp only [Act.put,List.setIfInBounds_toArray,List.set_cons_zero,List.set_cons_succ,yM,yP]
             rfl
           refine Q1 (i:=2) (N:=some 30) (v:=?_) (a':=?_) #[true,true,true,false,false,false,false,false] rfl rfl (qq HT_.out HW_.out Zk) (fun _ _ _ h=>h) (Or.inl ⟨by rfl,?_⟩) hHeld ?_ ?_
           rotate_left
           · rintro w' ⟨s0,s1,s2,s3,s4,s5,s6,s7,s8,s9,s10,s11,s12,s13,s14,s15⟩
             go_simp
             with_reducible rfl
           rotate_left
           · simp only [Act.put,List.setIfInBounds_toArray,List.set_cons_zero,List.set_cons_succ,yM,yP]
             rfl
           refine one_ (i:=3) (N:=some 31) #[true,true,true,true,false,false,false,false] rfl rfl (Qk HT_.out Zk) Zd (fun K hK=>?_)
           refine goes_ Tryz.func10 Zk rfl #[.agg #[.string ((yC l0_7 x24_1).f0),.int .i64 ((yC l0_7 x24_1).f1),.bool ((yC l0_7 x24_1).f2),.int .i64 ((yC l0_7 x24_1).f3),.int .u64 ((yC l0_7 x24_1).f4),.float .f64 ((yC l0_7 x24_1).f5),.string ((yC l0_7 x24_1).f6),.slice A112_7 ((yC l0_7 x24_1).f7).length c112_7]] (by rfl) rfl rfl (by (try simp only [List.map_toArray,List.map_cons,List.map_nil]);first|done|rfl|(simp only [List.length_drop,List.length_take];rfl)) ?_
           with_reducible refine (ih k1 (by have:=HK1.out;omega) ((yC l0_7 x24_1).f0) ((yC l0_7 x24_1).f1) ((yC l0_7 x24_1).f2) ((yC l0_7 x24_1).f3) ((yC l0_7 x24_1).f4) ((yC l0_7 x24_1).f5) ((yC l0_7 x24_1).f6) _ _ ((yC l0_7 x24_1).f7) t114 t115 t116 t117 t118 t119 t120 t121 _ ?side1 ?side2 A14.out).mono ?_
           (case side1=>repeat (first|exact (Kd.qj HR112_7.out HB.out)|(with_reducible refine Kd.qG ?_ _)|(with_reducible refine Kd.qH ?_ _)|(with_reducible refine Kd.Qv ?_)))
           (case side2=>exact HC112_7.out)
           rintro e w23 ⟨v122,rfl,ho0,hb⟩
           refine ⟨_,rfl,?_⟩
           have n0_:=yc.mk (Kd.yaI (Zr HO_112007.out) (Kd.Q8 ho0) hb)
           have n1_:=yc.mk (Kd.Ji (Kd.ybm (Kd.ybm (Kd.R_new' ho0 (Kd.R_lt (Zr HO_112007.out))) (g:=gb110) (o:=.cells #[.string (⟨#[]⟩:ByteArray),.int .i64 0,.bool false,.int .i64 0,.int .u64 0,.float .f64 0,.string (⟨#[]⟩:ByteArray),.slice none 0 0] 38 (0,0)) (Zb BK110.out)) (g:=gb111) (o:=.cells #[.string a0_0,.int .i64 a0_1,.bool a0_2,.int .i64 a0_3,.int .u64 a0_4,.float .f64 a0_5,.string a0_6,u112007] 38 (0,0)) (Zb BK111.out)) (yt (by repeat (first|(with_reducible first|exact HB.out|apply yl|apply ym|apply yp|refine yu ?_ GE109.out|refine yu ?_ GE110.out|refine yu ?_ GE111.out|refine yu ?_ GE113.out)|exact HB.out))))
           have n2_:=yc.mk (yI (g:=gb109) (o:=.cells #[.string a0_0,.int .i64 a0_1,.bool a0_2,.int .i64 a0_3,.int .u64 a0_4,.float .f64 a0_5,.string a0_6,.slice (some ad112) l0_7.length c0_7] 34 (0,0)) (Zb BK109.out) hb)
           have n3_:=yc.mk (yI (g:=gb110) (o:=.cells #[.string (⟨#[]⟩:ByteArray),.int .i64 0,.bool false,.int .i64 0,.int .u64 0,.float .f64 0,.string (⟨#[]⟩:ByteArray),.slice none 0 0] 38 (0,0)) (Zb BK110.out) hb)
           have n4_:=yc.mk (yI (g:=gb111) (o:=.cells #[.string a0_0,.int .i64 a0_1,.bool a0_2,.int .i64 a0_3,.int .u64 a0_4,.float .f64 a0_5,.string a0_6,u112007] 38 (0,0)) (Zb BK111.out) hb)
           have n5_:=yc.mk (yI (g:=gb113) (o:=.cells #[.string ((yC l0_7 x24_1).f0),.int .i64 ((yC l0_7 x24_1).f1),.bool ((yC l0_7 x24_1).f2),.int .i64 ((yC l0_7 x24_1).f3),.int .u64 ((yC l0_7 x24_1).f4),.float .f64 ((yC l0_7 x24_1).f5),.string ((yC l0_7 x24_1).f6),.slice A112_7 ((yC l0_7 x24_1).f7).length c112_7] 34 (0,0)) (Zb BK113.out) hb)
           have n6_:=yc.mk (yw (by repeat (first|(with_reducible first|exact HB.out|apply yl|apply ym|apply yp|refine yu ?_ GE109.out|refine yu ?_ GE110.out|refine yu ?_ GE111.out|refine yu ?_ GE113.out)|exact HB.out)) hb)
           clear HO_112007
           clear BK109
           clear BK110
           clear BK111
           clear BK113
           clear HB
           have HO_112007:=n0_
           have HO123:=n1_
           have BK109:=n2_
           have BK110:=n3_
           have BK111:=n4_
           have BK113:=n5_
           have HB:=n6_
           clear n0_ n1_ n2_ n3_ n4_ n5_ n6_
           (try clear hb)
           (try clear hb2)
           (try clear hk)
           (try clear hi)
           (try clear ho0)
           obtain ⟨Ao25,co25,eo25⟩:=Kd.YF HO123.out
           (first|subst eo25|(injection eo25 with f1_ f2_ f3_;have f4_:=f1_.symm;have f5_:=f3_.symm;clear f1_ f2_ f3_;subst f4_;subst f5_))
           refine hK.out _ _ ⟨(yg BK111.out 0).trans rfl,(yg BK111.out 1).trans rfl,(yg BK111.out 2).trans rfl,(yg BK111.out 3).trans rfl,(yg BK111.out 4).trans rfl,(yg BK111.out 5).trans rfl,(yg BK111.out 6).trans rfl,(yg BK111.out 7).trans rfl,(yg BK113.out 0).trans rfl,(yg BK113.out 1).trans rfl,(yg BK113.out 2).trans rfl,(yg BK113.out 3).trans rfl,(yg BK113.out 4).trans rfl,(yg BK113.out 5).trans rfl,(yg BK113.out 6).trans rfl,(yg BK113.out 7).trans rfl⟩ (fun hHeld=>?_)
           clear hK K
           refine qV (a':=?_) ?_ ?_
           rotate_left
           · show Act.put _ (some 31) _=_
             simp only [Act.put,List.setIfInBounds_toArray,List.set_cons_zero,List.set_cons_succ,yM,yP]
             rfl
           refine one_ (i:=4) (N:=some 32) #[true,true,true,true,true,false,false,false] rfl rfl (Qk HT_.out Zk) Zd (fun K hK=>?_)
           refine QD (w1:=?_) (v:=?_) (by rfl) rfl ?_ ?_
           rotate_left 2
           · go_simp
             constructor
             · rfl
             · rfl
           refine hK.out _ _ ⟨(yg (Yw BK111.out _) 0).trans rfl,(yg (Yw BK111.out _) 1).trans rfl,(yg (Yw BK111.out _) 2).trans rfl,(yg (Yw BK111.out _) 3).trans rfl,(yg (Yw BK111.out _) 4).trans rfl,(yg (Yw BK111.out _) 5).trans rfl,(yg (Yw BK111.out _) 6).trans rfl,(yg (Yw BK111.out _) 7).trans rfl,(yg (Yw BK113.out _) 0).trans rfl,(yg (Yw BK113.out _) 1).trans rfl,(yg (Yw BK113.out _) 2).trans rfl,(yg (Yw BK113.out _) 3).trans rfl,(yg (Yw BK113.out _) 4).trans rfl,(yg (Yw BK113.out _) 5).trans rfl,(yg (Yw BK113.out _) 6).trans rfl,(yg (Yw BK113.out _) 7).trans rfl⟩ (fun hHeld=>?_)
           clear hK K
           refine qV (a':=?_) ?_ ?_
           rotate_left
           · show Act.put _ (some 32) _=_
             simp only [Act.put,List.setIfInBounds_toArray,List.set_cons_zero,List.set_cons_succ,yM,yP]
             rfl
           refine one_ (i:=5) (N:=some 33) #[true,true,true,true,true,true,false,false] rfl rfl (Qk HT_.out Zk) Zd (fun K hK=>?_)
           refine Kd.Q6 k38 (w0:=w) w.heap.size (by rfl) (.tmp 29) (.tmp 32) 36 38 (.agg #[(.string ⟨#[]⟩),(.int .i64 0),(.bool false),(.int .i64 0),(.int .u64 0),(.float .f64 0),(.string ⟨#[]⟩),(.slice none 0 0)]) 96 rfl Tryz.underlying36 info38 rfl Zd Zo u112007 x112007_1 (⟨t114,t115,t116,t117,t118,t119,t120,t121⟩:S38) [.string t114,.int .i64 t115,.bool t116,.int .i64 t117,.int .u64 t118,.float .f64 t119,.string t120,.slice Ao25 t121.length co25] (fun k_=>k_≠gb110∧k_≠gb111) (fun k_=>((fun k_=>k_≠gb110∧k_≠gb111)) k_∧some k_≠(u112007:Value).ownBlock) rfl rfl ?aP (fun _ hk=>hk) ?aF ?aO ?aB ?aS ?aL ?_
           (case aP=>exact k38_mkM _ _ _ (⟨t114,t115,t116,t117,t118,t119,t120,t121⟩:S38) (Kd.Yr (HO123.out) (fun k_ hk=>⟨⟨hk.1.2,hk.2⟩,hk.1.1.2⟩)))
           (case aB=>exact (by repeat (first|(with_reducible first|exact HB.out|apply yl|apply ym|apply yp|refine yu ?_ GE109.out|refine yu ?_ GE110.out|refine yu ?_ GE111.out|refine yu ?_ GE113.out)|exact HB.out)))
           (case aF=>exact (fun k_ hk=>⟨Kd.JZ (g:=gb110) (o:=.cells #[.string (⟨#[]⟩:ByteArray),.int .i64 0,.bool false,.int .i64 0,.int .u64 0,.float .f64 0,.string (⟨#[]⟩:ByteArray),.slice none 0 0] 38 (0,0)) (Zb BK110.out) k_ hk,Kd.JZ (g:=gb111) (o:=.cells #[.string a0_0,.int .i64 a0_1,.bool a0_2,.int .i64 a0_3,.int .u64 a0_4,.float .f64 a0_5,.string a0_6,u112007] 38 (0,0)) (Zb BK111.out) k_ hk⟩))
           (case aO=>exact (by refine Zr ?_;exact Kd.Yr HO_112007.out (fun _ hk=>⟨hk.1.1,hk.1.2⟩)))
           (case aS=>exact (yt (by repeat (first|(with_reducible first|exact HB.out|apply yl|apply ym|apply yp|refine yu ?_ GE109.out|refine yu ?_ GE110.out|refine yu ?_ GE111.out|refine yu ?_ GE113.out)|exact HB.out))))
           (case aL=>have:=LMc15.out;omega)
           intro v125 w24 ho hb hg hat
           rw [← Ny124.out] at ho
           have n0_:=yc.mk (YV (g:=gb109) (o:=.cells #[.string a0_0,.int .i64 a0_1,.bool a0_2,.int .i64 a0_3,.int .u64 a0_4,.float .f64 a0_5,.string a0_6,.slice (some ad112) l0_7.length c0_7] 34 (0,0)) (Zb BK109.out) hg (Kd.qS HO_112007.out BK109.out Zd))
           have n1_:=yc.mk (YV (g:=gb110) (o:=.cells #[.string (⟨#[]⟩:ByteArray),.int .i64 0,.bool false,.int .i64 0,.int .u64 0,.float .f64 0,.string (⟨#[]⟩:ByteArray),.slice none 0 0] 38 (0,0)) (Zb BK110.out) hg (Kd.Q7 HO_112007.out (fun _ hk=>hk.1.1)))
           have n2_:=yc.mk (YV (g:=gb111) (o:=.cells #[.string a0_0,.int .i64 a0_1,.bool a0_2,.int .i64 a0_3,.int .u64 a0_4,.float .f64 a0_5,.string a0_6,u112007] 38 (0,0)) (Zb BK111.out) hg (Kd.Q7 HO_112007.out (fun _ hk=>hk.1.2)))
           have n3_:=yc.mk (YV (g:=gb113) (o:=.cells #[.string ((yC l0_7 x24_1).f0),.int .i64 ((yC l0_7 x24_1).f1),.bool ((yC l0_7 x24_1).f2),.int .i64 ((yC l0_7 x24_1).f3),.int .u64 ((yC l0_7 x24_1).f4),.float .f64 ((yC l0_7 x24_1).f5),.string ((yC l0_7 x24_1).f6),.slice A112_7 ((yC l0_7 x24_1).f7).length c112_7] 34 (0,0)) (Zb BK113.out) hg (Kd.qS HO_112007.out BK113.out Zd))
           have n4_:=yc.mk (hb)
           have n5_:=yc.mk (ho)
           clear BK109
           clear BK110
           clear BK111
           clear BK113
           clear HB
           clear HO_112007
           clear HO123
           have BK109:=n0_
           have BK110:=n1_
           have BK111:=n2_
           have BK113:=n3_
           have HB:=n4_
           have HO126:=n5_
           clear n0_ n1_ n2_ n3_ n4_ n5_
           clear ho hb hg hat
           obtain ⟨Ao26,co26,eo26⟩:=Kd.YF HO126.out
           (first|subst eo26|(injection eo26 with f1_ f2_ f3_;have f4_:=f1_.symm;have f5_:=f3_.symm;clear f1_ f2_ f3_;subst f4_;subst f5_))
           refine hK.out _ _ ⟨(yg BK111.out 0).trans rfl,(yg BK111.out 1).trans rfl,(yg BK111.out 2).trans rfl,(yg BK111.out 3).trans rfl,(yg BK111.out 4).trans rfl,(yg BK111.out 5).trans rfl,(yg BK111.out 6).trans rfl,(yg BK111.out 7).trans rfl,(yg BK113.out 0).trans rfl,(yg BK113.out 1).trans rfl,(yg BK113.out 2).trans rfl,(yg BK113.out 3).trans rfl,(yg BK113.out 4).trans rfl,(yg BK113.out 5).trans rfl,(yg BK113.out 6).trans rfl,(yg BK113.out 7).trans rfl⟩ (fun hHeld=>?_)
           clear hK K
           refine qV (a':=?_) ?_ ?_
           rotate_left
           · show Act.put _ (some 33) _=_
             simp only [Act.put,List.setIfInBounds_toArray,List.set_cons_zero,List.set_cons_succ,yM,yP]
             rfl
           refine Ya (i:=6) (N:=some 34) (v:=?_) (a':=?_) #[true,true,true,true,true,true,true,false] rfl rfl (yN HT_.out Zk) (fun _ _ _ h=>h) (Or.inl ⟨by rfl,?_⟩) ?_ ?_
           rotate_left
           · intro w'
             go_simp
             with_reducible rfl
           rotate_left
           · simp only [Act.put,List.setIfInBounds_toArray,List.set_cons_zero,List.set_cons_succ,yM,yP]
             rfl
           refine last_ (i:=7) (N:=none) #[true,true,true,true,true,true,true,true] rfl rfl (Qk HT_.out Zk) Zd (fun K hK=>?_)
           have hs27:w24.cell? ⟨gb111,7,none⟩=some (u112007):=(yg BK111.out 7).trans rfl
           have hfs27:=yf BK111.out 7
           have hns27_0:=NB109_111.out
           have hns27_1:=NB110_111.out
           have hns27_3:=NB113_111.out
           have hms27_0:=NB111_109.out
           have hms27_1:=NB111_110.out
           have hms27_3:=NB111_113.out
           refine skip_ (w1:=?_) (by rfl) rfl ?_ ?_
           rotate_left
           · go_simp
             rfl
           refine hK.out _ _ ?_
           clear hK K
           refine done_ (QW HT_.out Zk) ?_
           try go_wp2
           go_roundg k1
           case measure=>have:=HK1.out;omega
           case rel=>exact ⟨(wrap64 (x24_1+1)),(y124),(.slice Ao26 y124.length co26),(by first|rfl|(simp;done)|(simp [*];done)|(simp [yn];done)),H',⟨by have:=HK1.out;omega⟩,⟨by refine Zr ?_;exact Kd.Yr (Kd.YN (p:=⟨gb111,7,none⟩) (Kd.Yr HO126.out (fun k_ hk=>(⟨hk,hk.2⟩:_∧k_≠gb111))) (fun _ hk=>hk.2) (.slice Ao26 y124.length co26)) (fun _ hk=>⟨hk.1.1,hk.1.2⟩)⟩,⟨by refine Zb ?_;refine yH ?_ NB109_111.out _;refine Zb ?_;exact BK109.out⟩,⟨by refine Zb ?_;refine yH ?_ NB110_111.out _;refine Zb ?_;exact BK110.out⟩,⟨by refine Zb ?_;refine yy (cs:=#[.string a0_0,.int .i64 a0_1,.bool a0_2,.int .i64 a0_3,.int .u64 a0_4,.float .f64 a0_5,.string a0_6,u112007]) ?_ 7 _ rfl;refine Zb ?_;exact BK111.out⟩,⟨by repeat (first|(with_reducible first|exact HB.out|apply yl|apply ym|apply yp|refine yu ?_ GE109.out|refine yu ?_ GE110.out|refine yu ?_ GE111.out|refine yu ?_ GE113.out)|exact HB.out)⟩⟩
         · rw [if_neg c15] at H
           exact absurd H (by simp)
       · rw [if_neg c13] at H
         exact absurd H (by simp)
     · rw [if_neg c12] at H
       exact absurd H (by simp)
   · rw [if_neg c11] at H
     have c11b0:decide (x24_1<(l0_7.length:Int))=false:=decide_eq_false c11
     clear c11
     simp only [Option.some.injEq,Prod.mk.injEq] at H
     obtain ⟨rfl,rfl,rfl,rfl,rfl,rfl,rfl,rfl⟩:=H
     have hnb28:=NB111_109.out
     have hnc28:=NB109_111.out
     have hnb29:=NB111_110.out
     have hnc29:=NB110_111.out
     have hcz30_0:wr.cell? ⟨gb111,0,none⟩=some (.string a0_0):=(yg BK111.out 0).trans rfl
     have hcz30_1:wr.cell? ⟨gb111,1,none⟩=some (.int .i64 a0_1):=(yg BK111.out 1).trans rfl
     have hcz30_2:wr.cell? ⟨gb111,2,none⟩=some (.bool a0_2):=(yg BK111.out 2).trans rfl
     have hcz30_3:wr.cell? ⟨gb111,3,none⟩=some (.int .i64 a0_3):=(yg BK111.out 3).trans rfl
     have hcz30_4:wr.cell? ⟨gb111,4,none⟩=some (.int .u64 a0_4):=(yg BK111.out 4).trans rfl
     have hcz30_5:wr.cell? ⟨gb111,5,none⟩=some (.float .f64 a0_5):=(yg BK111.out 5).trans rfl
     have hcz30_6:wr.cell? ⟨gb111,6,none⟩=some (.string a0_6):=(yg BK111.out 6).trans rfl
     have hcz30_7:wr.cell? ⟨gb111,7,none⟩=some (u112007):=(yg BK111.out 7).trans rfl
     have hfz30_0:=yf BK111.out 0
     have hfz30_1:=yf BK111.out 1
     have hfz30_2:=yf BK111.out 2
     have hfz30_3:=yf BK111.out 3
     have hfz30_4:=yf BK111.out 4
     have hfz30_5:=yf BK111.out 5
     have hfz30_6:=yf BK111.out 6
     have hfz30_7:=yf BK111.out 7
     have hnb31:=NB110_109.out
     have hnc31:=NB109_110.out
     have hcz32_0:wr.cell? ⟨gb110,0,none⟩=some (.string (⟨#[]⟩:ByteArray)):=(yg BK110.out 0).trans rfl
     have hcz32_1:wr.cell? ⟨gb110,1,none⟩=some (.int .i64 0):=(yg BK110.out 1).trans rfl
     have hcz32_2:wr.cell? ⟨gb110,2,none⟩=some (.bool false):=(yg BK110.out 2).trans rfl
     have hcz32_3:wr.cell? ⟨gb110,3,none⟩=some (.int .i64 0):=(yg BK110.out 3).trans rfl
     have hcz32_4:wr.cell? ⟨gb110,4,none⟩=some (.int .u64 0):=(yg BK110.out 4).trans rfl
     have hcz32_5:wr.cell? ⟨gb110,5,none⟩=some (.float .f64 0):=(yg BK110.out 5).trans rfl
     have hcz32_6:wr.cell? ⟨gb110,6,none⟩=some (.string (⟨#[]⟩:ByteArray)):=(yg BK110.out 6).trans rfl
     have hcz32_7:wr.cell? ⟨gb110,7,none⟩=some (.slice none 0 0):=(yg BK110.out 7).trans rfl
     have hfz32_0:=yf BK110.out 0
     have hfz32_1:=yf BK110.out 1
     have hfz32_2:=yf BK110.out 2
     have hfz32_3:=yf BK110.out 3
     have hfz32_4:=yf BK110.out 4
     have hfz32_5:=yf BK110.out 5
     have hfz32_6:=yf BK110.out 6
     have hfz32_7:=yf BK110.out 7
     obtain ⟨Ao33,co33,eo33⟩:=Kd.YF HO_112007.out
     subst eo33
     go_wp2
     refine bodyPost_ret (results_cell_row rfl _ _ gb110 38 #[.string a0_0,.int .i64 a0_1,.bool a0_2,.int .i64 a0_3,.int .u64 a0_4,.float .f64 a0_5,.string a0_6,.slice Ao33 x112007_1.length co33] (0,0) _ rfl (by refine Zb ?_;refine yy (cs:=#[.string a0_0,.int .i64 a0_1,.bool a0_2,.int .i64 a0_3,.int .u64 a0_4,.float .f64 a0_5,.string a0_6,.slice none 0 0]) ?_ 7 _ rfl;refine Zb ?_;refine yy (cs:=#[.string a0_0,.int .i64 a0_1,.bool a0_2,.int .i64 a0_3,.int .u64 a0_4,.float .f64 a0_5,.string (⟨#[]⟩:ByteArray),.slice none 0 0]) ?_ 6 _ rfl;refine Zb ?_;refine yy (cs:=#[.string a0_0,.int .i64 a0_1,.bool a0_2,.int .i64 a0_3,.int .u64 a0_4,.float .f64 0,.string (⟨#[]⟩:ByteArray),.slice none 0 0]) ?_ 5 _ rfl;refine Zb ?_;refine yy (cs:=#[.string a0_0,.int .i64 a0_1,.bool a0_2,.int .i64 a0_3,.int .u64 0,.float .f64 0,.string (⟨#[]⟩:ByteArray),.slice none 0 0]) ?_ 4 _ rfl;refine Zb ?_;refine yy (cs:=#[.string a0_0,.int .i64 a0_1,.bool a0_2,.int .i64 0,.int .u64 0,.float .f64 0,.string (⟨#[]⟩:ByteArray),.slice none 0 0]) ?_ 3 _ rfl;refine Zb ?_;refine yy (cs:=#[.string a0_0,.int .i64 a0_1,.bool false,.int .i64 0,.int .u64 0,.float .f64 0,.string (⟨#[]⟩:ByteArray),.slice none 0 0]) ?_ 2 _ rfl;refine Zb ?_;refine yy (cs:=#[.string a0_0,.int .i64 0,.bool false,.int .i64 0,.int .u64 0,.float .f64 0,.string (⟨#[]⟩:ByteArray),.slice none 0 0]) ?_ 1 _ rfl;refine Zb ?_;refine yy (cs:=#[.string (⟨#[]⟩:ByteArray),.int .i64 0,.bool false,.int .i64 0,.int .u64 0,.float .f64 0,.string (⟨#[]⟩:ByteArray),.slice none 0 0]) ?_ 0 _ rfl;refine Zb ?_;exact BK110.out) Tryz.underlying38 rfl Zk) rfl ?_
     exact ⟨_,by first|rfl|(simp [yK,yL] <;> rfl)|(simp [*,yK,yL] <;> rfl),by refine Zr ?_; exact Kd.Yr (Kd.YN (p:=⟨gb110,7,none⟩) (Kd.YN (p:=⟨gb110,6,none⟩) (Kd.YN (p:=⟨gb110,5,none⟩) (Kd.YN (p:=⟨gb110,4,none⟩) (Kd.YN (p:=⟨gb110,3,none⟩) (Kd.YN (p:=⟨gb110,2,none⟩) (Kd.YN (p:=⟨gb110,1,none⟩) (Kd.YN (p:=⟨gb110,0,none⟩) (Kd.Yr HO_112007.out (fun k_ hk=>(⟨hk,hk.1⟩:_∧k_≠gb110))) (fun _ hk=>hk.2) (.string a0_0)) (fun _ hk=>hk.2) (.int .i64 a0_1)) (fun _ hk=>hk.2) (.bool a0_2)) (fun _ hk=>hk.2) (.int .i64 a0_3)) (fun _ hk=>hk.2) (.int .u64 a0_4)) (fun _ hk=>hk.2) (.float .f64 a0_5)) (fun _ hk=>hk.2) (.string a0_6)) (fun _ hk=>hk.2) (.slice Ao33 x112007_1.length co33)) (fun _ hk=>trivial),by repeat (first|(with_reducible first|exact HB.out|apply yl|apply ym|apply yp|refine yu ?_ GE109.out|refine yu ?_ GE110.out|refine yu ?_ GE111.out)|exact HB.out)⟩
end Go.Proofs.YtlmennkeggmdbaaGreatDoor
