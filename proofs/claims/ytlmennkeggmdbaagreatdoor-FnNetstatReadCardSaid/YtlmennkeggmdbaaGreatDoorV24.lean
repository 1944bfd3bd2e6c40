/- Part 24 of 34 of the proof of the tied card of FnNetstatRead. -/
import Derived.Test.YtlmennkeggmdbaaGreatDoorVz
import Derived.Test.YtlmennkeggmdbaaGreatDoorV3
import Derived.Test.YtlmennkeggmdbaaGreatDoorV9
set_option linter.unusedVariables false
set_option linter.unusedSimpArgs false
namespace Go.Proofs.YtlmennkeggmdbaaGreatDoor
open Go.RowKit Go.Proofs.YtlmennkeggmdbaaGreatDoorW.PrintWords Go.Proofs.YtlmennkeggmdbaaGreatDoorW.PrintLast Go.Proofs.YtlmennkeggmdbaaGreatDoorW.PrintMore
attribute [local go_sem] Yt Yp YE YB Yj Yk Yu Yv
mutual
def yA.l0:Nat→ByteArray→List (S71)→Int→Int→Option (ByteArray)
 | 0,_,_,_,_=>none
 | k+1,x3,x10,x11,x12=>if x12<x11 then (if 0≤x12 then (if x12<(x10.length:Int) then (if ((yj x10 x12).f0).size+1≤9223372036854775807 then (yA.l1 k x3 (((yj x10 x12).f0)++(⟨#[58]⟩:ByteArray)) (((yj x10 x12).f0)++(⟨#[58]⟩:ByteArray)) x10 x11 x12 ((yj x10 x12).f2) (((yj x10 x12).f2).length:Int) 0 ((yj x10 x12).f0) ((yj x10 x12).f1) ((yj x10 x12).f2)) else (none)) else (none)) else (none)) else (some x3)
def yA.l1:Nat→ByteArray→ByteArray→ByteArray→List (S71)→Int→Int→List ByteArray→Int→Int→ByteArray→List Int→List ByteArray→Option (ByteArray)
 | 0,_,_,_,_,_,_,_,_,_,_,_,_=>none
 | k+1,x3,x6,x7,x10,x11,x12,x23,x24,x25,x159000,x159001,x159002=>if x25<x24 then (if 0≤x25 then (if x25<(x23.length:Int) then (if 1+(yU ByteArray.empty x23 x25).size≤9223372036854775807 then (if x6.size+1+(yU ByteArray.empty x23 x25).size≤9223372036854775807 then (if x25<(x159001.length:Int) then ((yO.f k (wrap64 (rd x159001 x25))).bind fun t161=>(if 1+t161.size≤9223372036854775807 then (if x7.size+1+t161.size≤9223372036854775807 then (yA.l1 k x3 (x6++((⟨#[32]⟩:ByteArray)++(yU ByteArray.empty x23 x25))) (x7++((⟨#[32]⟩:ByteArray)++t161)) x10 x11 x12 x23 x24 (wrap64 (x25+1)) x159000 x159001 x159002) else (none)) else (none))) else (none)) else (none)) else (none)) else (none)) else (none)) else (if x6.size+1≤9223372036854775807 then (if x6.size+1+x7.size≤9223372036854775807 then (if x6.size+1+x7.size+1≤9223372036854775807 then (if x3.size+x6.size+1+x7.size+1≤9223372036854775807 then (yA.l0 k (x3++(((x6++(⟨#[10]⟩:ByteArray))++x7)++(⟨#[10]⟩:ByteArray))) x10 x11 (wrap64 (x12+1))) else (none)) else (none)) else (none)) else (none))
end
def yA.f (k:Nat) (l0:List (S71)):Option (ByteArray):=yA.l0 k (⟨#[]⟩:ByteArray) l0 (l0.length:Int) 0
theorem yA.YY:∀ k,(∀ y0 y1 y2 y3,LeO (yA.l0 k y0 y1 y2 y3) (yA.l0 (k+1) y0 y1 y2 y3))∧(∀ y0 y1 y2 y3 y4 y5 y6 y7 y8 y9 y10 y11,LeO (yA.l1 k y0 y1 y2 y3 y4 y5 y6 y7 y8 y9 y10 y11) (yA.l1 (k+1) y0 y1 y2 y3 y4 y5 y6 y7 y8 y9 y10 y11))
 | 0=>⟨fun _ _ _ _ r h=>by simp [yA.l0] at h,fun _ _ _ _ _ _ _ _ _ _ _ _ r h=>by simp [yA.l1] at h⟩
 | k+1=>by
  obtain ⟨ih0,ih1⟩:=yA.YY k
  refine ⟨?_,?_⟩
  · intro y0 y1 y2 y3
    unfold yA.l0
    repeat' first
    | (with_reducible exact ih0 _ _ _ _)
    | (with_reducible exact ih1 _ _ _ _ _ _ _ _ _ _ _ _)
    | (with_reducible exact yO.mono _ _)
    | (with_reducible exact LeO.refl _)
    | (with_reducible exact LeO.none _)
    | (with_reducible refine LeO.ite ?_ ?_)
    | (with_reducible refine LeO.bind ?_ (fun _=>?_))
    | exact ih0 _ _ _ _
    | exact ih1 _ _ _ _ _ _ _ _ _ _ _ _
    | exact yO.mono _ _
    | exact LeO.none _
    | refine LeO.ite ?_ ?_
    | refine LeO.bind ?_ (fun _=>?_)
  · intro y0 y1 y2 y3 y4 y5 y6 y7 y8 y9 y10 y11
    unfold yA.l1
    repeat' first
    | (with_reducible exact ih0 _ _ _ _)
    | (with_reducible exact ih1 _ _ _ _ _ _ _ _ _ _ _ _)
    | (with_reducible exact yO.mono _ _)
    | (with_reducible exact LeO.refl _)
    | (with_reducible exact LeO.none _)
    | (with_reducible refine LeO.ite ?_ ?_)
    | (with_reducible refine LeO.bind ?_ (fun _=>?_))
    | exact ih0 _ _ _ _
    | exact ih1 _ _ _ _ _ _ _ _ _ _ _ _
    | exact yO.mono _ _
    | exact LeO.none _
    | refine LeO.ite ?_ ?_
    | refine LeO.bind ?_ (fun _=>?_)
theorem yA.mono:∀ a0 k,LeO (yA.f k a0) (yA.f (k+1) a0):=by
 intro a0 k
 obtain ⟨ih0,ih1⟩:=yA.YY k
 unfold yA.f
 repeat' first
  | (with_reducible exact ih0 _ _ _ _)
  | (with_reducible exact ih1 _ _ _ _ _ _ _ _ _ _ _ _)
  | (with_reducible exact yO.mono _ _)
  | (with_reducible exact LeO.refl _)
  | (with_reducible exact LeO.none _)
  | (with_reducible refine LeO.ite ?_ ?_)
  | (with_reducible refine LeO.bind ?_ (fun _=>?_))
  | exact ih0 _ _ _ _
  | exact ih1 _ _ _ _ _ _ _ _ _ _ _ _
  | exact yO.mono _ _
  | exact LeO.none _
  | refine LeO.ite ?_ ?_
  | refine LeO.bind ?_ (fun _=>?_)
set_option maxHeartbeats 8000000 in
set_option maxRecDepth 100000 in
theorem yA.calls (k:Nat) (A0:Option Addr) (c0:Nat) (l0:List (S71)) (r:ByteArray) (w:World) (hr0:Kd.C k71 w A0 l0.length l0) (hc0:l0.length≤c0) (h:yA.f k l0=some r) :
 Calls Tryz.prog 29 #[.slice A0 l0.length c0] w fun e w'=>e=.returned (.string r)∧Below w.heap.size w w':=by
 have hu71:=Tryz.underlying71
 have HR0:=yc.mk hr0
 have HC0:=yc.mk hc0
 clear hr0 hc0
 have HB:=yc.mk (Below.refl w.heap.size w)
 have H:(yA.l0 k (⟨#[]⟩:ByteArray) l0 (l0.length:Int) 0)=some r:=h
 clear h
 have H':=yc.mk H
 clear H
 go_enter Tryz.func29,Tryz.ntmps29
 go_wp2
 repeat (go_quiet (fail);try go_wp2)
 go_loopg [3,12] k (fun kq v3 v12 w'=>∃ (x3_1:ByteArray) (x12_1:Int),v3=.string x3_1∧v12=.int .i64 x12_1∧yc (yA.l0 kq x3_1 l0 (l0.length:Int) x12_1=some r)∧yc (kq≤k)∧yc (Below w.heap.size w w'))
 case atStart=>exact ⟨((⟨#[]⟩:ByteArray)),(0),(by first|rfl|(simp;done)|(simp [*];done)|(simp [yn];done)),(by first|rfl|(simp;done)|(simp [*];done)|(simp [yn];done)),H',⟨Nat.le_refl _⟩,⟨by repeat (first|(with_reducible first|exact HB.out|apply yl|apply ym|apply yp)|exact HB.out)⟩⟩
 case round=>
  clear H'
  obtain ⟨x3_1,x12_1,rfl,rfl,HA,HK1,HB⟩:=hrel
  cases gk with
  | zero=>exact absurd HA.out (by simp [yA.l0])
  | succ k1=>
   have H:=HA.out
   clear HA
   simp only [yA.l0] at H
   by_cases c2:x12_1<(l0.length:Int)
   · rw [if_pos c2] at H
     have c2b0:decide (x12_1<(l0.length:Int))=true:=decide_eq_true c2
     clear c2
     by_cases c3:0≤x12_1
     · rw [if_pos c3] at H
       have c3b0:decide (0≤x12_1)=true:=decide_eq_true c3
       clear c3
       by_cases c4:x12_1<(l0.length:Int)
       · rw [if_pos c4] at H
         have c4b0:decide (x12_1<(l0.length:Int))=true:=decide_eq_true c4
         clear c4
         by_cases c5:((yj l0 x12_1).f0).size+1≤9223372036854775807
         · rw [if_pos c5] at H
           have c5b0:=eq_true c5
           have c5b1:decide (((yj l0 x12_1).f0).size+1≤9223372036854775807)=true:=decide_eq_true c5
           try have c5b2:(9223372036854775807<((yj l0 x12_1).f0).size+1)=False:=eq_false (Nat.not_lt.2 c5)
           have H':=yc.mk H
           clear H
           have p157:0≤(x12_1:Int):=of_decide_eq_true (by first|(with_reducible assumption)|assumption)
           have q157:x12_1<(l0.length:Int):=of_decide_eq_true (by first|(with_reducible assumption)|assumption)
           obtain ⟨ad157,A157_1,c157_1,A157_2,c157_2,e157,hx157_0,hx157_1,hx157_2,hl157_1,hi157_1,hl157_2,hi157_2⟩:=ybo HR0.out x12_1 p157 q157
           cases e157
           replace hx157_0:=(HB.out.cell (World.block_lt_of_cell? w _ hx157_0)).trans hx157_0
           replace hx157_1:=(HB.out.cell (World.block_lt_of_cell? w _ hx157_1)).trans hx157_1
           replace hx157_2:=(HB.out.cell (World.block_lt_of_cell? w _ hx157_2)).trans hx157_2
           have HR157_1:=yc.mk hi157_1
           have HC157_1:=yc.mk hl157_1
           clear hi157_1 hl157_1
           have HR157_2:=yc.mk hi157_2
           have HC157_2:=yc.mk hl157_2
           clear hi157_2 hl157_2
           replace p157:=eq_true p157
           replace q157:=eq_true q157
           go_wp2_with (first|((with_reducible refine YX (N:=5) rfl ?_);refine YW ?hg (N:=5) ?hd (cs:=#[.string (⟨#[]⟩:ByteArray),.slice none 0 0,.slice none 0 0]) (t:=71) ?hr ?_;(case hd=>rfl);(case hg=>rfl);(case hr=>first|(go_simp;done)|(go_simp;rfl));intro gb158 hg w6 hbox hb;have n0_:=yc.mk (yw Zh hb);have n1_:=yc.mk (hbox);have n2_:=yc.mk ((by rw [hg];exact (yt Zh):w.heap.size≤gb158));have n3_:=yc.mk ((by rw [hg];exact (yt Zh):w.heap.size≤gb158));clear HB;have HB:=n0_;have BK158:=n1_;have GW158:=n2_;have GE158:=n3_;clear n0_ n1_ n2_ n3_;clear hb hbox hg;have hcz7_0:w6.cell? ⟨gb158,0,none⟩=some (.string (⟨#[]⟩:ByteArray)):=(yg BK158.out 0).trans rfl;have hcz7_1:w6.cell? ⟨gb158,1,none⟩=some (.slice none 0 0):=(yg BK158.out 1).trans rfl;have hcz7_2:w6.cell? ⟨gb158,2,none⟩=some (.slice none 0 0):=(yg BK158.out 2).trans rfl;have hfz7_0:=yf BK158.out 0;have hfz7_1:=yf BK158.out 1;have hfz7_2:=yf BK158.out 2))
           repeat (go_quiet (first|((with_reducible refine YX (N:=5) rfl ?_);refine YW ?hg (N:=5) ?hd (cs:=#[.string (⟨#[]⟩:ByteArray),.slice none 0 0,.slice none 0 0]) (t:=71) ?hr ?_;(case hd=>rfl);(case hg=>rfl);(case hr=>first|(go_simp;done)|(go_simp;rfl));intro gb158 hg w6 hbox hb;have n0_:=yc.mk (yw Zh hb);have n1_:=yc.mk (hbox);have n2_:=yc.mk ((by rw [hg];exact (yt Zh):w.heap.size≤gb158));have n3_:=yc.mk ((by rw [hg];exact (yt Zh):w.heap.size≤gb158));clear HB;have HB:=n0_;have BK158:=n1_;have GW158:=n2_;have GE158:=n3_;clear n0_ n1_ n2_ n3_;clear hb hbox hg;have hcz7_0:w6.cell? ⟨gb158,0,none⟩=some (.string (⟨#[]⟩:ByteArray)):=(yg BK158.out 0).trans rfl;have hcz7_1:w6.cell? ⟨gb158,1,none⟩=some (.slice none 0 0):=(yg BK158.out 1).trans rfl;have hcz7_2:w6.cell? ⟨gb158,2,none⟩=some (.slice none 0 0):=(yg BK158.out 2).trans rfl;have hfz7_0:=yf BK158.out 0;have hfz7_1:=yf BK158.out 1;have hfz7_2:=yf BK158.out 2));try go_wp2_with (first|((with_reducible refine YX (N:=5) rfl ?_);refine YW ?hg (N:=5) ?hd (cs:=#[.string (⟨#[]⟩:ByteArray),.slice none 0 0,.slice none 0 0]) (t:=71) ?hr ?_;(case hd=>rfl);(case hg=>rfl);(case hr=>first|(go_simp;done)|(go_simp;rfl));intro gb158 hg w6 hbox hb;have n0_:=yc.mk (yw Zh hb);have n1_:=yc.mk (hbox);have n2_:=yc.mk ((by rw [hg];exact (yt Zh):w.heap.size≤gb158));have n3_:=yc.mk ((by rw [hg];exact (yt Zh):w.heap.size≤gb158));clear HB;have HB:=n0_;have BK158:=n1_;have GW158:=n2_;have GE158:=n3_;clear n0_ n1_ n2_ n3_;clear hb hbox hg;have hcz7_0:w6.cell? ⟨gb158,0,none⟩=some (.string (⟨#[]⟩:ByteArray)):=(yg BK158.out 0).trans rfl;have hcz7_1:w6.cell? ⟨gb158,1,none⟩=some (.slice none 0 0):=(yg BK158.out 1).trans rfl;have hcz7_2:w6.cell? ⟨gb158,2,none⟩=some (.slice none 0 0):=(yg BK158.out 2).trans rfl;have hfz7_0:=yf BK158.out 0;have hfz7_1:=yf BK158.out 1;have hfz7_2:=yf BK158.out 2)))
           go_loopg [6,7,25] k1 (fun kq v6 v7 v25 w'=>∃ (x6_2:ByteArray) (x7_2:ByteArray) (x25_2:Int),v6=.string x6_2∧v7=.string x7_2∧v25=.int .i64 x25_2∧yc (yA.l1 kq x3_1 x6_2 x7_2 l0 (l0.length:Int) x12_1 ((yj l0 x12_1).f2) (((yj l0 x12_1).f2).length:Int) x25_2 ((yj l0 x12_1).f0) ((yj l0 x12_1).f1) ((yj l0 x12_1).f2)=some r)∧yc (kq≤k1)∧yc (w'.heap[gb158]?=some (.cells #[.string ((yj l0 x12_1).f0),(.slice A157_1 ((yj l0 x12_1).f1).length c157_1),(.slice A157_2 ((yj l0 x12_1).f2).length c157_2)] 71 (0,0)))∧yc (Below w.heap.size w w'))
           case atStart=>exact ⟨(((yj l0 x12_1).f0)++(⟨#[58]⟩:ByteArray)),(((yj l0 x12_1).f0)++(⟨#[58]⟩:ByteArray)),(0),(by first|rfl|(simp;done)|(simp [*];done)|(simp [yn];done)),(by first|rfl|(simp;done)|(simp [*];done)|(simp [yn];done)),(by first|rfl|(simp;done)|(simp [*];done)|(simp [yn];done)),H',⟨Nat.le_refl _⟩,⟨by refine Zb ?_;refine yy (cs:=#[.string ((yj l0 x12_1).f0),.slice A157_1 ((yj l0 x12_1).f1).length c157_1,.slice none 0 0]) ?_ 2 _ rfl;refine Zb ?_;refine yy (cs:=#[.string ((yj l0 x12_1).f0),.slice none 0 0,.slice none 0 0]) ?_ 1 _ rfl;refine Zb ?_;refine yy (cs:=#[.string (⟨#[]⟩:ByteArray),.slice none 0 0,.slice none 0 0]) ?_ 0 _ rfl;refine Zb ?_;exact BK158.out⟩,⟨by repeat (first|(with_reducible first|exact HB.out|apply yl|apply ym|apply yp|refine yu ?_ GE158.out)|exact HB.out)⟩⟩
           case round=>
            clear H'
            try clear c1
            try clear p1
            try clear q1
            try clear hx1
            try clear c2
            try clear c2b0
            try clear p2
            try clear c3
            try clear c3b0
            try clear c4
            try clear c4b0
            try clear c5
            try clear c5b0
            try clear c5b1
            try clear c5b2
            try clear hcz7_0
            try clear hcz7_1
            try clear hcz7_2
            try clear hfz7_0
            try clear hfz7_1
            try clear hfz7_2
            try clear hx157_0
            try clear hx157_1
            try clear hx157_2
            try clear p157
            try clear q157
            obtain ⟨x6_2,x7_2,x25_2,rfl,rfl,rfl,HA,HK2,BK158,HB⟩:=hrel
            cases gk with
            | zero=>exact absurd HA.out (by simp [yA.l1])
            | succ k2=>
             have H:=HA.out
             clear HA
             simp only [yA.l1] at H
             by_cases c8:x25_2<(((yj l0 x12_1).f2).length:Int)
             · rw [if_pos c8] at H
               have c8b0:decide (x25_2<(((yj l0 x12_1).f2).length:Int))=true:=decide_eq_true c8
               clear c8
               by_cases c9:0≤x25_2
               · rw [if_pos c9] at H
                 have c9b0:decide (0≤x25_2)=true:=decide_eq_true c9
                 clear c9
                 by_cases c10:x25_2<(((yj l0 x12_1).f2).length:Int)
                 · rw [if_pos c10] at H
                   have c10b0:decide (x25_2<(((yj l0 x12_1).f2).length:Int))=true:=decide_eq_true c10
                   clear c10
                   by_cases c11:1+(yU ByteArray.empty ((yj l0 x12_1).f2) x25_2).size≤9223372036854775807
                   · rw [if_pos c11] at H
                     have c11b0:=eq_true c11
                     have c11b1:decide (1+(yU ByteArray.empty ((yj l0 x12_1).f2) x25_2).size≤9223372036854775807)=true:=decide_eq_true c11
                     try have c11b2:(9223372036854775807<1+(yU ByteArray.empty ((yj l0 x12_1).f2) x25_2).size)=False:=eq_false (Nat.not_lt.2 c11)
                     by_cases c12:x6_2.size+1+(yU ByteArray.empty ((yj l0 x12_1).f2) x25_2).size≤9223372036854775807
                     · rw [if_pos c12] at H
                       have c12b0:=eq_true c12
                       have c12b1:decide (x6_2.size+1+(yU ByteArray.empty ((yj l0 x12_1).f2) x25_2).size≤9223372036854775807)=true:=decide_eq_true c12
                       try have c12b2:(9223372036854775807<x6_2.size+1+(yU ByteArray.empty ((yj l0 x12_1).f2) x25_2).size)=False:=eq_false (Nat.not_lt.2 c12)
                       by_cases c13:x25_2<(((yj l0 x12_1).f1).length:Int)
                       · rw [if_pos c13] at H
                         have c13b0:decide (x25_2<(((yj l0 x12_1).f1).length:Int))=true:=decide_eq_true c13
                         clear c13
                         replace H:=Option.bind_eq_some_iff.mp H
                         obtain ⟨t161,A140,H⟩:=H
                         replace H:(if 1+t161.size≤9223372036854775807 then (if x7_2.size+1+t161.size≤9223372036854775807 then (yA.l1 k2 x3_1 (x6_2++((⟨#[32]⟩:ByteArray)++(yU ByteArray.empty ((yj l0 x12_1).f2) x25_2))) (x7_2++((⟨#[32]⟩:ByteArray)++t161)) l0 (l0.length:Int) x12_1 ((yj l0 x12_1).f2) (((yj l0 x12_1).f2).length:Int) (wrap64 (x25_2+1)) ((yj l0 x12_1).f0) ((yj l0 x12_1).f1) ((yj l0 x12_1).f2)) else (none)) else (none))=some r:=H
                         have A14:=yc.mk A140
                         clear A140
                         by_cases c15:1+t161.size≤9223372036854775807
                         · rw [if_pos c15] at H
                           have c15b0:=eq_true c15
                           have c15b1:decide (1+t161.size≤9223372036854775807)=true:=decide_eq_true c15
                           try have c15b2:(9223372036854775807<1+t161.size)=False:=eq_false (Nat.not_lt.2 c15)
                           by_cases c16:x7_2.size+1+t161.size≤9223372036854775807
                           · rw [if_pos c16] at H
                             have c16b0:=eq_true c16
                             have c16b1:decide (x7_2.size+1+t161.size≤9223372036854775807)=true:=decide_eq_true c16
                             try have c16b2:(9223372036854775807<x7_2.size+1+t161.size)=False:=eq_false (Nat.not_lt.2 c16)
                             have H':=yc.mk H
                             clear H
                             have p159:0≤(x25_2:Int):=of_decide_eq_true (by first|(with_reducible assumption)|assumption)
                             have q159:x25_2<(((yj l0 x12_1).f2).length:Int):=of_decide_eq_true (by first|(with_reducible assumption)|assumption)
                             obtain ⟨ad159,e159,hx159_0⟩:=Kd.YH HR157_2.out x25_2 p159 q159
                             cases e159
                             replace hx159_0:=(HB.out.cell (World.block_lt_of_cell? w _ hx159_0)).trans hx159_0
                             replace p159:=eq_true p159
                             replace q159:=eq_true q159
                             have hcz17_0:wr.cell? ⟨gb158,0,none⟩=some (.string ((yj l0 x12_1).f0)):=(yg BK158.out 0).trans rfl
                             have hcz17_1:wr.cell? ⟨gb158,1,none⟩=some (.slice A157_1 ((yj l0 x12_1).f1).length c157_1):=(yg BK158.out 1).trans rfl
                             have hcz17_2:wr.cell? ⟨gb158,2,none⟩=some (.slice (some ad159) ((yj l0 x12_1).f2).length c157_2):=(yg BK158.out 2).trans rfl
                             have hfz17_0:=yf BK158.out 0
                             have hfz17_1:=yf BK158.out 1
                             have hfz17_2:=yf BK158.out 2
                             have p160:0≤(x25_2:Int):=of_decide_eq_true (by first|(with_reducible assumption)|assumption)
                             have q160:x25_2<(((yj l0 x12_1).f1).length:Int):=of_decide_eq_true (by first|(with_reducible assumption)|assumption)
                             obtain ⟨ad160,e160,hx160_0⟩:=Kd.at_int HR157_1.out x25_2 p160 q160
                             cases e160
                             replace hx160_0:=(HB.out.cell (World.block_lt_of_cell? w _ hx160_0)).trans hx160_0
                             replace p160:=eq_true p160
                             replace q160:=eq_true q160
                             go_wp2_with (first|(go_at_call 28;(with_reducible refine (yO.calls k2 (wrap64 (rd ((yj l0 x12_1).f1) x25_2)) t161 _ A14.out).mono ?_);rintro e w18 ⟨rfl,hb⟩;have n0_:=yc.mk (yI (g:=gb158) (o:=.cells #[.string ((yj l0 x12_1).f0),.slice (some ad160) ((yj l0 x12_1).f1).length c157_1,.slice (some ad159) ((yj l0 x12_1).f2).length c157_2] 71 (0,0)) (Zb BK158.out) hb);have n1_:=yc.mk (yw (Zg GE158.out) hb);clear BK158 HB;have BK158:=n0_;have HB:=n1_;clear n0_ n1_;(try clear hb);(try clear hb2);(try clear hk);(try clear hi)))
                             repeat (go_quiet (first|(go_at_call 28;(with_reducible refine (yO.calls k2 (wrap64 (rd ((yj l0 x12_1).f1) x25_2)) t161 _ A14.out).mono ?_);rintro e w18 ⟨rfl,hb⟩;have n0_:=yc.mk (yI (g:=gb158) (o:=.cells #[.string ((yj l0 x12_1).f0),.slice (some ad160) ((yj l0 x12_1).f1).length c157_1,.slice (some ad159) ((yj l0 x12_1).f2).length c157_2] 71 (0,0)) (Zb BK158.out) hb);have n1_:=yc.mk (yw (Zg GE158.out) hb);clear BK158 HB;have BK158:=n0_;have HB:=n1_;clear n0_ n1_;(try clear hb);(try clear hb2);(try clear hk);(try clear hi)));try go_wp2_with (first|(go_at_call 28;(with_reducible refine (yO.calls k2 (wrap64 (rd ((yj l0 x12_1).f1) x25_2)) t161 _ A14.out).mono ?_);rintro e w18 ⟨rfl,hb⟩;have n0_:=yc.mk (yI (g:=gb158) (o:=.cells #[.string ((yj l0 x12_1).f0),.slice (some ad160) ((yj l0 x12_1).f1).length c157_1,.slice (some ad159) ((yj l0 x12_1).f2).length c157_2] 71 (0,0)) (Zb BK158.out) hb);have n1_:=yc.mk (yw (Zg GE158.out) hb);clear BK158 HB;have BK158:=n0_;have HB:=n1_;clear n0_ n1_;(try clear hb);(try clear hb2);(try clear hk);(try clear hi))))
                             go_roundg k2
                             case measure=>have:=HK1.out;have:=HK2.out;omega
                             case rel=>exact ⟨(x6_2++((⟨#[32]⟩:ByteArray)++(yU ByteArray.empty ((yj l0 x12_1).f2) x25_2))),(x7_2++((⟨#[32]⟩:ByteArray)++t161)),(wrap64 (x25_2+1)),(by first|rfl|(simp;done)|(simp [*];done)|(simp [yn];done)),(by first|rfl|(simp;done)|(simp [*];done)|(simp [yn];done)),(by first|rfl|(simp;done)|(simp [*];done)|(simp [yn];done)),H',⟨by have:=HK1.out;have:=HK2.out;omega⟩,⟨by refine Zb ?_;exact BK158.out⟩,⟨by repeat (first|(with_reducible first|exact HB.out|apply yl|apply ym|apply yp|refine yu ?_ GE158.out)|exact HB.out)⟩⟩
                           · rw [if_neg c16] at H
                             exact absurd H (by simp)
                         · rw [if_neg c15] at H
                           exact absurd H (by simp)
                       · rw [if_neg c13] at H
                         exact absurd H (by simp)
                     · rw [if_neg c12] at H
                       exact absurd H (by simp)
                   · rw [if_neg c11] at H
                     exact absurd H (by simp)
                 · rw [if_neg c10] at H
                   exact absurd H (by simp)
               · rw [if_neg c9] at H
                 exact absurd H (by simp)
             · rw [if_neg c8] at H
               have c8b0:decide (x25_2<(((yj l0 x12_1).f2).length:Int))=false:=decide_eq_false c8
               clear c8
               by_cases c19:x6_2.size+1≤9223372036854775807
               · rw [if_pos c19] at H
                 have c19b0:=eq_true c19
                 have c19b1:decide (x6_2.size+1≤9223372036854775807)=true:=decide_eq_true c19
                 try have c19b2:(9223372036854775807<x6_2.size+1)=False:=eq_false (Nat.not_lt.2 c19)
                 by_cases c20:x6_2.size+1+x7_2.size≤9223372036854775807
                 · rw [if_pos c20] at H
                   have c20b0:=eq_true c20
                   have c20b1:decide (x6_2.size+1+x7_2.size≤9223372036854775807)=true:=decide_eq_true c20
                   try have c20b2:(9223372036854775807<x6_2.size+1+x7_2.size)=False:=eq_false (Nat.not_lt.2 c20)
                   by_cases c21:x6_2.size+1+x7_2.size+1≤9223372036854775807
                   · rw [if_pos c21] at H
                     have c21b0:=eq_true c21
                     have c21b1:decide (x6_2.size+1+x7_2.size+1≤9223372036854775807)=true:=decide_eq_true c21
                     try have c21b2:(9223372036854775807<x6_2.size+1+x7_2.size+1)=False:=eq_false (Nat.not_lt.2 c21)
                     by_cases c22:x3_1.size+x6_2.size+1+x7_2.size+1≤9223372036854775807
                     · rw [if_pos c22] at H
                       have c22b0:=eq_true c22
                       have c22b1:decide (x3_1.size+x6_2.size+1+x7_2.size+1≤9223372036854775807)=true:=decide_eq_true c22
                       try have c22b2:(9223372036854775807<x3_1.size+x6_2.size+1+x7_2.size+1)=False:=eq_false (Nat.not_lt.2 c22)
                       have H':=yc.mk H
                       clear H
                       go_wp2
                       repeat (go_quiet (fail);try go_wp2)
                       go_roundg k2
                       case measure=>have:=HK1.out;have:=HK2.out;omega
                       case rel=>exact ⟨(x3_1++(((x6_2++(⟨#[10]⟩:ByteArray))++x7_2)++(⟨#[10]⟩:ByteArray))),(wrap64 (x12_1+1)),(by first|rfl|(simp;done)|(simp [*];done)|(simp [yn];done)),(by first|rfl|(simp;done)|(simp [*];done)|(simp [yn];done)),H',⟨by have:=HK1.out;have:=HK2.out;omega⟩,⟨by repeat (first|(with_reducible first|exact HB.out|apply yl|apply ym|apply yp|refine yu ?_ GE158.out)|exact HB.out)⟩⟩
                     · rw [if_neg c22] at H
                       exact absurd H (by simp)
                   · rw [if_neg c21] at H
                     exact absurd H (by simp)
                 · rw [if_neg c20] at H
                   exact absurd H (by simp)
               · rw [if_neg c19] at H
                 exact absurd H (by simp)
         · rw [if_neg c5] at H
           exact absurd H (by simp)
       · rw [if_neg c4] at H
         exact absurd H (by simp)
     · rw [if_neg c3] at H
       exact absurd H (by simp)
   · rw [if_neg c2] at H
     have c2b0:decide (x12_1<(l0.length:Int))=false:=decide_eq_false c2
     clear c2
     obtain rfl:=Option.some.inj H
     go_wp2
     repeat (go_quiet (fail);try go_wp2)
     go_ret
     exact ⟨by first|rfl|(simp [yK,yL] <;> rfl)|(simp [*,yK,yL] <;> rfl),by repeat (first|(with_reducible first|exact HB.out|apply yl|apply ym|apply yp)|exact HB.out)⟩
end Go.Proofs.YtlmennkeggmdbaaGreatDoor
