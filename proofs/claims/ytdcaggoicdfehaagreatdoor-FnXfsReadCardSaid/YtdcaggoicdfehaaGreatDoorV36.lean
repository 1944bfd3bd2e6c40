/- Part 36 of 44 of the proof of the tied card of FnXfsRead. -/
import Derived.Test.YtdcaggoicdfehaaGreatDoorVz
import Derived.Test.YtdcaggoicdfehaaGreatDoorV4
import Derived.Test.YtdcaggoicdfehaaGreatDoorV34
import Derived.Test.YtdcaggoicdfehaaGreatDoorV35
set_option linter.unusedVariables false
set_option linter.unusedSimpArgs false
namespace Go.Proofs.YtdcaggoicdfehaaGreatDoor
open Go.RowKit Go.Proofs.YtdcaggoicdfehaaGreatDoorW.PrintWords Go.Proofs.YtdcaggoicdfehaaGreatDoorW.PrintLast Go.Proofs.YtdcaggoicdfehaaGreatDoorW.PrintMore
attribute [local go_sem] YX YV Ja Jb YK YL YW YU
mutual
def yM.l0:Nat→ByteArray→List (S56)→List ByteArray→Int→Int→Option ((List (S56)) × Bool)
 | 0,_,_,_,_,_=>none
 | k+1,x1,x6,x12,x13,x14=>if x14<x13 then (if 0≤x14 then (if x14<(x12.length:Int) then ((yD.f k (YJ ByteArray.empty x12 x14)).bind fun t152=>(if (t152.length:Int)=0 then (yM.j1 k x1 x6 t152 x12 x13 x14 true) else (if 0<(t152.length:Int) then ((qJ.f (YJ ByteArray.empty t152 0) x1).bind fun t156=>(yM.j1 k x1 x6 t152 x12 x13 x14 (!t156))) else (none)))) else (none)) else (none)) else (some (x6,true))
def yM.j1:Nat→ByteArray→List (S56)→List ByteArray→List ByteArray→Int→Int→Bool→Option ((List (S56)) × Bool)
 | 0,_,_,_,_,_,_,_=>none
 | k+1,x1,x6,x9,x12,x13,x14,x30=>if x30=true then (some (([]:List (S56)),false)) else (if 1≤(x9.length:Int) then ((yQ.f k (x9.drop 1)).bind fun bt161=>(if bt161.2=true then (if 0<(x9.length:Int) then (if 0≤(wrap64 (((YJ ByteArray.empty x9 0).size:Int) - (x1.size:Int))) then (if (wrap64 (((YJ ByteArray.empty x9 0).size:Int) - (x1.size:Int)))≤((YJ ByteArray.empty x9 0).size:Int) then (if x6.length<2199023255552 then (yM.l0 k x1 (x6++[(⟨(YJ ByteArray.empty x9 0).extract 0 ((wrap64 (((YJ ByteArray.empty x9 0).size:Int) - (x1.size:Int))):Int).toNat,bt161.1,([]:List ByteArray)⟩:S56)]) x12 x13 (wrap64 (x14+1))) else (none)) else (none)) else (none)) else (none)) else (some (([]:List (S56)),false)))) else (none))
end
def yM.f (k:Nat) (l0:List ByteArray) (a1:ByteArray):Option ((List (S56)) × Bool):=yM.l0 k a1 ([]:List (S56)) l0 (l0.length:Int) 0
theorem yM.YB:∀ k,(∀ y0 y1 y2 y3 y4,LeO (yM.l0 k y0 y1 y2 y3 y4) (yM.l0 (k+1) y0 y1 y2 y3 y4))∧(∀ y0 y1 y2 y3 y4 y5 y6,LeO (yM.j1 k y0 y1 y2 y3 y4 y5 y6) (yM.j1 (k+1) y0 y1 y2 y3 y4 y5 y6))
 | 0=>⟨fun _ _ _ _ _ r h=>by simp [yM.l0] at h,fun _ _ _ _ _ _ _ r h=>by simp [yM.j1] at h⟩
 | k+1=>by
  obtain ⟨ih0,ih1⟩:=yM.YB k
  refine ⟨?_,?_⟩
  · intro y0 y1 y2 y3 y4
    unfold yM.l0
    repeat' first
    | (with_reducible exact ih0 _ _ _ _ _)
    | (with_reducible exact ih1 _ _ _ _ _ _ _)
    | (with_reducible exact yD.mono _ _)
    | (with_reducible exact yQ.mono _ _)
    | (with_reducible exact LeO.refl _)
    | (with_reducible exact LeO.none _)
    | (with_reducible refine LeO.ite ?_ ?_)
    | (with_reducible refine LeO.bind ?_ (fun _=>?_))
    | exact ih0 _ _ _ _ _
    | exact ih1 _ _ _ _ _ _ _
    | exact yD.mono _ _
    | exact yQ.mono _ _
    | exact LeO.none _
    | refine LeO.ite ?_ ?_
    | refine LeO.bind ?_ (fun _=>?_)
  · intro y0 y1 y2 y3 y4 y5 y6
    unfold yM.j1
    repeat' first
    | (with_reducible exact ih0 _ _ _ _ _)
    | (with_reducible exact ih1 _ _ _ _ _ _ _)
    | (with_reducible exact yD.mono _ _)
    | (with_reducible exact yQ.mono _ _)
    | (with_reducible exact LeO.refl _)
    | (with_reducible exact LeO.none _)
    | (with_reducible refine LeO.ite ?_ ?_)
    | (with_reducible refine LeO.bind ?_ (fun _=>?_))
    | exact ih0 _ _ _ _ _
    | exact ih1 _ _ _ _ _ _ _
    | exact yD.mono _ _
    | exact yQ.mono _ _
    | exact LeO.none _
    | refine LeO.ite ?_ ?_
    | refine LeO.bind ?_ (fun _=>?_)
theorem yM.mono:∀ a0 a1 k,LeO (yM.f k a0 a1) (yM.f (k+1) a0 a1):=by
 intro a0 a1 k
 obtain ⟨ih0,ih1⟩:=yM.YB k
 unfold yM.f
 repeat' first
  | (with_reducible exact ih0 _ _ _ _ _)
  | (with_reducible exact ih1 _ _ _ _ _ _ _)
  | (with_reducible exact yD.mono _ _)
  | (with_reducible exact yQ.mono _ _)
  | (with_reducible exact LeO.refl _)
  | (with_reducible exact LeO.none _)
  | (with_reducible refine LeO.ite ?_ ?_)
  | (with_reducible refine LeO.bind ?_ (fun _=>?_))
  | exact ih0 _ _ _ _ _
  | exact ih1 _ _ _ _ _ _ _
  | exact yD.mono _ _
  | exact yQ.mono _ _
  | exact LeO.none _
  | refine LeO.ite ?_ ?_
  | refine LeO.bind ?_ (fun _=>?_)
def yM.T11:Bool × List (List Nat × List Nat):=(true,[([],[]),([],[]),([1],[1]),([2],[2]),([],[]),([4],[4]),([5],[5]),([6],[6]),([],[]),([8],[8]),([7,9],[7,9]),([3,10],[3,10]),([],[]),([11,12],[11,12]),([13],[13]),([0,14],[0,14]),([15,15,0,1,2,3,4,5,6,7,8,9,10,11,12,13,14,15],[0,15])])
def yM.B11:List Nat:=[0,0,2,6,0,16,48,112,0,256,1008,2046,0,8190,16382,32767,65535]
theorem yM.tab11:Ju .any (opsOf Tryz.f11 11)=yM.T11:=by kernel_rfl
theorem yM.bits11:JP yM.T11.2 yM.B11=true:=by kernel_rfl
set_option maxHeartbeats 8000000 in
set_option maxRecDepth 100000 in
theorem yM.calls (k:Nat) (A0:Option Addr) (c0:Nat) (l0:List ByteArray) (a1:ByteArray) (r1:List (S56)) (r2:Bool) (w:World) (hr0:Kd.C Kd.string w A0 l0.length l0) (hc0:l0.length≤c0) (h:yM.f k l0 a1=some (r1,r2)) :
 Calls Tryz.prog 11 #[.slice A0 l0.length c0,.string a1] w fun e w'=>∃ v0_:Value,e=.returned (.tuple #[v0_,.bool r2])∧Kd.S k56 56 w' w.heap.size (fun _=>True) v0_ r1∧Below w.heap.size w w':=by
 have hu56:=Tryz.underlying56
 have HR0:=yc.mk hr0
 have HC0:=yc.mk hc0
 clear hr0 hc0
 have HB:=yc.mk (Below.refl w.heap.size w)
 have H:(yM.l0 k a1 ([]:List (S56)) l0 (l0.length:Int) 0)=some (r1,r2):=h
 clear h
 have H':=yc.mk H
 clear H
 go_enter Tryz.func11,Tryz.ntmps11
 go_wp2
 go_loopg [6,14] k (fun kq v6 v14 w'=>∃ (x6_1:List (S56)) (x14_1:Int),v14=.int .i64 x14_1∧yc (yM.l0 kq a1 x6_1 l0 (l0.length:Int) x14_1=some (r1,r2))∧yc (kq≤k)∧yc (Kd.S k56 56 w' w.heap.size (fun _=>True) v6 x6_1)∧yc (Below w.heap.size w w'))
 case atStart=>exact ⟨(([]:List (S56))),(0),(by first|rfl|(simp;done)|(simp [*];done)|(simp [yx];done)),H',⟨Nat.le_refl _⟩,⟨by first|exact Kd.yaq _ _ _ _ _|exact Kd.yao _ _ _ _ _|exact Kd.Qm _ _ _ _ _|exact Kd.yas _ _ _ _ _|exact Kd.qf _ _ _ _ _⟩,⟨by repeat (first|(with_reducible first|exact HB.out|apply ym|apply yn|apply yu)|exact HB.out)⟩⟩
 case round=>
  clear H'
  try clear c1
  try clear p2
  obtain ⟨x6_1,x14_1,rfl,HA,HK1,HO_6,HB⟩:=hrel
  cases gk with
  | zero=>exact absurd HA.out (by simp [yM.l0])
  | succ k1=>
   have H:=HA.out
   clear HA
   simp only [yM.l0] at H
   by_cases c3:x14_1<(l0.length:Int)
   · rw [if_pos c3] at H
     have c3b0:decide (x14_1<(l0.length:Int))=true:=decide_eq_true c3
     clear c3
     by_cases c4:0≤x14_1
     · rw [if_pos c4] at H
       have c4b0:decide (0≤x14_1)=true:=decide_eq_true c4
       clear c4
       by_cases c5:x14_1<(l0.length:Int)
       · rw [if_pos c5] at H
         have c5b0:decide (x14_1<(l0.length:Int))=true:=decide_eq_true c5
         clear c5
         replace H:=Option.bind_eq_some_iff.mp H
         obtain ⟨t152,A60,H⟩:=H
         replace H:(if (t152.length:Int)=0 then (yM.j1 k1 a1 x6_1 t152 l0 (l0.length:Int) x14_1 true) else (if 0<(t152.length:Int) then ((qJ.f (YJ ByteArray.empty t152 0) a1).bind fun t156=>(yM.j1 k1 a1 x6_1 t152 l0 (l0.length:Int) x14_1 (!t156))) else (none)))=some (r1,r2):=H
         have A6:=yc.mk A60
         clear A60
         have HC7:=yc.mk H
         clear H
         have p151:0≤(x14_1:Int):=of_decide_eq_true (by first|(with_reducible assumption)|assumption)
         have q151:x14_1<(l0.length:Int):=of_decide_eq_true (by first|(with_reducible assumption)|assumption)
         obtain ⟨ad151,e151,hx151_0⟩:=Kd.qc HR0.out x14_1 p151 q151
         cases e151
         replace hx151_0:=(HB.out.cell (World.block_lt_of_cell? w _ hx151_0)).trans hx151_0
         replace p151:=eq_true p151
         replace q151:=eq_true q151
         go_upto_region 6 with (first|((with_reducible refine Yz (f:=29) rfl ?_);refine Yp (some 19) rfl rfl Tryz.func29 Zk rfl #[.string (YJ ByteArray.empty l0 x14_1)] rfl (by (try simp only [List.map_toArray,List.map_cons,List.map_nil]);first|done|rfl|(simp only [List.length_drop,List.length_take];rfl)) ?_;(with_reducible refine (yD.calls k1 (YJ ByteArray.empty l0 x14_1) t152 _ A6.out).mono ?_);rintro e w8 ⟨v153,rfl,ho0,hb⟩;refine ⟨_,rfl,?_⟩;have n0_:=yc.mk (Kd.ydm (by (with_reducible repeat (first|apply Kd.qO|apply Kd.qM|apply Kd.Qu));exact HO_6.out) (Kd.ycb ho0) hb);have n1_:=yc.mk (Kd.JU ho0 (yt Zh));have n2_:=yc.mk (yy Zh hb);clear HO_6 HB;have HO_6:=n0_;have HO154:=n1_;have HB:=n2_;clear n0_ n1_ n2_;(try clear hb);(try clear hb2);(try clear hk);(try clear hi);(try clear ho0)))
         (try simp only [Act.put,List.setIfInBounds_toArray,List.set_cons_zero,List.set_cons_succ])
         go_cut [30] (fun v30 wc=>∃ (kq:Nat) (x30_6:Bool),v30=.bool x30_6∧yc (yM.j1 kq a1 x6_1 t152 l0 (l0.length:Int) x14_1 x30_6=some (r1,r2))∧yc (kq≤k1)∧yc (Kd.S k56 56 wc w.heap.size (fun k_=>some k_≠(v153:Value).ownBlock) u6 x6_1)∧yc (Kd.R Kd.string 9 wc w.heap.size (fun _=>True) v153 t152)∧yc (Below w.heap.size w wc))
         case first=>
          have H:=HC7.out
          clear HC7
          by_cases c9:(t152.length:Int)=0
          · rw [if_pos c9] at H
            have c9b0:((t152.length:Int) == 0)=true:=beq_iff_eq.mpr c9
            have c9b1:((t152.length:Int) != 0)=false:=bne_eq_false_iff_eq.mpr c9
            clear c9
            (first|rw [c9b0]|(simp only [Yq,Yu];rw [c9b0])|skip)
            have H':=yc.mk H
            clear H
            obtain ⟨Ao10,co10,eo10⟩:=Kd.Y7 HO154.out
            subst eo10
            go_wp2
            go_meet
            case rel=>exact ⟨_,(true),(by first|rfl|(simp;done)|(simp [*];done)|(simp [yx];done)),H',⟨by have:=HK1.out;first|omega|exact Nat.le_refl _⟩,⟨by (with_reducible repeat (first|apply Kd.qO|apply Kd.qM|apply Kd.Qu));exact Kd.S_mono HO_6.out (fun _ hk=>hk.2)⟩,⟨by refine Zr ?_;exact HO154.out⟩,⟨by repeat (first|(with_reducible first|exact HB.out|apply ym|apply yn|apply yu)|exact HB.out)⟩⟩
          · rw [if_neg c9] at H
            have c9b0:((t152.length:Int) == 0)=false:=beq_eq_false_iff_ne.mpr c9
            have c9b1:((t152.length:Int) != 0)=true:=bne_iff_ne.mpr c9
            have c9b2:¬ (t152=[]):=fun h_=>c9 (by rw [h_];rfl)
            (first|rw [c9b0]|(simp only [Yq,Yu];rw [c9b0])|skip)
            by_cases c11:0<(t152.length:Int)
            · rw [if_pos c11] at H
              have c11b0:decide (0<(t152.length:Int))=true:=decide_eq_true c11
              have c11b1:decide (0<t152.length)=true:=decide_eq_true Zo
              clear c11
              replace H:=Option.bind_eq_some_iff.mp H
              obtain ⟨t156,A120,H⟩:=H
              replace H:(yM.j1 k1 a1 x6_1 t152 l0 (l0.length:Int) x14_1 (!t156))=some (r1,r2):=H
              have A12:=yc.mk A120
              clear A120
              have H':=yc.mk H
              clear H
              obtain ⟨Ao13,co13,eo13⟩:=Kd.Y7 HO154.out
              subst eo13
              have p155:0≤(0:Int):=Zo
              have q155:0<(t152.length:Int):=of_decide_eq_true (by first|(with_reducible assumption)|assumption)
              obtain ⟨ad155,e155,hx155_0⟩:=Kd.qc (Kd.Jt HO154.out).2.2 0 p155 q155
              cases e155
              have qi155:(0<t152.length)=True:=eq_true Zo
              (try rw [show ((0:Int)).toNat=0 from rfl] at hx155_0)
              (try rw [Addr.add_zero'] at hx155_0)
              replace p155:=eq_true p155
              replace q155:=eq_true q155
              go_wp2_with (first|(go_at_call 30;(with_reducible refine (qJ.calls (YJ ByteArray.empty t152 0) a1 t156 _ A12.out).mono ?_);rintro e w' ⟨rfl,⟨nd,rfl⟩⟩))
              go_meet
              case rel=>exact ⟨_,(!t156),(by first|rfl|(simp;done)|(simp [*];done)|(simp [yx];done)),H',⟨by have:=HK1.out;first|omega|exact Nat.le_refl _⟩,⟨by (with_reducible repeat (first|apply Kd.qO|apply Kd.qM|apply Kd.Qu));exact Kd.S_mono HO_6.out (fun _ hk=>hk.2)⟩,⟨by refine Zr ?_;exact HO154.out⟩,⟨by repeat (first|(with_reducible first|exact HB.out|apply ym|apply yn|apply yu)|exact HB.out)⟩⟩
            · rw [if_neg c11] at H
              exact absurd H (by simp)
         case rest=>
          clear HC7
          try clear c1
          try clear p1
          try clear q1
          try clear hx1
          try clear qi1
          try clear c2
          try clear p2
          try clear c3
          try clear c3b0
          try clear c4
          try clear c4b0
          try clear c5
          try clear c5b0
          try clear c9
          try clear c9b0
          try clear c9b1
          try clear c9b2
          try clear c11
          try clear c11b0
          try clear c11b1
          try clear hx151_0
          try clear hx155_0
          try clear p151
          try clear p155
          try clear p2
          try clear q151
          try clear q155
          obtain ⟨kq,x30_6,rfl,HA,HJ6,HO_6,HO_9,HB⟩:=hcut
          cases kq with
          | zero=>exact absurd HA.out (by simp [yM.j1])
          | succ kj6=>
           have H:=HA.out
           clear HA
           simp only [yM.j1] at H
           by_cases c14:x30_6=true
           · subst c14
             have H1:(some (([]:List (S56)),false))=some (r1,r2):=by rw [if_pos rfl] at H;exact H
             clear H
             have H:=H1
             clear H1
             simp only [Option.some.injEq,Prod.mk.injEq] at H
             obtain ⟨rfl,rfl⟩:=H
             go_wp2
             go_ret2
             exact ⟨_,by first|rfl|(simp [yP,yO] <;> rfl)|(simp [*,yP,yO] <;> rfl),by first|exact Kd.yaq _ _ _ _ _|exact Kd.yao _ _ _ _ _|exact Kd.Qm _ _ _ _ _|exact Kd.yas _ _ _ _ _|exact Kd.qf _ _ _ _ _,by repeat (first|(with_reducible first|exact HB.out|apply ym|apply yn|apply yu)|exact HB.out)⟩
           · replace c14:=Bool.eq_false_iff.mpr c14
             subst c14
             have H1:(if 1≤(t152.length:Int) then ((yQ.f kj6 (t152.drop 1)).bind fun bt161=>(if bt161.2=true then (if 0<(t152.length:Int) then (if 0≤(wrap64 (((YJ ByteArray.empty t152 0).size:Int) - (a1.size:Int))) then (if (wrap64 (((YJ ByteArray.empty t152 0).size:Int) - (a1.size:Int)))≤((YJ ByteArray.empty t152 0).size:Int) then (if x6_1.length<2199023255552 then (yM.l0 kj6 a1 (x6_1++[(⟨(YJ ByteArray.empty t152 0).extract 0 ((wrap64 (((YJ ByteArray.empty t152 0).size:Int) - (a1.size:Int))):Int).toNat,bt161.1,([]:List ByteArray)⟩:S56)]) l0 (l0.length:Int) (wrap64 (x14_1+1))) else (none)) else (none)) else (none)) else (none)) else (some (([]:List (S56)),false)))) else (none))=some (r1,r2):=by rw [if_neg (show ¬ (false=true) by decide)] at H;exact H
             clear H
             have H:=H1
             clear H1
             by_cases c15:1≤(t152.length:Int)
             · rw [if_pos c15] at H
               have c15b0:=eq_true c15
               have c15b1:decide (1≤(t152.length:Int))=true:=decide_eq_true c15
               clear c15
               obtain ⟨y157,hy157⟩:∃ y_:List ByteArray,y_=(t152.drop 1):=⟨_,rfl⟩
               replace H:((yQ.f kj6 y157).bind fun bt161=>(if bt161.2=true then (if 0<(t152.length:Int) then (if 0≤(wrap64 (((YJ ByteArray.empty t152 0).size:Int) - (a1.size:Int))) then (if (wrap64 (((YJ ByteArray.empty t152 0).size:Int) - (a1.size:Int)))≤((YJ ByteArray.empty t152 0).size:Int) then (if x6_1.length<2199023255552 then (yM.l0 kj6 a1 (x6_1++[(⟨(YJ ByteArray.empty t152 0).extract 0 ((wrap64 (((YJ ByteArray.empty t152 0).size:Int) - (a1.size:Int))):Int).toNat,bt161.1,([]:List ByteArray)⟩:S56)]) l0 (l0.length:Int) (wrap64 (x14_1+1))) else (none)) else (none)) else (none)) else (none)) else (some (([]:List (S56)),false))))=some (r1,r2):=by first|(rw [hy157];with_reducible exact H)|(have H2_:=(Option.bind_some _ _).symm.trans H;rw [hy157];with_reducible exact H2_)|(have H2_:=(Option.bind_some _ _).symm.trans H;with_reducible exact H2_)|with_reducible exact H|(rw [hy157];exact H)|exact H
               have Ny157:=yc.mk hy157
               clear hy157
               replace H:=Option.bind_eq_some_iff.mp H
               obtain ⟨⟨t161,t162⟩,A160,H⟩:=H
               replace H:(if t162=true then (if 0<(t152.length:Int) then (if 0≤(wrap64 (((YJ ByteArray.empty t152 0).size:Int) - (a1.size:Int))) then (if (wrap64 (((YJ ByteArray.empty t152 0).size:Int) - (a1.size:Int)))≤((YJ ByteArray.empty t152 0).size:Int) then (if x6_1.length<2199023255552 then (yM.l0 kj6 a1 (x6_1++[(⟨(YJ ByteArray.empty t152 0).extract 0 ((wrap64 (((YJ ByteArray.empty t152 0).size:Int) - (a1.size:Int))):Int).toNat,t161,([]:List ByteArray)⟩:S56)]) l0 (l0.length:Int) (wrap64 (x14_1+1))) else (none)) else (none)) else (none)) else (none)) else (some (([]:List (S56)),false)))=some (r1,r2):=H
               have A16:=yc.mk A160
               clear A160
               by_cases c17:t162=true
               · subst c17
                 have H1:(if 0<(t152.length:Int) then (if 0≤(wrap64 (((YJ ByteArray.empty t152 0).size:Int) - (a1.size:Int))) then (if (wrap64 (((YJ ByteArray.empty t152 0).size:Int) - (a1.size:Int)))≤((YJ ByteArray.empty t152 0).size:Int) then (if x6_1.length<2199023255552 then (yM.l0 kj6 a1 (x6_1++[(⟨(YJ ByteArray.empty t152 0).extract 0 ((wrap64 (((YJ ByteArray.empty t152 0).size:Int) - (a1.size:Int))):Int).toNat,t161,([]:List ByteArray)⟩:S56)]) l0 (l0.length:Int) (wrap64 (x14_1+1))) else (none)) else (none)) else (none)) else (none))=some (r1,r2):=by rw [if_pos rfl] at H;exact H
                 clear H
                 have H:=H1
                 clear H1
                 by_cases c18:0<(t152.length:Int)
                 · rw [if_pos c18] at H
                   have c18b0:decide (0<(t152.length:Int))=true:=decide_eq_true c18
                   have c18b1:decide (0<t152.length)=true:=decide_eq_true Zo
                   clear c18
                   obtain ⟨ji19,hji19⟩:∃ j_:Int,(wrap64 (((YJ ByteArray.empty t152 0).size:Int) - (a1.size:Int)))=j_:=⟨_,rfl⟩
                   replace H:(if 0≤(ji19) then (if (ji19)≤((YJ ByteArray.empty t152 0).size:Int) then (if x6_1.length<2199023255552 then (yM.l0 kj6 a1 (x6_1++[(⟨(YJ ByteArray.empty t152 0).extract 0 ((ji19):Int).toNat,t161,([]:List ByteArray)⟩:S56)]) l0 (l0.length:Int) (wrap64 (x14_1+1))) else (none)) else (none)) else (none))=some (r1,r2):=by first|(rw [hji19] at H;exact H)|(simp only [hji19] at H ⊢;exact H)
                   (try rw [hji19] at A16)
                   have hji19w:(IntKind.i64.wrap (((YJ ByteArray.empty t152 0).size:Int) - (a1.size:Int)))=ji19:=(Yq _).trans hji19
                   by_cases c20:0≤(ji19)
                   · rw [if_pos c20] at H
                     have c20b0:=eq_true c20
                     have c20b1:decide (0≤(ji19))=true:=decide_eq_true c20
                     clear c20
                     by_cases c21:(ji19)≤((YJ ByteArray.empty t152 0).size:Int)
                     · rw [if_pos c21] at H
                       have c21b0:=eq_true c21
                       have c21b1:decide ((ji19)≤((YJ ByteArray.empty t152 0).size:Int))=true:=decide_eq_true c21
                       clear c21
                       by_cases c22:x6_1.length<2199023255552
                       · rw [if_pos c22] at H
                         have LMc22:=yc.mk c22
                         clear c22
                         obtain ⟨y167,hy167⟩:∃ y_:List (S56),y_=(x6_1++[(⟨(YJ ByteArray.empty t152 0).extract 0 ((ji19):Int).toNat,t161,([]:List ByteArray)⟩:S56)]):=⟨_,rfl⟩
                         replace H:(yM.l0 kj6 a1 y167 l0 (l0.length:Int) (wrap64 (x14_1+1)))=some (r1,r2):=by first|(rw [hy167];with_reducible exact H)|(have H2_:=(Option.bind_some _ _).symm.trans H;rw [hy167];with_reducible exact H2_)|(have H2_:=(Option.bind_some _ _).symm.trans H;with_reducible exact H2_)|with_reducible exact H|(rw [hy167];exact H)|exact H
                         have Ny167:=yc.mk hy167
                         clear hy167
                         have H':=yc.mk H
                         clear H
                         obtain ⟨Ao24,co24,eo24⟩:=Kd.Y7 HO_9.out
                         subst eo24
                         have q23:(1:Int)≤((t152.length:Int):Int):=of_decide_eq_true (by first|(with_reducible assumption)|assumption)
                         obtain ⟨i023,hi023,_,hsz23,_⟩:=info_parts info9
                         have hroom23:t152.length≤co24:=(Kd.Jt HO_9.out).2.1
                         have hC23:Kd.C Kd.string _ Ao24 t152.length t152:=(Kd.Jt HO_9.out).2.2
                         have hcut23:=cut_from (P:=Tryz.prog) 44 9 .i64 Tryz.underlying44 hi023 1 hsz23 Ao24 t152.length co24 1 Zo q23
                         have hr23:=Kd.C_drop (m:=(1:Int).toNat) (c:=co24) hC23 Zo hroom23
                         obtain ⟨A23,hA23⟩:∃ A1,A1=(if co24=(1:Int).toNat then Ao24 else (Ao24:Option Addr).map (·.add ((1:Int).toNat * 1))):=⟨_,rfl⟩
                         obtain ⟨c23,hc23⟩:∃ c1,c1=co24 - (1:Int).toNat:=⟨_,rfl⟩
                         have hy23:y157.length=t152.length - (1:Int).toNat:=(by rw [Ny157.out,List.length_drop] <;> omega)
                         rw [show (t152).drop (1:Int).toNat=y157 from Ny157.out.symm] at hr23
                         replace hr23:Kd.C Kd.string _ A23 y157.length y157:=(by rw [hA23];exact hr23)
                         rw [← hy23,← hA23,← hc23] at hcut23
                         have HR160:=yc.mk hr23
                         have HC160:=yc.mk (show y157.length≤c23 from by rw [hy23,hc23];exact Nat.sub_le_sub_right hroom23 _)
                         clear hr23 hC23 hroom23 hi023 hsz23 hc23
                         have KY23:=yc.mk hy23
                         have KA23:=yc.mk hA23
                         clear hy23 hA23
                         have KL23:=yc.mk (show 1≤t152.length from by omega)
                         replace q23:=eq_true q23
                         try go_wp2_with (first|((with_reducible refine Yz (f:=31) rfl ?_);refine Yp (some 34) rfl rfl Tryz.func31 Zk rfl #[.slice A23 y157.length c23] rfl (by (try simp only [List.map_toArray,List.map_cons,List.map_nil]);first|done|rfl|(simp only [List.length_drop,List.length_take];rfl)) ?_;(with_reducible refine (yQ.calls kj6 _ _ y157 t161 true _ ?side1 ?side2 A16.out).mono ?_);(case side1=>repeat (first|exact (by repeat (first|(with_reducible exact HR160.out)|(with_reducible refine Kd.Jo ?_ _)|(with_reducible refine Kd.Jp ?_ _)|(with_reducible refine Kd.JG ?_)|exact HR160.out))|(with_reducible refine Kd.Jo ?_ _)|(with_reducible refine Kd.Jp ?_ _)|(with_reducible refine Kd.JG ?_)));(case side2=>exact HC160.out);rintro e w25 ⟨v163,rfl,ho0,hb⟩;refine ⟨_,rfl,?_⟩;have n0_:=yc.mk (Kd.ydm (by (with_reducible repeat (first|apply Kd.qO|apply Kd.qM|apply Kd.Qu));exact HO_6.out) (Kd.ycb ho0) hb);have n1_:=yc.mk (Kd.qb (Zr HO_9.out) hb);have n2_:=yc.mk (Kd.JU ho0 (yt Zh));have n3_:=yc.mk (Kd.YS (by repeat (first|(with_reducible exact HR160.out)|(with_reducible refine Kd.Jo ?_ _)|(with_reducible refine Kd.Jp ?_ _)|(with_reducible refine Kd.JG ?_)|exact HR160.out)) hb);have n4_:=yc.mk (yy Zh hb);clear HO_6 HO_9 HR160 HB;have HO_6:=n0_;have HO_9:=n1_;have HO164:=n2_;have HR160:=n3_;have HB:=n4_;clear n0_ n1_ n2_ n3_ n4_;(try clear hb);(try clear hb2);(try clear hk);(try clear hi);(try clear ho0)))
                         have n0_:=yc.mk (Kd.Qu HO_6.out)
                         have n1_:=yc.mk (Kd.R_drew HO_9.out)
                         have n2_:=yc.mk (Kd.R_drew HO164.out)
                         have n3_:=yc.mk (Kd.JG HR160.out)
                         have n4_:=yc.mk (yu HB.out)
                         clear HO_6
                         clear HO_9
                         clear HO164
                         clear HR160
                         clear HB
                         have HO_6:=n0_
                         have HO_9:=n1_
                         have HO164:=n2_
                         have HR160:=n3_
                         have HB:=n4_
                         clear n0_ n1_ n2_ n3_ n4_
                         have p165:0≤(0:Int):=Zo
                         have q165:0<(t152.length:Int):=of_decide_eq_true (by first|(with_reducible assumption)|assumption)
                         obtain ⟨ad165,e165,hx165_0⟩:=Kd.qc (Kd.Jt HO_9.out).2.2 0 p165 q165
                         cases e165
                         have qi165:(0<t152.length)=True:=eq_true Zo
                         (try rw [show ((0:Int)).toNat=0 from rfl] at hx165_0)
                         (try rw [Addr.add_zero'] at hx165_0)
                         replace p165:=eq_true p165
                         replace q165:=eq_true q165
                         have p166:0≤(0:Int):=Zo
                         have q166:0<(t152.length:Int):=of_decide_eq_true (by first|(with_reducible assumption)|assumption)
                         obtain ⟨ad166,e166,hx166_0⟩:=Kd.qc (Kd.Jt HO_9.out).2.2 0 p166 q166
                         obtain rfl:ad165=ad166:=(by injection e166)
                         have qi166:(0<t152.length)=True:=eq_true Zo
                         (try rw [show ((0:Int)).toNat=0 from rfl] at hx166_0)
                         (try rw [Addr.add_zero'] at hx166_0)
                         replace p166:=eq_true p166
                         replace q166:=eq_true q166
                         obtain ⟨Ao27,co27,eo27⟩:=Kd.Y7 HO164.out
                         (first|subst eo27|(injection eo27 with f1_ f2_ f3_;have f4_:=f1_.symm;have f5_:=f3_.symm;clear f1_ f2_ f3_;subst f4_;subst f5_))
                         refine Q8 (n:=17) (S:=fun w'=>w'.cell? ad165=some (.string (YJ ByteArray.empty t152 0))∧w'.cell? ad165=some (.string (YJ ByteArray.empty t152 0))) (ds:=[14,15]) #[false,false,false,false,false,false,false,false,false,false,false,false,false,false,false,false,false] Zk rfl rfl ⟨hx165_0,hx166_0⟩ (fun hHeld=>?_);refine yar yM.tab11 yM.bits11 (fun HT_ HW_=>?_)
                         generalize w25.drew=w26 at HO_6 HO_9 HO164 HR160 HB hx165_0 hx166_0 hHeld ⊢
                         refine Js (i:=0) (N:=some 39) (v:=?_) (a':=?_) #[true,false,false,false,false,false,false,false,false,false,false,false,false,false,false,false,false] rfl rfl (Y0 HT_.out Zk) (fun _ _ _ h=>h) (Or.inl ⟨by rfl,?_⟩) ?_ ?_
                         rotate_left
                         · intro w'
                           go_simp
                           with_reducible rfl
                         rotate_left
                         · simp only [Act.put,List.setIfInBounds_toArray,List.set_cons_zero,List.set_cons_succ,Yq,Yu]
                           rfl
                         refine Js (i:=1) (N:=some 40) (v:=?_) (a':=?_) #[true,true,false,false,false,false,false,false,false,false,false,false,false,false,false,false,false] rfl rfl (Y0 HT_.out Zk) (fun _ _ _ h=>h) (Or.inl ⟨by rfl,?_⟩) ?_ ?_
                         rotate_left
                         · intro w'
                           go_simp
                           with_reducible rfl
                         rotate_left
                         · simp only [Act.put,List.setIfInBounds_toArray,List.set_cons_zero,List.set_cons_succ,Yq,Yu]
                           rfl
                         refine Js (i:=2) (N:=some 41) (v:=?_) (a':=?_) #[true,true,true,false,false,false,false,false,false,false,false,false,false,false,false,false,false] rfl rfl (Y0 HT_.out Zk) (fun _ _ _ h=>h) (Or.inl ⟨by rfl,?_⟩) ?_ ?_
                         rotate_left
                         · intro w'
                           go_simp
                           with_reducible rfl
                         rotate_left
                         · simp only [Act.put,List.setIfInBounds_toArray,List.set_cons_zero,List.set_cons_succ,Yq,Yu]
                           rfl
                         refine Js (i:=4) (N:=some 43) (v:=?_) (a':=?_) #[true,true,true,false,true,false,false,false,false,false,false,false,false,false,false,false,false] rfl rfl (Y0 HT_.out Zk) (fun _ _ _ h=>h) (Or.inl ⟨by rfl,?_⟩) ?_ ?_
                         rotate_left
                         · intro w'
                           go_simp
                           with_reducible rfl
                         rotate_left
                         · simp only [Act.put,List.setIfInBounds_toArray,List.set_cons_zero,List.set_cons_succ,Yq,Yu]
                           rfl
                         refine Js (i:=5) (N:=some 44) (v:=?_) (a':=?_) #[true,true,true,false,true,true,false,false,false,false,false,false,false,false,false,false,false] rfl rfl (Y0 HT_.out Zk) (fun _ _ _ h=>h) (Or.inl ⟨by rfl,?_⟩) ?_ ?_
                         rotate_left
                         · intro w'
                           go_simp
                           with_reducible rfl
                         rotate_left
                         · simp only [Act.put,List.setIfInBounds_toArray,List.set_cons_zero,List.set_cons_succ,Yq,Yu]
                           rfl
                         refine Js (i:=8) (N:=some 47) (v:=?_) (a':=?_) #[true,true,true,false,true,true,false,false,true,false,false,false,false,false,false,false,false] rfl rfl (Y0 HT_.out Zk) (fun _ _ _ h=>h) (Or.inl ⟨by rfl,?_⟩) ?_ ?_
                         rotate_left
                         · intro w'
                           go_simp
                           with_reducible rfl
                         rotate_left
                         · simp only [Act.put,List.setIfInBounds_toArray,List.set_cons_zero,List.set_cons_succ,Yq,Yu]
                           rfl
                         refine Js (i:=9) (N:=some 48) (v:=?_) (a':=?_) #[true,true,true,false,true,true,false,false,true,true,false,false,false,false,false,false,false] rfl rfl (Y0 HT_.out Zk) (fun _ _ _ h=>h) (Or.inl ⟨by rfl,?_⟩) ?_ ?_
                         rotate_left
                         · intro w'
                           go_simp
                           with_reducible rfl
                         rotate_left
                         · simp only [Act.put,List.setIfInBounds_toArray,List.set_cons_zero,List.set_cons_succ,Yq,Yu]
                           rfl
                         refine Js (i:=12) (N:=some 51) (v:=?_) (a':=?_) #[true,true,true,false,true,true,false,false,true,true,false,false,true,false,false,false,false] rfl rfl (Y0 HT_.out Zk) (fun _ _ _ h=>h) (Or.inl ⟨by rfl,?_⟩) ?_ ?_
                         rotate_left
                         · intro w'
                           go_simp
                           with_reducible rfl
                         rotate_left
                         · simp only [Act.put,List.setIfInBounds_toArray,List.set_cons_zero,List.set_cons_succ,Yq,Yu]
                           rfl
                         refine ybW (i:=3) (N:=some 42) (v:=?_) (a':=?_) #[true,true,true,true,true,true,false,false,true,true,false,false,true,false,false,false,false] rfl rfl (QS HT_.out HW_.out Zk) (fun _ _ _ h=>h) (Or.inl ⟨by rfl,?_⟩) hHeld ?_ ?_
                         rotate_left
                         · rintro w' ⟨s0,s1⟩
                           go_simp
                           with_reducible rfl
                         rotate_left
                         · simp only [Act.put,List.setIfInBounds_toArray,List.set_cons_zero,List.set_cons_succ,Yq,Yu]
                           rfl
                         refine ybW (i:=6) (N:=some 45) (v:=?_) (a':=?_) #[true,true,true,true,true,true,true,false,true,true,false,false,true,false,false,false,false] rfl rfl (QS HT_.out HW_.out Zk) (fun _ _ _ h=>h) (Or.inl ⟨by rfl,?_⟩) hHeld ?_ ?_
                         rotate_left
                         · rintro w' ⟨s0,s1⟩
                           go_simp
                           with_reducible rfl
                         rotate_left
                         · simp only [Act.put,List.setIfInBounds_toArray,List.set_cons_zero,List.set_cons_succ,Yq,Yu]
                           rfl
                         refine Js (i:=7) (N:=some 46) (v:=?_) (a':=?_) #[true,true,true,true,true,true,true,true,true,true,false,false,true,false,false,false,false] rfl rfl (Y0 HT_.out Zk) (fun _ _ _ h=>h) (Or.inl ⟨by rfl,?_⟩) ?_ ?_
                         rotate_left
                         · intro w'
                           go_simp
                           with_reducible rfl
                         rotate_left
                         · simp only [Act.put,List.setIfInBounds_toArray,List.set_cons_zero,List.set_cons_succ,Yq,Yu]
                           rfl
                         refine Js (i:=10) (N:=some 49) (v:=?_) (a':=?_) #[true,true,true,true,true,true,true,true,true,true,true,false,true,false,false,false,false] rfl rfl (Y0 HT_.out Zk) (fun _ _ _ h=>h) (Or.inl ⟨by rfl,?_⟩) ?_ ?_
                         rotate_left
                         · intro w'
                           go_simp
                           with_reducible rfl
                         rotate_left
                         · simp only [Act.put,List.setIfInBounds_toArray,List.set_cons_zero,List.set_cons_succ,Yq,Yu]
                           rfl
                         refine Js (i:=11) (N:=some 50) (v:=?_) (a':=?_) #[true,true,true,true,true,true,true,true,true,true,true,true,true,false,false,false,false] rfl rfl (Y0 HT_.out Zk) (fun _ _ _ h=>h) (Or.inl ⟨by rfl,?_⟩) ?_ ?_
                         rotate_left
                         · intro w'
                           go_simp
                           with_reducible rfl
                         rotate_left
                         · simp only [Act.put,List.setIfInBounds_toArray,List.set_cons_zero,List.set_cons_succ,Yq,Yu]
                           rfl
                         refine Js (i:=13) (N:=some 52) (v:=?_) (a':=?_) #[true,true,true,true,true,true,true,true,true,true,true,true,true,true,false,false,false] rfl rfl (Y0 HT_.out Zk) (fun _ _ _ h=>h) (Or.inl ⟨by rfl,?_⟩) ?_ ?_
                         rotate_left
                         · intro w'
                           go_simp
                           with_reducible rfl
                         rotate_left
                         · simp only [Act.put,List.setIfInBounds_toArray,List.set_cons_zero,List.set_cons_succ,Yq,Yu]
                           rfl
                         refine last_ (i:=14) (N:=some 53) #[true,true,true,true,true,true,true,true,true,true,true,true,true,true,true,false,false] rfl rfl (qu HT_.out Zk) Zd (fun K hK=>?_)
                         refine qq (w1:=?_) (v:=?_) (by rfl) rfl ?_ ?_
                         rotate_left 2
                         · go_simp
                           constructor
                           · rfl
                           · rfl
                         refine hK.out _ _ ?_
                         clear hK K
                         refine JV (a':=?_) ?_ ?_
                         rotate_left
                         · show Act.put _ (some 53) _=_
                           simp only [Act.put,List.setIfInBounds_toArray,List.set_cons_zero,List.set_cons_succ,Yq,Yu]
                           rfl
                         refine last_ (i:=15) (N:=some 54) #[true,true,true,true,true,true,true,true,true,true,true,true,true,true,true,true,false] rfl rfl (qu HT_.out Zk) Zd (fun K hK=>?_)
                         refine Kd.ydJ k56 (w0:=w) w.heap.size (by rfl) (.tmp 39) (.tmp 53) 27 56 (.agg #[(.string ⟨#[]⟩),(.slice none 0 0),(.slice none 0 0)]) 64 rfl Tryz.underlying27 info56 rfl Zd Zo u6 x6_1 (⟨(YJ ByteArray.empty t152 0).extract 0 ((ji19):Int).toNat,t161,([]:List ByteArray)⟩:S56) [.string ((YJ ByteArray.empty t152 0).extract 0 ((ji19):Int).toNat),.slice Ao27 t161.length co27,.slice none 0 0] (fun k_=>some k_≠(.slice (some ad165) t152.length co24:Value).ownBlock) (fun k_=>some k_=(.slice Ao27 t161.length co27:Value).ownBlock) rfl rfl ?aP (fun k_ hk_=>((Kd.YM (ok':=fun k_=>((fun k_=>some k_≠(.slice (some ad165) t152.length co24:Value).ownBlock)) k_∧some k_≠(u6:Value).ownBlock) (Kd.ybU (Kd.ybU (HO164.out) (Kd.ybg HO_9.out) Zd) (Kd.ybY HO_6.out) Zd) (fun k_ hk=>⟨hk.1.2,hk.2⟩))).1 k_ hk_.symm) ?aF ?aO ?aB ?aS ?aL ?_
                         (case aP=>exact k56_mkM _ _ _ (⟨(YJ ByteArray.empty t152 0).extract 0 ((ji19):Int).toNat,t161,([]:List ByteArray)⟩:S56) (Kd.YM (Kd.R_tight rfl (Kd.YM (ok':=fun k_=>((fun k_=>some k_≠(.slice (some ad165) t152.length co24:Value).ownBlock)) k_∧some k_≠(u6:Value).ownBlock) (Kd.ybU (Kd.ybU (HO164.out) (Kd.ybg HO_9.out) Zd) (Kd.ybY HO_6.out) Zd) (fun k_ hk=>⟨hk.1.2,hk.2⟩))) (fun _ h_=>h_)) (Kd.qf _ _ _ _ _))
                         (case aB=>exact Zh)
                         (case aF=>exact (fun k_ hk=>Kd.fresh' (Kd.R_lt (Zr HO_9.out)) k_ hk))
                         (case aO=>exact (by (with_reducible repeat (first|apply Kd.qO|apply Kd.qM|apply Kd.Qu));exact Kd.S_mono HO_6.out (fun k_ hk=>⟨hk.1,fun e_=>hk.2 e_⟩)))
                         (case aS=>exact (yt Zh))
                         (case aL=>have:=LMc22.out;omega)
                         intro v168 w28 ho hb hg hat
                         rw [← Ny167.out] at ho
                         have n0_:=yc.mk (Kd.R_over' (Zr HO_9.out) (Kd.ybY (by (with_reducible repeat (first|apply Kd.qO|apply Kd.qM|apply Kd.Qu));exact HO_6.out)) Zd hg)
                         have n1_:=yc.mk (hb)
                         have n2_:=yc.mk ((show Kd.C Kd.string w28 A23 y157.length y157 from by rw [Ny157.out,KA23.out];exact Kd.C_drop (m:=1) (c:=co24) ((Kd.Jt (Kd.R_over' (Zr HO_9.out) (Kd.ybY (by (with_reducible repeat (first|apply Kd.qO|apply Kd.qM|apply Kd.Qu));exact HO_6.out)) Zd hg)).2.2) KL23.out ((Kd.Jt (Kd.R_over' (Zr HO_9.out) (Kd.ybY (by (with_reducible repeat (first|apply Kd.qO|apply Kd.qM|apply Kd.Qu));exact HO_6.out)) Zd hg)).2.1)))
                         have n3_:=yc.mk (ho)
                         clear HO_9
                         clear HB
                         clear HR160
                         clear HO_6
                         clear HO164
                         have HO_9:=n0_
                         have HB:=n1_
                         have HR160:=n2_
                         have HO169:=n3_
                         clear n0_ n1_ n2_ n3_
                         clear ho hb hg hat
                         refine hK.out _ _ ?_
                         clear hK K
                         refine JV (a':=?_) ?_ ?_
                         rotate_left
                         · show Act.put _ (some 54) _=_
                           simp only [Act.put,List.setIfInBounds_toArray,List.set_cons_zero,List.set_cons_succ,Yq,Yu]
                           rfl
                         refine Js (i:=16) (N:=some 6) (v:=?_) (a':=?_) #[true,true,true,true,true,true,true,true,true,true,true,true,true,true,true,true,true] rfl rfl (Y0 HT_.out Zk) (fun _ _ _ h=>h) (Or.inl ⟨by rfl,?_⟩) ?_ ?_
                         rotate_left
                         · intro w'
                           go_simp
                           with_reducible rfl
                         rotate_left
                         · simp only [Act.put,List.setIfInBounds_toArray,List.set_cons_zero,List.set_cons_succ,Yq,Yu]
                           rfl
                         refine done_ (ybP HT_.out Zk) ?_
                         try go_wp2
                         go_roundg kj6
                         case measure=>have:=HK1.out;have:=HJ6.out;omega
                         case rel=>exact ⟨(y167),(wrap64 (x14_1+1)),(by first|rfl|(simp;done)|(simp [*];done)|(simp [yx];done)),H',⟨by have:=HK1.out;have:=HJ6.out;omega⟩,⟨by (with_reducible repeat (first|apply Kd.qO|apply Kd.qM|apply Kd.Qu));exact Kd.S_mono HO169.out (fun _ hk=>trivial)⟩,⟨by repeat (first|(with_reducible first|exact HB.out|apply ym|apply yn|apply yu)|exact HB.out)⟩⟩
                       · rw [if_neg c22] at H
                         exact absurd H (by simp)
                     · rw [if_neg c21] at H
                       exact absurd H (by simp)
                   · rw [if_neg c20] at H
                     exact absurd H (by simp)
                 · rw [if_neg c18] at H
                   exact absurd H (by simp)
               · replace c17:=Bool.eq_false_iff.mpr c17
                 subst c17
                 have H1:(some (([]:List (S56)),false))=some (r1,r2):=by rw [if_neg (show ¬ (false=true) by decide)] at H;exact H
                 clear H
                 have H:=H1
                 clear H1
                 simp only [Option.some.injEq,Prod.mk.injEq] at H
                 obtain ⟨rfl,rfl⟩:=H
                 obtain ⟨Ao30,co30,eo30⟩:=Kd.Y7 HO_9.out
                 subst eo30
                 have q29:(1:Int)≤((t152.length:Int):Int):=of_decide_eq_true (by first|(with_reducible assumption)|assumption)
                 obtain ⟨i029,hi029,_,hsz29,_⟩:=info_parts info9
                 have hroom29:t152.length≤co30:=(Kd.Jt HO_9.out).2.1
                 have hC29:Kd.C Kd.string _ Ao30 t152.length t152:=(Kd.Jt HO_9.out).2.2
                 have hcut29:=cut_from (P:=Tryz.prog) 44 9 .i64 Tryz.underlying44 hi029 1 hsz29 Ao30 t152.length co30 1 Zo q29
                 have hr29:=Kd.C_drop (m:=(1:Int).toNat) (c:=co30) hC29 Zo hroom29
                 obtain ⟨A29,hA29⟩:∃ A1,A1=(if co30=(1:Int).toNat then Ao30 else (Ao30:Option Addr).map (·.add ((1:Int).toNat * 1))):=⟨_,rfl⟩
                 obtain ⟨c29,hc29⟩:∃ c1,c1=co30 - (1:Int).toNat:=⟨_,rfl⟩
                 have hy29:y157.length=t152.length - (1:Int).toNat:=(by rw [Ny157.out,List.length_drop] <;> omega)
                 rw [show (t152).drop (1:Int).toNat=y157 from Ny157.out.symm] at hr29
                 replace hr29:Kd.C Kd.string _ A29 y157.length y157:=(by rw [hA29];exact hr29)
                 rw [← hy29,← hA29,← hc29] at hcut29
                 have HR160:=yc.mk hr29
                 have HC160:=yc.mk (show y157.length≤c29 from by rw [hy29,hc29];exact Nat.sub_le_sub_right hroom29 _)
                 clear hr29 hC29 hroom29 hi029 hsz29 hc29
                 have KY29:=yc.mk hy29
                 have KA29:=yc.mk hA29
                 clear hy29 hA29
                 have KL29:=yc.mk (show 1≤t152.length from by omega)
                 replace q29:=eq_true q29
                 go_wp2_with (first|((with_reducible refine Yz (f:=31) rfl ?_);refine Yp (some 34) rfl rfl Tryz.func31 Zk rfl #[.slice A29 y157.length c29] rfl (by (try simp only [List.map_toArray,List.map_cons,List.map_nil]);first|done|rfl|(simp only [List.length_drop,List.length_take];rfl)) ?_;(with_reducible refine (yQ.calls kj6 _ _ y157 t161 false _ ?side1 ?side2 A16.out).mono ?_);(case side1=>repeat (first|exact (by repeat (first|(with_reducible exact HR160.out)|(with_reducible refine Kd.Jo ?_ _)|(with_reducible refine Kd.Jp ?_ _)|(with_reducible refine Kd.JG ?_)|exact HR160.out))|(with_reducible refine Kd.Jo ?_ _)|(with_reducible refine Kd.Jp ?_ _)|(with_reducible refine Kd.JG ?_)));(case side2=>exact HC160.out);rintro e w31 ⟨v163,rfl,ho0,hb⟩;refine ⟨_,rfl,?_⟩;have n0_:=yc.mk (Kd.ydm (by (with_reducible repeat (first|apply Kd.qO|apply Kd.qM|apply Kd.Qu));exact HO_6.out) (Kd.ycb ho0) hb);have n1_:=yc.mk (Kd.qb (Zr HO_9.out) hb);have n2_:=yc.mk (Kd.JU ho0 (yt Zh));have n3_:=yc.mk (Kd.YS (by repeat (first|(with_reducible exact HR160.out)|(with_reducible refine Kd.Jo ?_ _)|(with_reducible refine Kd.Jp ?_ _)|(with_reducible refine Kd.JG ?_)|exact HR160.out)) hb);have n4_:=yc.mk (yy Zh hb);clear HO_6 HO_9 HR160 HB;have HO_6:=n0_;have HO_9:=n1_;have HO164:=n2_;have HR160:=n3_;have HB:=n4_;clear n0_ n1_ n2_ n3_ n4_;(try clear hb);(try clear hb2);(try clear hk);(try clear hi);(try clear ho0)))
                 go_ret2
                 exact ⟨_,by first|rfl|(simp [yP,yO] <;> rfl)|(simp [*,yP,yO] <;> rfl),by first|exact Kd.yaq _ _ _ _ _|exact Kd.yao _ _ _ _ _|exact Kd.Qm _ _ _ _ _|exact Kd.yas _ _ _ _ _|exact Kd.qf _ _ _ _ _,by repeat (first|(with_reducible first|exact HB.out|apply ym|apply yn|apply yu)|exact HB.out)⟩
             · rw [if_neg c15] at H
               exact absurd H (by simp)
       · rw [if_neg c5] at H
         exact absurd H (by simp)
     · rw [if_neg c4] at H
       exact absurd H (by simp)
   · rw [if_neg c3] at H
     have c3b0:decide (x14_1<(l0.length:Int))=false:=decide_eq_false c3
     clear c3
     simp only [Option.some.injEq,Prod.mk.injEq] at H
     obtain ⟨rfl,rfl⟩:=H
     go_wp2
     go_ret2
     exact ⟨_,by first|rfl|(simp [yP,yO] <;> rfl)|(simp [*,yP,yO] <;> rfl),by (with_reducible repeat (first|apply Kd.qO|apply Kd.qM|apply Kd.Qu)); exact HO_6.out,by repeat (first|(with_reducible first|exact HB.out|apply ym|apply yn|apply yu)|exact HB.out)⟩
end Go.Proofs.YtdcaggoicdfehaaGreatDoor
