/- Part 38 of 44 of the proof of the tied card of FnXfsRead. -/
import Derived.Test.YtdcaggoicdfehaaGreatDoorVz
import Derived.Test.YtdcaggoicdfehaaGreatDoorV4
set_option linter.unusedVariables false
set_option linter.unusedSimpArgs false
namespace Go.Proofs.YtdcaggoicdfehaaGreatDoor
open Go.RowKit Go.Proofs.YtdcaggoicdfehaaGreatDoorW.PrintWords Go.Proofs.YtdcaggoicdfehaaGreatDoorW.PrintLast Go.Proofs.YtdcaggoicdfehaaGreatDoorW.PrintMore
attribute [local go_sem] YX YV Ja Jb YK YL YW YU
def Yr.l0:Nat→ByteArray→List (S56)→Int→Int→Option (ByteArray × List Int × List ByteArray × Bool)
 | 0,_,_,_,_=>none
 | k+1,x1,x8,x9,x10=>if x10<x9 then (if 0≤x10 then (if x10<(x8.length:Int) then (if ((yo x8 x10).f0).toList=x1.toList then (some ((yo x8 x10).f0,(yo x8 x10).f1,(yo x8 x10).f2,true)) else (Yr.l0 k x1 x8 x9 (wrap64 (x10+1)))) else (none)) else (none)) else (some ((⟨#[]⟩:ByteArray),([]:List Int),([]:List ByteArray),false))
def Yr.f (k:Nat) (l0:List (S56)) (a1:ByteArray):Option (ByteArray × List Int × List ByteArray × Bool):=Yr.l0 k a1 l0 (l0.length:Int) 0
theorem Yr.YB:∀ k,(∀ y0 y1 y2 y3,LeO (Yr.l0 k y0 y1 y2 y3) (Yr.l0 (k+1) y0 y1 y2 y3))
 | 0=>fun _ _ _ _ r h=>by simp [Yr.l0] at h
 | k+1=>by
  have ih0:=Yr.YB k
  · intro y0 y1 y2 y3
    unfold Yr.l0
    repeat' first
    | (with_reducible exact ih0 _ _ _ _)
    | (with_reducible exact LeO.refl _)
    | (with_reducible exact LeO.none _)
    | (with_reducible refine LeO.ite ?_ ?_)
    | (with_reducible refine LeO.bind ?_ (fun _=>?_))
    | exact ih0 _ _ _ _
    | exact LeO.none _
    | refine LeO.ite ?_ ?_
    | refine LeO.bind ?_ (fun _=>?_)
theorem Yr.mono:∀ a0 a1 k,LeO (Yr.f k a0 a1) (Yr.f (k+1) a0 a1):=by
 intro a0 a1 k
 have ih0:=Yr.YB k
 unfold Yr.f
 repeat' first
  | (with_reducible exact ih0 _ _ _ _)
  | (with_reducible exact LeO.refl _)
  | (with_reducible exact LeO.none _)
  | (with_reducible refine LeO.ite ?_ ?_)
  | (with_reducible refine LeO.bind ?_ (fun _=>?_))
  | exact ih0 _ _ _ _
  | exact LeO.none _
  | refine LeO.ite ?_ ?_
  | refine LeO.bind ?_ (fun _=>?_)
set_option maxHeartbeats 8000000 in
set_option maxRecDepth 100000 in
theorem Yr.calls (k:Nat) (P0_:Nat→Prop) (A0:Option Addr) (c0:Nat) (l0:List (S56)) (a1:ByteArray) (r1:ByteArray) (r2:List Int) (r3:List ByteArray) (r4:Bool) (w:World) (hs0:Kd.V k56 56 w w.heap.size (fun k_=>P0_ k_) (.slice A0 l0.length c0) l0) (h:Yr.f k l0 a1=some (r1,r2,r3,r4)) :
 Calls Tryz.prog 18 #[.slice A0 l0.length c0,.string a1] w fun e w'=>∃ v1_ v2_:Value,e=.returned (.tuple #[.agg #[.string r1,v1_,v2_],.bool r4])∧Kd.V (Kd.int .u64) 30 w' w.heap.size (fun k_=>(P0_ k_∨w.heap.size≤k_)) v1_ r2∧Kd.V Kd.string 9 w' w.heap.size (fun k_=>(P0_ k_∨w.heap.size≤k_)) v2_ r3∧Below w.heap.size w w':=by
 have hu56:=Tryz.underlying56
 have HO0:=yc.mk (show Kd.V k56 56 w w.heap.size (fun k_=>(P0_ k_∨w.heap.size≤k_)) (.slice A0 l0.length c0) l0 from Kd.Yj hs0 (fun k_ hk=>.inl hk))
 have HB:=yc.mk (Below.refl w.heap.size w)
 have H:(Yr.l0 k a1 l0 (l0.length:Int) 0)=some (r1,r2,r3,r4):=h
 clear h
 have H':=yc.mk H
 clear H
 go_enter Tryz.func18,Tryz.ntmps18
 go_wp2_with (first|((with_reducible refine Y1 (N:=4) rfl ?_);refine YP ?hg (N:=4) ?hd (cs:=#[.string (⟨#[]⟩:ByteArray),.slice none 0 0,.slice none 0 0]) (t:=56) ?hr ?_;(case hd=>rfl);(case hg=>rfl);(case hr=>first|(go_simp;done)|(go_simp;rfl));intro gb342 hg w3 hbox hb;have n0_:=yc.mk (Kd.YO (Kd.Jj (Zv HO0.out) gb342 (Nat.le_of_eq hg.symm)) hb);have n1_:=yc.mk (yy Zh hb);have n2_:=yc.mk (hbox);have n3_:=yc.mk ((by rw [hg];exact (yt Zh):w.heap.size≤gb342));have n4_:=yc.mk ((by rw [hg];exact (yt Zh):w.heap.size≤gb342));clear HO0 HB;have HO0:=n0_;have HB:=n1_;have BK342:=n2_;have GW342:=n3_;have GE342:=n4_;clear n0_ n1_ n2_ n3_ n4_;clear hb hbox hg))
 go_loopg [10] k (fun kq v10 w'=>∃ (x10_1:Int) (x343000_1:ByteArray),v10=.int .i64 x10_1∧yc (Yr.l0 kq a1 l0 (l0.length:Int) x10_1=some (r1,r2,r3,r4))∧yc (kq≤k)∧yc (Kd.V k56 56 w' w.heap.size (fun k_=>(P0_ k_∨w.heap.size≤k_)∧k_≠gb342) (.slice A0 l0.length c0) l0)∧yc (w'.heap[gb342]?=some (.cells #[.string x343000_1,(.slice none 0 0),(.slice none 0 0)] 56 (0,0)))∧yc (Below w.heap.size w w'))
 case atStart=>exact ⟨(0),((⟨#[]⟩:ByteArray)),(by first|rfl|(simp;done)|(simp [*];done)|(simp [yx];done)),H',⟨Nat.le_refl _⟩,⟨by refine Zv ?_;exact HO0.out⟩,⟨by refine Zb ?_;exact BK342.out⟩,⟨by repeat (first|(with_reducible first|exact HB.out|apply ym|apply yn|apply yu|refine yw ?_ GE342.out)|exact HB.out)⟩⟩
 case round=>
  clear H'
  try clear c1
  try clear p2
  obtain ⟨x10_1,x343000_1,rfl,HA,HK1,HO_8,BK342,HB⟩:=hrel
  cases gk with
  | zero=>exact absurd HA.out (by simp [Yr.l0])
  | succ k1=>
   have H:=HA.out
   clear HA
   simp only [Yr.l0] at H
   by_cases c4:x10_1<(l0.length:Int)
   · rw [if_pos c4] at H
     have c4b0:decide (x10_1<(l0.length:Int))=true:=decide_eq_true c4
     clear c4
     by_cases c5:0≤x10_1
     · rw [if_pos c5] at H
       have c5b0:decide (0≤x10_1)=true:=decide_eq_true c5
       clear c5
       by_cases c6:x10_1<(l0.length:Int)
       · rw [if_pos c6] at H
         have c6b0:decide (x10_1<(l0.length:Int))=true:=decide_eq_true c6
         clear c6
         by_cases c7:((yo l0 x10_1).f0).toList=a1.toList
         · rw [if_pos c7] at H
           have c7b0:(((yo l0 x10_1).f0).toList == a1.toList)=true:=beq_iff_eq.mpr c7
           have c7b1:(((yo l0 x10_1).f0).toList != a1.toList)=false:=bne_eq_false_iff_eq.mpr c7
           clear c7
           simp only [Option.some.injEq,Prod.mk.injEq] at H
           obtain ⟨rfl,rfl,rfl,rfl⟩:=H
           have p343:0≤(x10_1:Int):=of_decide_eq_true (by first|(with_reducible assumption)|assumption)
           have q343:x10_1<(l0.length:Int):=of_decide_eq_true (by first|(with_reducible assumption)|assumption)
           obtain ⟨ad343,A343_1,c343_1,A343_2,c343_2,e343,hx343_0,hx343_1,hx343_2,hl343_1,hi343_1,hl343_2,hi343_2⟩:=yaZ (Kd.Jw HO_8.out).2.2 x10_1 p343 q343
           cases e343
           obtain ⟨ce343,hce343,hMe343,hcc343⟩:=Kd.V_get HO_8.out z56 x10_1 p343 (by first|exact q343|exact of_decide_eq_true (by first|(with_reducible assumption)|assumption)|(have e_:=(Kd.Jw HO_8.out).1;omega))
           obtain ⟨ua343_1,uc343_1,ua343_2,uc343_2,rfl,ul343_1,ge343_1,ul343_2,ge343_2⟩:=k56_openF hMe343
           have hv343_1:=hcc343 1 _ rfl
           rw [Jl _ _ 1 Zo] at hv343_1
           replace hv343_1:=Option.some.inj (hv343_1.symm.trans hx343_1)
           injection hv343_1 with hva_ hvn_ hvc_
           rw [hva_] at ge343_1
           rw [hvc_] at ul343_1
           have HL343_1:=yc.mk (show Kd.V (Kd.int .u64) 30 _ w.heap.size _ _ ((yo l0 x10_1).f1) from Kd.V_mk ul343_1 ge343_1)
           clear hva_ hvn_ hvc_ ge343_1 ul343_1
           have hv343_2:=hcc343 2 _ rfl
           rw [Jl _ _ 2 Zo] at hv343_2
           replace hv343_2:=Option.some.inj (hv343_2.symm.trans hx343_2)
           injection hv343_2 with hva_ hvn_ hvc_
           rw [hva_] at ge343_2
           rw [hvc_] at ul343_2
           have HL343_2:=yc.mk (show Kd.V Kd.string 9 _ w.heap.size _ _ ((yo l0 x10_1).f2) from Kd.V_mk ul343_2 ge343_2)
           clear hva_ hvn_ hvc_ ge343_2 ul343_2
           clear hcc343 hce343
           have HR343_1:=yc.mk hi343_1
           have HC343_1:=yc.mk hl343_1
           clear hi343_1 hl343_1
           have HR343_2:=yc.mk hi343_2
           have HC343_2:=yc.mk hl343_2
           clear hi343_2 hl343_2
           replace p343:=eq_true p343
           replace q343:=eq_true q343
           go_wp2_with (first|((with_reducible refine Y1 (N:=7) rfl ?_);refine YP ?hg (N:=7) ?hd (cs:=#[.string (⟨#[]⟩:ByteArray),.slice none 0 0,.slice none 0 0]) (t:=56) ?hr ?_;(case hd=>rfl);(case hg=>rfl);(case hr=>first|(go_simp;done)|(go_simp;rfl));intro gb344 hg w8 hbox hb;have n0_:=yc.mk (Kd.YO (Kd.Jj (Zv HO_8.out) gb344 (Nat.le_of_eq hg.symm)) hb);have n1_:=yc.mk (Kd.YO (Kd.Jj (Zv HL343_1.out) gb344 (Nat.le_of_eq hg.symm)) hb);have n2_:=yc.mk (Kd.YO (Kd.Jj (Zv HL343_2.out) gb344 (Nat.le_of_eq hg.symm)) hb);have n3_:=yc.mk (yE (g:=gb342) (o:=.cells #[.string x343000_1,.slice none 0 0,.slice none 0 0] 56 (0,0)) (Zb BK342.out) hb);have n4_:=yc.mk (Kd.YS (by repeat (first|(with_reducible exact HR343_1.out)|(with_reducible refine Kd.Jo ?_ _)|(with_reducible refine Kd.Jp ?_ _)|(with_reducible refine Kd.JG ?_)|exact HR343_1.out)) hb);have n5_:=yc.mk (Kd.YS (by repeat (first|(with_reducible exact HR343_2.out)|(with_reducible refine Kd.Jo ?_ _)|(with_reducible refine Kd.Jp ?_ _)|(with_reducible refine Kd.JG ?_)|exact HR343_2.out)) hb);have n6_:=yc.mk (yy (Zg GE342.out) hb);have n7_:=yc.mk (hbox);have n8_:=yc.mk ((by rw [hg];exact (yt (Zg GE342.out)):w.heap.size≤gb344));have n9_:=yc.mk ((by rw [hg];exact (yt (Zg GE342.out)):w.heap.size≤gb344));have n10_:=yc.mk ((by rw [hg];exact Nat.ne_of_lt (Yy (g:=gb342) (o:=.cells #[.string x343000_1,.slice none 0 0,.slice none 0 0] 56 (0,0)) (Zb BK342.out)):gb342≠gb344));have n11_:=yc.mk ((by rw [hg];exact Nat.ne_of_gt (Yy (g:=gb342) (o:=.cells #[.string x343000_1,.slice none 0 0,.slice none 0 0] 56 (0,0)) (Zb BK342.out)):gb344≠gb342));clear HO_8 HL343_1 HL343_2 BK342 HR343_1 HR343_2 HB;have HO_8:=n0_;have HL343_1:=n1_;have HL343_2:=n2_;have BK342:=n3_;have HR343_1:=n4_;have HR343_2:=n5_;have HB:=n6_;have BK344:=n7_;have GW344:=n8_;have GE344:=n9_;have NB342_344:=n10_;have NB344_342:=n11_;clear n0_ n1_ n2_ n3_ n4_ n5_ n6_ n7_ n8_ n9_ n10_ n11_;clear hb hbox hg;have hnb9:=NB344_342.out;have hnc9:=NB342_344.out;have hcz10_0:w8.cell? ⟨gb344,0,none⟩=some (.string (⟨#[]⟩:ByteArray)):=(ye BK344.out 0).trans rfl;have hcz10_1:w8.cell? ⟨gb344,1,none⟩=some (.slice none 0 0):=(ye BK344.out 1).trans rfl;have hcz10_2:w8.cell? ⟨gb344,2,none⟩=some (.slice none 0 0):=(ye BK344.out 2).trans rfl;have hfz10_0:=yg BK344.out 0;have hfz10_1:=yg BK344.out 1;have hfz10_2:=yg BK344.out 2;have hcz11_0:w8.cell? ⟨gb342,0,none⟩=some (.string x343000_1):=(ye BK342.out 0).trans rfl;have hcz11_1:w8.cell? ⟨gb342,1,none⟩=some (.slice none 0 0):=(ye BK342.out 1).trans rfl;have hcz11_2:w8.cell? ⟨gb342,2,none⟩=some (.slice none 0 0):=(ye BK342.out 2).trans rfl;have hfz11_0:=yg BK342.out 0;have hfz11_1:=yg BK342.out 1;have hfz11_2:=yg BK342.out 2))
           refine bodyPost_ret (qj rfl _ _ gb342 56 #[.string ((yo l0 x10_1).f0),.slice A343_1 ((yo l0 x10_1).f1).length c343_1,.slice A343_2 ((yo l0 x10_1).f2).length c343_2] (0,0) _ rfl (by refine Zb ?_;refine yA (cs:=#[.string ((yo l0 x10_1).f0),.slice A343_1 ((yo l0 x10_1).f1).length c343_1,.slice none 0 0]) ?_ 2 _ rfl;refine Zb ?_;refine yA (cs:=#[.string ((yo l0 x10_1).f0),.slice none 0 0,.slice none 0 0]) ?_ 1 _ rfl;refine Zb ?_;refine yA (cs:=#[.string x343000_1,.slice none 0 0,.slice none 0 0]) ?_ 0 _ rfl;refine Zb ?_;refine yI ?_ NB342_344.out _;refine Zb ?_;refine yI ?_ NB342_344.out _;refine Zb ?_;refine yI ?_ NB342_344.out _;refine Zb ?_;exact BK342.out) Tryz.underlying56 rfl Zk) rfl ?_
           exact ⟨_,_,by first|rfl|(simp [yP,yO] <;> rfl)|(simp [*,yP,yO] <;> rfl),by refine Zv ?_; exact Kd.Yj (Kd.Yk (p:=⟨gb342,2,none⟩) (Kd.Yk (p:=⟨gb342,1,none⟩) (Kd.Yk (p:=⟨gb342,0,none⟩) (Kd.Yk (p:=⟨gb344,2,none⟩) (Kd.Yk (p:=⟨gb344,1,none⟩) (Kd.Yk (p:=⟨gb344,0,none⟩) (Kd.Yj (Kd.Yj HL343_1.out (fun k_ hk=>(⟨hk,hk.2⟩:_∧k_≠gb344))) (fun k_ hk=>(⟨hk,hk.1.1.2⟩:_∧k_≠gb342))) (fun _ hk=>hk.1.2) (.string ((yo l0 x10_1).f0))) (fun _ hk=>hk.1.2) (.slice A343_1 ((yo l0 x10_1).f1).length c343_1)) (fun _ hk=>hk.1.2) (.slice A343_2 ((yo l0 x10_1).f2).length c343_2)) (fun _ hk=>hk.2) (.string ((yo l0 x10_1).f0))) (fun _ hk=>hk.2) (.slice A343_1 ((yo l0 x10_1).f1).length c343_1)) (fun _ hk=>hk.2) (.slice A343_2 ((yo l0 x10_1).f2).length c343_2)) (fun _ hk=>hk.1.1.1.1),by refine Zv ?_; exact Kd.Yj (Kd.Yk (p:=⟨gb342,2,none⟩) (Kd.Yk (p:=⟨gb342,1,none⟩) (Kd.Yk (p:=⟨gb342,0,none⟩) (Kd.Yk (p:=⟨gb344,2,none⟩) (Kd.Yk (p:=⟨gb344,1,none⟩) (Kd.Yk (p:=⟨gb344,0,none⟩) (Kd.Yj (Kd.Yj HL343_2.out (fun k_ hk=>(⟨hk,hk.2⟩:_∧k_≠gb344))) (fun k_ hk=>(⟨hk,hk.1.1.2⟩:_∧k_≠gb342))) (fun _ hk=>hk.1.2) (.string ((yo l0 x10_1).f0))) (fun _ hk=>hk.1.2) (.slice A343_1 ((yo l0 x10_1).f1).length c343_1)) (fun _ hk=>hk.1.2) (.slice A343_2 ((yo l0 x10_1).f2).length c343_2)) (fun _ hk=>hk.2) (.string ((yo l0 x10_1).f0))) (fun _ hk=>hk.2) (.slice A343_1 ((yo l0 x10_1).f1).length c343_1)) (fun _ hk=>hk.2) (.slice A343_2 ((yo l0 x10_1).f2).length c343_2)) (fun _ hk=>hk.1.1.1.1),by repeat (first|(with_reducible first|exact HB.out|apply ym|apply yn|apply yu|refine yw ?_ GE342.out|refine yw ?_ GE344.out)|exact HB.out)⟩
         · rw [if_neg c7] at H
           have c7b0:(((yo l0 x10_1).f0).toList == a1.toList)=false:=beq_eq_false_iff_ne.mpr c7
           have c7b1:(((yo l0 x10_1).f0).toList != a1.toList)=true:=bne_iff_ne.mpr c7
           have H':=yc.mk H
           clear H
           have p343:0≤(x10_1:Int):=of_decide_eq_true (by first|(with_reducible assumption)|assumption)
           have q343:x10_1<(l0.length:Int):=of_decide_eq_true (by first|(with_reducible assumption)|assumption)
           obtain ⟨ad343,A343_1,c343_1,A343_2,c343_2,e343,hx343_0,hx343_1,hx343_2,hl343_1,hi343_1,hl343_2,hi343_2⟩:=yaZ (Kd.Jw HO_8.out).2.2 x10_1 p343 q343
           cases e343
           obtain ⟨ce343,hce343,hMe343,hcc343⟩:=Kd.V_get HO_8.out z56 x10_1 p343 (by first|exact q343|exact of_decide_eq_true (by first|(with_reducible assumption)|assumption)|(have e_:=(Kd.Jw HO_8.out).1;omega))
           obtain ⟨ua343_1,uc343_1,ua343_2,uc343_2,rfl,ul343_1,ge343_1,ul343_2,ge343_2⟩:=k56_openF hMe343
           have hv343_1:=hcc343 1 _ rfl
           rw [Jl _ _ 1 Zo] at hv343_1
           replace hv343_1:=Option.some.inj (hv343_1.symm.trans hx343_1)
           injection hv343_1 with hva_ hvn_ hvc_
           rw [hva_] at ge343_1
           rw [hvc_] at ul343_1
           have HL343_1:=yc.mk (show Kd.V (Kd.int .u64) 30 _ w.heap.size _ _ ((yo l0 x10_1).f1) from Kd.V_mk ul343_1 ge343_1)
           clear hva_ hvn_ hvc_ ge343_1 ul343_1
           have hv343_2:=hcc343 2 _ rfl
           rw [Jl _ _ 2 Zo] at hv343_2
           replace hv343_2:=Option.some.inj (hv343_2.symm.trans hx343_2)
           injection hv343_2 with hva_ hvn_ hvc_
           rw [hva_] at ge343_2
           rw [hvc_] at ul343_2
           have HL343_2:=yc.mk (show Kd.V Kd.string 9 _ w.heap.size _ _ ((yo l0 x10_1).f2) from Kd.V_mk ul343_2 ge343_2)
           clear hva_ hvn_ hvc_ ge343_2 ul343_2
           clear hcc343 hce343
           have HR343_1:=yc.mk hi343_1
           have HC343_1:=yc.mk hl343_1
           clear hi343_1 hl343_1
           have HR343_2:=yc.mk hi343_2
           have HC343_2:=yc.mk hl343_2
           clear hi343_2 hl343_2
           replace p343:=eq_true p343
           replace q343:=eq_true q343
           go_wp2_with (first|((with_reducible refine Y1 (N:=7) rfl ?_);refine YP ?hg (N:=7) ?hd (cs:=#[.string (⟨#[]⟩:ByteArray),.slice none 0 0,.slice none 0 0]) (t:=56) ?hr ?_;(case hd=>rfl);(case hg=>rfl);(case hr=>first|(go_simp;done)|(go_simp;rfl));intro gb344 hg w12 hbox hb;have n0_:=yc.mk (Kd.YO (Kd.Jj (Zv HO_8.out) gb344 (Nat.le_of_eq hg.symm)) hb);have n1_:=yc.mk (Kd.YO (Kd.Jj (Zv HL343_1.out) gb344 (Nat.le_of_eq hg.symm)) hb);have n2_:=yc.mk (Kd.YO (Kd.Jj (Zv HL343_2.out) gb344 (Nat.le_of_eq hg.symm)) hb);have n3_:=yc.mk (yE (g:=gb342) (o:=.cells #[.string x343000_1,.slice none 0 0,.slice none 0 0] 56 (0,0)) (Zb BK342.out) hb);have n4_:=yc.mk (Kd.YS (by repeat (first|(with_reducible exact HR343_1.out)|(with_reducible refine Kd.Jo ?_ _)|(with_reducible refine Kd.Jp ?_ _)|(with_reducible refine Kd.JG ?_)|exact HR343_1.out)) hb);have n5_:=yc.mk (Kd.YS (by repeat (first|(with_reducible exact HR343_2.out)|(with_reducible refine Kd.Jo ?_ _)|(with_reducible refine Kd.Jp ?_ _)|(with_reducible refine Kd.JG ?_)|exact HR343_2.out)) hb);have n6_:=yc.mk (yy (Zg GE342.out) hb);have n7_:=yc.mk (hbox);have n8_:=yc.mk ((by rw [hg];exact (yt (Zg GE342.out)):w.heap.size≤gb344));have n9_:=yc.mk ((by rw [hg];exact (yt (Zg GE342.out)):w.heap.size≤gb344));have n10_:=yc.mk ((by rw [hg];exact Nat.ne_of_lt (Yy (g:=gb342) (o:=.cells #[.string x343000_1,.slice none 0 0,.slice none 0 0] 56 (0,0)) (Zb BK342.out)):gb342≠gb344));have n11_:=yc.mk ((by rw [hg];exact Nat.ne_of_gt (Yy (g:=gb342) (o:=.cells #[.string x343000_1,.slice none 0 0,.slice none 0 0] 56 (0,0)) (Zb BK342.out)):gb344≠gb342));clear HO_8 HL343_1 HL343_2 BK342 HR343_1 HR343_2 HB;have HO_8:=n0_;have HL343_1:=n1_;have HL343_2:=n2_;have BK342:=n3_;have HR343_1:=n4_;have HR343_2:=n5_;have HB:=n6_;have BK344:=n7_;have GW344:=n8_;have GE344:=n9_;have NB342_344:=n10_;have NB344_342:=n11_;clear n0_ n1_ n2_ n3_ n4_ n5_ n6_ n7_ n8_ n9_ n10_ n11_;clear hb hbox hg;have hnb13:=NB344_342.out;have hnc13:=NB342_344.out;have hcz14_0:w12.cell? ⟨gb344,0,none⟩=some (.string (⟨#[]⟩:ByteArray)):=(ye BK344.out 0).trans rfl;have hcz14_1:w12.cell? ⟨gb344,1,none⟩=some (.slice none 0 0):=(ye BK344.out 1).trans rfl;have hcz14_2:w12.cell? ⟨gb344,2,none⟩=some (.slice none 0 0):=(ye BK344.out 2).trans rfl;have hfz14_0:=yg BK344.out 0;have hfz14_1:=yg BK344.out 1;have hfz14_2:=yg BK344.out 2))
           go_roundg k1
           case measure=>have:=HK1.out;omega
           case rel=>exact ⟨(wrap64 (x10_1+1)),(x343000_1),(by first|rfl|(simp;done)|(simp [*];done)|(simp [yx];done)),H',⟨by have:=HK1.out;omega⟩,⟨by refine Zv ?_;exact Kd.Yj (Kd.Yk (p:=⟨gb344,2,none⟩) (Kd.Yk (p:=⟨gb344,1,none⟩) (Kd.Yk (p:=⟨gb344,0,none⟩) (Kd.Yj HO_8.out (fun k_ hk=>(⟨hk,hk.2⟩:_∧k_≠gb344))) (fun _ hk=>hk.2) (.string ((yo l0 x10_1).f0))) (fun _ hk=>hk.2) (.slice A343_1 ((yo l0 x10_1).f1).length c343_1)) (fun _ hk=>hk.2) (.slice A343_2 ((yo l0 x10_1).f2).length c343_2)) (fun _ hk=>⟨hk.1.1.1,hk.1.1.2⟩)⟩,⟨by refine Zb ?_;refine yI ?_ NB342_344.out _;refine Zb ?_;refine yI ?_ NB342_344.out _;refine Zb ?_;refine yI ?_ NB342_344.out _;refine Zb ?_;exact BK342.out⟩,⟨by repeat (first|(with_reducible first|exact HB.out|apply ym|apply yn|apply yu|refine yw ?_ GE342.out|refine yw ?_ GE344.out)|exact HB.out)⟩⟩
       · rw [if_neg c6] at H
         exact absurd H (by simp)
     · rw [if_neg c5] at H
       exact absurd H (by simp)
   · rw [if_neg c4] at H
     have c4b0:decide (x10_1<(l0.length:Int))=false:=decide_eq_false c4
     clear c4
     simp only [Option.some.injEq,Prod.mk.injEq] at H
     obtain ⟨rfl,rfl,rfl,rfl⟩:=H
     have hcz15_0:wr.cell? ⟨gb342,0,none⟩=some (.string x343000_1):=(ye BK342.out 0).trans rfl
     have hcz15_1:wr.cell? ⟨gb342,1,none⟩=some (.slice none 0 0):=(ye BK342.out 1).trans rfl
     have hcz15_2:wr.cell? ⟨gb342,2,none⟩=some (.slice none 0 0):=(ye BK342.out 2).trans rfl
     have hfz15_0:=yg BK342.out 0
     have hfz15_1:=yg BK342.out 1
     have hfz15_2:=yg BK342.out 2
     go_wp2
     refine bodyPost_ret (qj rfl _ _ gb342 56 #[.string (⟨#[]⟩:ByteArray),.slice none 0 0,.slice none 0 0] (0,0) _ rfl (by refine Zb ?_;refine yA (cs:=#[.string (⟨#[]⟩:ByteArray),.slice none 0 0,.slice none 0 0]) ?_ 2 _ rfl;refine Zb ?_;refine yA (cs:=#[.string (⟨#[]⟩:ByteArray),.slice none 0 0,.slice none 0 0]) ?_ 1 _ rfl;refine Zb ?_;refine yA (cs:=#[.string x343000_1,.slice none 0 0,.slice none 0 0]) ?_ 0 _ rfl;refine Zb ?_;exact BK342.out) Tryz.underlying56 rfl Zk) rfl ?_
     exact ⟨_,_,by first|rfl|(simp [yP,yO] <;> rfl)|(simp [*,yP,yO] <;> rfl),Kd.Qm _ _ _ _ _,Kd.Qm _ _ _ _ _,by repeat (first|(with_reducible first|exact HB.out|apply ym|apply yn|apply yu|refine yw ?_ GE342.out)|exact HB.out)⟩
end Go.Proofs.YtdcaggoicdfehaaGreatDoor
namespace Go.Proofs.YtdcaggoicdfehaaGreatDoor
open Go.RowKit Go.Proofs.YtdcaggoicdfehaaGreatDoorW.PrintWords Go.Proofs.YtdcaggoicdfehaaGreatDoorW.PrintLast Go.Proofs.YtdcaggoicdfehaaGreatDoorW.PrintMore
attribute [local go_sem] YX YV Ja Jb YK YL YW YU
def JY.f (a0:ByteArray) (l1:List (S38)):Option (ByteArray × Int × Bool × Int × Int × Nat × ByteArray × (List (S38))):=some (a0,8,false,0,0,0,(⟨#[]⟩:ByteArray),l1)
set_option maxHeartbeats 8000000 in
set_option maxRecDepth 100000 in
theorem JY.calls (a0:ByteArray) (P1_:Nat→Prop) (A1:Option Addr) (c1:Nat) (l1:List (S38)) (r1:ByteArray) (r2:Int) (r3:Bool) (r4:Int) (r5:Int) (r6:Nat) (r7:ByteArray) (r8:List (S38)) (w:World) (hs1:Kd.V k38 38 w w.heap.size (fun k_=>P1_ k_) (.slice A1 l1.length c1) l1) (h:JY.f a0 l1=some (r1,r2,r3,r4,r5,r6,r7,r8)) :
 Calls Tryz.prog 20 #[.string a0,.slice A1 l1.length c1] w fun e w'=>∃ v7_:Value,e=.returned (.agg #[.string r1,.int .i64 r2,.bool r3,.int .i64 r4,.int .u64 r5,.float .f64 r6,.string r7,v7_])∧Kd.V k38 38 w' w.heap.size (fun k_=>(P1_ k_∨w.heap.size≤k_)) v7_ r8∧Below w.heap.size w w':=by
 have hu38:=Tryz.underlying38
 have HO1:=yc.mk (show Kd.V k38 38 w w.heap.size (fun k_=>(P1_ k_∨w.heap.size≤k_)) (.slice A1 l1.length c1) l1 from Kd.Yj hs1 (fun k_ hk=>.inl hk))
 have HB:=yc.mk (Below.refl w.heap.size w)
 have H:(some (a0,8,false,0,0,0,(⟨#[]⟩:ByteArray),l1))=some (r1,r2,r3,r4,r5,r6,r7,r8):=h
 clear h
 simp only [Option.some.injEq,Prod.mk.injEq] at H
 obtain ⟨rfl,rfl,rfl,rfl,rfl,rfl,rfl,rfl⟩:=H
 go_enter Tryz.func20,Tryz.ntmps20
 go_wp2_with (first|((with_reducible refine Y1 (N:=4) rfl ?_);refine YP ?hg (N:=4) ?hd (cs:=#[.string (⟨#[]⟩:ByteArray),.int .i64 0,.bool false,.int .i64 0,.int .u64 0,.float .f64 0,.string (⟨#[]⟩:ByteArray),.slice none 0 0]) (t:=38) ?hr ?_;(case hd=>rfl);(case hg=>rfl);(case hr=>first|(go_simp;done)|(go_simp;rfl));intro gb345 hg w3 hbox hb;have n0_:=yc.mk (Kd.YO (Kd.Jj (Zv HO1.out) gb345 (Nat.le_of_eq hg.symm)) hb);have n1_:=yc.mk (yy Zh hb);have n2_:=yc.mk (hbox);have n3_:=yc.mk ((by rw [hg];exact (yt Zh):w.heap.size≤gb345));have n4_:=yc.mk ((by rw [hg];exact (yt Zh):w.heap.size≤gb345));clear HO1 HB;have HO1:=n0_;have HB:=n1_;have BK345:=n2_;have GW345:=n3_;have GE345:=n4_;clear n0_ n1_ n2_ n3_ n4_;clear hb hbox hg;have hcz4_0:w3.cell? ⟨gb345,0,none⟩=some (.string (⟨#[]⟩:ByteArray)):=(ye BK345.out 0).trans rfl;have hcz4_1:w3.cell? ⟨gb345,1,none⟩=some (.int .i64 0):=(ye BK345.out 1).trans rfl;have hcz4_2:w3.cell? ⟨gb345,2,none⟩=some (.bool false):=(ye BK345.out 2).trans rfl;have hcz4_3:w3.cell? ⟨gb345,3,none⟩=some (.int .i64 0):=(ye BK345.out 3).trans rfl;have hcz4_4:w3.cell? ⟨gb345,4,none⟩=some (.int .u64 0):=(ye BK345.out 4).trans rfl;have hcz4_5:w3.cell? ⟨gb345,5,none⟩=some (.float .f64 0):=(ye BK345.out 5).trans rfl;have hcz4_6:w3.cell? ⟨gb345,6,none⟩=some (.string (⟨#[]⟩:ByteArray)):=(ye BK345.out 6).trans rfl;have hcz4_7:w3.cell? ⟨gb345,7,none⟩=some (.slice none 0 0):=(ye BK345.out 7).trans rfl;have hfz4_0:=yg BK345.out 0;have hfz4_1:=yg BK345.out 1;have hfz4_2:=yg BK345.out 2;have hfz4_3:=yg BK345.out 3;have hfz4_4:=yg BK345.out 4;have hfz4_5:=yg BK345.out 5;have hfz4_6:=yg BK345.out 6;have hfz4_7:=yg BK345.out 7))
 refine bodyPost_ret (results_cell_row rfl _ _ gb345 38 #[.string a0,.int .i64 8,.bool false,.int .i64 0,.int .u64 0,.float .f64 0,.string (⟨#[]⟩:ByteArray),.slice A1 l1.length c1] (0,0) _ rfl (by refine Zb ?_;refine yA (cs:=#[.string a0,.int .i64 8,.bool false,.int .i64 0,.int .u64 0,.float .f64 0,.string (⟨#[]⟩:ByteArray),.slice none 0 0]) ?_ 7 _ rfl;refine Zb ?_;refine yA (cs:=#[.string a0,.int .i64 8,.bool false,.int .i64 0,.int .u64 0,.float .f64 0,.string (⟨#[]⟩:ByteArray),.slice none 0 0]) ?_ 6 _ rfl;refine Zb ?_;refine yA (cs:=#[.string a0,.int .i64 8,.bool false,.int .i64 0,.int .u64 0,.float .f64 0,.string (⟨#[]⟩:ByteArray),.slice none 0 0]) ?_ 5 _ rfl;refine Zb ?_;refine yA (cs:=#[.string a0,.int .i64 8,.bool false,.int .i64 0,.int .u64 0,.float .f64 0,.string (⟨#[]⟩:ByteArray),.slice none 0 0]) ?_ 4 _ rfl;refine Zb ?_;refine yA (cs:=#[.string a0,.int .i64 8,.bool false,.int .i64 0,.int .u64 0,.float .f64 0,.string (⟨#[]⟩:ByteArray),.slice none 0 0]) ?_ 3 _ rfl;refine Zb ?_;refine yA (cs:=#[.string a0,.int .i64 8,.bool false,.int .i64 0,.int .u64 0,.float .f64 0,.string (⟨#[]⟩:ByteArray),.slice none 0 0]) ?_ 2 _ rfl;refine Zb ?_;refine yA (cs:=#[.string a0,.int .i64 0,.bool false,.int .i64 0,.int .u64 0,.float .f64 0,.string (⟨#[]⟩:ByteArray),.slice none 0 0]) ?_ 1 _ rfl;refine Zb ?_;refine yA (cs:=#[.string (⟨#[]⟩:ByteArray),.int .i64 0,.bool false,.int .i64 0,.int .u64 0,.float .f64 0,.string (⟨#[]⟩:ByteArray),.slice none 0 0]) ?_ 0 _ rfl;refine Zb ?_;exact BK345.out) Tryz.underlying38 rfl Zk) rfl ?_
 exact ⟨_,by first|rfl|(simp [yP,yO] <;> rfl)|(simp [*,yP,yO] <;> rfl),by refine Zv ?_; exact Kd.Yj (Kd.Yk (p:=⟨gb345,7,none⟩) (Kd.Yk (p:=⟨gb345,6,none⟩) (Kd.Yk (p:=⟨gb345,5,none⟩) (Kd.Yk (p:=⟨gb345,4,none⟩) (Kd.Yk (p:=⟨gb345,3,none⟩) (Kd.Yk (p:=⟨gb345,2,none⟩) (Kd.Yk (p:=⟨gb345,1,none⟩) (Kd.Yk (p:=⟨gb345,0,none⟩) (Kd.Yj HO1.out (fun k_ hk=>(⟨hk,hk.2⟩:_∧k_≠gb345))) (fun _ hk=>hk.2) (.string a0)) (fun _ hk=>hk.2) (.int .i64 8)) (fun _ hk=>hk.2) (.bool false)) (fun _ hk=>hk.2) (.int .i64 0)) (fun _ hk=>hk.2) (.int .u64 0)) (fun _ hk=>hk.2) (.float .f64 0)) (fun _ hk=>hk.2) (.string (⟨#[]⟩:ByteArray))) (fun _ hk=>hk.2) (.slice A1 l1.length c1)) (fun _ hk=>hk.1.1),by repeat (first|(with_reducible first|exact HB.out|apply ym|apply yn|apply yu|refine yw ?_ GE345.out)|exact HB.out)⟩
end Go.Proofs.YtdcaggoicdfehaaGreatDoor
namespace Go.Proofs.YtdcaggoicdfehaaGreatDoor
open Go.RowKit Go.Proofs.YtdcaggoicdfehaaGreatDoorW.PrintWords Go.Proofs.YtdcaggoicdfehaaGreatDoorW.PrintLast Go.Proofs.YtdcaggoicdfehaaGreatDoorW.PrintMore
attribute [local go_sem] YX YV Ja Jb YK YL YW YU
def qy.f (a0:ByteArray) (a1:Int):Option (ByteArray × Int × Bool × Int × Int × Nat × ByteArray × (List (S38))):=some (a0,3,false,0,a1,0,(⟨#[]⟩:ByteArray),([]:List (S38)))
set_option maxHeartbeats 8000000 in
set_option maxRecDepth 100000 in
theorem qy.calls (a0:ByteArray) (a1:Int) (r1:ByteArray) (r2:Int) (r3:Bool) (r4:Int) (r5:Int) (r6:Nat) (r7:ByteArray) (r8:List (S38)) (w:World) (h:qy.f a0 a1=some (r1,r2,r3,r4,r5,r6,r7,r8)) :
 Calls Tryz.prog 41 #[.string a0,.int .u64 a1] w fun e w'=>∃ v7_:Value,e=.returned (.agg #[.string r1,.int .i64 r2,.bool r3,.int .i64 r4,.int .u64 r5,.float .f64 r6,.string r7,v7_])∧Kd.R k38 38 w' w.heap.size (fun _=>True) v7_ r8∧Below w.heap.size w w':=by
 have hu38:=Tryz.underlying38
 have HB:=yc.mk (Below.refl w.heap.size w)
 have H:(some (a0,3,false,0,a1,0,(⟨#[]⟩:ByteArray),([]:List (S38))))=some (r1,r2,r3,r4,r5,r6,r7,r8):=h
 clear h
 simp only [Option.some.injEq,Prod.mk.injEq] at H
 obtain ⟨rfl,rfl,rfl,rfl,rfl,rfl,rfl,rfl⟩:=H
 go_enter Tryz.func41,Tryz.ntmps41
 go_wp2_with (first|((with_reducible refine Y1 (N:=4) rfl ?_);refine YP ?hg (N:=4) ?hd (cs:=#[.string (⟨#[]⟩:ByteArray),.int .i64 0,.bool false,.int .i64 0,.int .u64 0,.float .f64 0,.string (⟨#[]⟩:ByteArray),.slice none 0 0]) (t:=38) ?hr ?_;(case hd=>rfl);(case hg=>rfl);(case hr=>first|(go_simp;done)|(go_simp;rfl));intro gb346 hg w3 hbox hb;have n0_:=yc.mk (yy Zh hb);have n1_:=yc.mk (hbox);have n2_:=yc.mk ((by rw [hg];exact (yt Zh):w.heap.size≤gb346));have n3_:=yc.mk ((by rw [hg];exact (yt Zh):w.heap.size≤gb346));clear HB;have HB:=n0_;have BK346:=n1_;have GW346:=n2_;have GE346:=n3_;clear n0_ n1_ n2_ n3_;clear hb hbox hg;have hcz4_0:w3.cell? ⟨gb346,0,none⟩=some (.string (⟨#[]⟩:ByteArray)):=(ye BK346.out 0).trans rfl;have hcz4_1:w3.cell? ⟨gb346,1,none⟩=some (.int .i64 0):=(ye BK346.out 1).trans rfl;have hcz4_2:w3.cell? ⟨gb346,2,none⟩=some (.bool false):=(ye BK346.out 2).trans rfl;have hcz4_3:w3.cell? ⟨gb346,3,none⟩=some (.int .i64 0):=(ye BK346.out 3).trans rfl;have hcz4_4:w3.cell? ⟨gb346,4,none⟩=some (.int .u64 0):=(ye BK346.out 4).trans rfl;have hcz4_5:w3.cell? ⟨gb346,5,none⟩=some (.float .f64 0):=(ye BK346.out 5).trans rfl;have hcz4_6:w3.cell? ⟨gb346,6,none⟩=some (.string (⟨#[]⟩:ByteArray)):=(ye BK346.out 6).trans rfl;have hcz4_7:w3.cell? ⟨gb346,7,none⟩=some (.slice none 0 0):=(ye BK346.out 7).trans rfl;have hfz4_0:=yg BK346.out 0;have hfz4_1:=yg BK346.out 1;have hfz4_2:=yg BK346.out 2;have hfz4_3:=yg BK346.out 3;have hfz4_4:=yg BK346.out 4;have hfz4_5:=yg BK346.out 5;have hfz4_6:=yg BK346.out 6;have hfz4_7:=yg BK346.out 7))
 refine bodyPost_ret (results_cell_row rfl _ _ gb346 38 #[.string a0,.int .i64 3,.bool false,.int .i64 0,.int .u64 a1,.float .f64 0,.string (⟨#[]⟩:ByteArray),.slice none 0 0] (0,0) _ rfl (by refine Zb ?_;refine yA (cs:=#[.string a0,.int .i64 3,.bool false,.int .i64 0,.int .u64 a1,.float .f64 0,.string (⟨#[]⟩:ByteArray),.slice none 0 0]) ?_ 7 _ rfl;refine Zb ?_;refine yA (cs:=#[.string a0,.int .i64 3,.bool false,.int .i64 0,.int .u64 a1,.float .f64 0,.string (⟨#[]⟩:ByteArray),.slice none 0 0]) ?_ 6 _ rfl;refine Zb ?_;refine yA (cs:=#[.string a0,.int .i64 3,.bool false,.int .i64 0,.int .u64 a1,.float .f64 0,.string (⟨#[]⟩:ByteArray),.slice none 0 0]) ?_ 5 _ rfl;refine Zb ?_;refine yA (cs:=#[.string a0,.int .i64 3,.bool false,.int .i64 0,.int .u64 0,.float .f64 0,.string (⟨#[]⟩:ByteArray),.slice none 0 0]) ?_ 4 _ rfl;refine Zb ?_;refine yA (cs:=#[.string a0,.int .i64 3,.bool false,.int .i64 0,.int .u64 0,.float .f64 0,.string (⟨#[]⟩:ByteArray),.slice none 0 0]) ?_ 3 _ rfl;refine Zb ?_;refine yA (cs:=#[.string a0,.int .i64 3,.bool false,.int .i64 0,.int .u64 0,.float .f64 0,.string (⟨#[]⟩:ByteArray),.slice none 0 0]) ?_ 2 _ rfl;refine Zb ?_;refine yA (cs:=#[.string a0,.int .i64 0,.bool false,.int .i64 0,.int .u64 0,.float .f64 0,.string (⟨#[]⟩:ByteArray),.slice none 0 0]) ?_ 1 _ rfl;refine Zb ?_;refine yA (cs:=#[.string (⟨#[]⟩:ByteArray),.int .i64 0,.bool false,.int .i64 0,.int .u64 0,.float .f64 0,.string (⟨#[]⟩:ByteArray),.slice none 0 0]) ?_ 0 _ rfl;refine Zb ?_;exact BK346.out) Tryz.underlying38 rfl Zk) rfl ?_
 exact ⟨_,by first|rfl|(simp [yP,yO] <;> rfl)|(simp [*,yP,yO] <;> rfl),by first|exact Kd.qf _ _ _ _ _|exact Kd.yao _ _ _ _ _|exact Kd.Qm _ _ _ _ _|exact Kd.yas _ _ _ _ _|exact Kd.yaq _ _ _ _ _,by repeat (first|(with_reducible first|exact HB.out|apply ym|apply yn|apply yu|refine yw ?_ GE346.out)|exact HB.out)⟩
end Go.Proofs.YtdcaggoicdfehaaGreatDoor
