/- Part 26 of 44 of the proof of the tied card of FnXfsRead. -/
import Derived.Test.YtdcaggoicdfehaaGreatDoorVz
import Derived.Test.YtdcaggoicdfehaaGreatDoorV4
set_option linter.unusedVariables false
set_option linter.unusedSimpArgs false
namespace Go.Proofs.YtdcaggoicdfehaaGreatDoor
open Go.RowKit Go.Proofs.YtdcaggoicdfehaaGreatDoorW.PrintWords Go.Proofs.YtdcaggoicdfehaaGreatDoorW.PrintLast Go.Proofs.YtdcaggoicdfehaaGreatDoorW.PrintMore
attribute [local go_sem] YX YV Ja Jb YK YL YW YU
def Ya.l0:Nat→ByteArray→List (S53)→Int→Int→Option (ByteArray × ByteArray × List ByteArray × Bool)
 | 0,_,_,_,_=>none
 | k+1,x1,x8,x9,x10=>if x10<x9 then (if 0≤x10 then (if x10<(x8.length:Int) then (if ((yU x8 x10).f0).toList=x1.toList then (some ((yU x8 x10).f0,(yU x8 x10).f1,(yU x8 x10).f2,true)) else (Ya.l0 k x1 x8 x9 (wrap64 (x10+1)))) else (none)) else (none)) else (some ((⟨#[]⟩:ByteArray),(⟨#[]⟩:ByteArray),([]:List ByteArray),false))
def Ya.f (k:Nat) (l0:List (S53)) (a1:ByteArray):Option (ByteArray × ByteArray × List ByteArray × Bool):=Ya.l0 k a1 l0 (l0.length:Int) 0
theorem Ya.YB:∀ k,(∀ y0 y1 y2 y3,LeO (Ya.l0 k y0 y1 y2 y3) (Ya.l0 (k+1) y0 y1 y2 y3))
 | 0=>fun _ _ _ _ r h=>by simp [Ya.l0] at h
 | k+1=>by
  have ih0:=Ya.YB k
  · intro y0 y1 y2 y3
    unfold Ya.l0
    repeat' first
    | (with_reducible exact ih0 _ _ _ _)
    | (with_reducible exact LeO.refl _)
    | (with_reducible exact LeO.none _)
    | (with_reducible refine LeO.ite ?_ ?_)
    | (with_reducible refine LeO.bind ?_ (fun _=>?_))
    | exact ih0 _ _ _ _
    | exact LeO.none _
    | refine LeO.ite ?_ ?_
    | refine LeO.bind ?_ (fun _=>?_)
theorem Ya.mono:∀ a0 a1 k,LeO (Ya.f k a0 a1) (Ya.f (k+1) a0 a1):=by
 intro a0 a1 k
 have ih0:=Ya.YB k
 unfold Ya.f
 repeat' first
  | (with_reducible exact ih0 _ _ _ _)
  | (with_reducible exact LeO.refl _)
  | (with_reducible exact LeO.none _)
  | (with_reducible refine LeO.ite ?_ ?_)
  | (with_reducible refine LeO.bind ?_ (fun _=>?_))
  | exact ih0 _ _ _ _
  | exact LeO.none _
  | refine LeO.ite ?_ ?_
  | refine LeO.bind ?_ (fun _=>?_)
set_option maxHeartbeats 8000000 in
set_option maxRecDepth 100000 in
theorem Ya.calls (k:Nat) (P0_:Nat→Prop) (A0:Option Addr) (c0:Nat) (l0:List (S53)) (a1:ByteArray) (r1:ByteArray) (r2:ByteArray) (r3:List ByteArray) (r4:Bool) (w:World) (hs0:Kd.V k53 53 w w.heap.size (fun k_=>P0_ k_) (.slice A0 l0.length c0) l0) (h:Ya.f k l0 a1=some (r1,r2,r3,r4)) :
 Calls Tryz.prog 36 #[.slice A0 l0.length c0,.string a1] w fun e w'=>∃ v2_:Value,e=.returned (.tuple #[.agg #[.string r1,.string r2,v2_],.bool r4])∧Kd.V Kd.string 9 w' w.heap.size (fun k_=>(P0_ k_∨w.heap.size≤k_)) v2_ r3∧Below w.heap.size w w':=by
 have hu53:=Tryz.underlying53
 have HO0:=yc.mk (show Kd.V k53 53 w w.heap.size (fun k_=>(P0_ k_∨w.heap.size≤k_)) (.slice A0 l0.length c0) l0 from Kd.Yj hs0 (fun k_ hk=>.inl hk))
 have HB:=yc.mk (Below.refl w.heap.size w)
 have H:(Ya.l0 k a1 l0 (l0.length:Int) 0)=some (r1,r2,r3,r4):=h
 clear h
 have H':=yc.mk H
 clear H
 go_enter Tryz.func36,Tryz.ntmps36
 go_wp2_with (first|((with_reducible refine Y1 (N:=4) rfl ?_);refine YP ?hg (N:=4) ?hd (cs:=#[.string (⟨#[]⟩:ByteArray),.string (⟨#[]⟩:ByteArray),.slice none 0 0]) (t:=53) ?hr ?_;(case hd=>rfl);(case hg=>rfl);(case hr=>first|(go_simp;done)|(go_simp;rfl));intro gb302 hg w3 hbox hb;have n0_:=yc.mk (Kd.YO (Kd.Jj (Zv HO0.out) gb302 (Nat.le_of_eq hg.symm)) hb);have n1_:=yc.mk (yy Zh hb);have n2_:=yc.mk (hbox);have n3_:=yc.mk ((by rw [hg];exact (yt Zh):w.heap.size≤gb302));have n4_:=yc.mk ((by rw [hg];exact (yt Zh):w.heap.size≤gb302));clear HO0 HB;have HO0:=n0_;have HB:=n1_;have BK302:=n2_;have GW302:=n3_;have GE302:=n4_;clear n0_ n1_ n2_ n3_ n4_;clear hb hbox hg))
 go_loopg [10] k (fun kq v10 w'=>∃ (x10_1:Int) (x303000_1:ByteArray) (x303001_1:ByteArray),v10=.int .i64 x10_1∧yc (Ya.l0 kq a1 l0 (l0.length:Int) x10_1=some (r1,r2,r3,r4))∧yc (kq≤k)∧yc (Kd.V k53 53 w' w.heap.size (fun k_=>(P0_ k_∨w.heap.size≤k_)∧k_≠gb302) (.slice A0 l0.length c0) l0)∧yc (w'.heap[gb302]?=some (.cells #[.string x303000_1,.string x303001_1,(.slice none 0 0)] 53 (0,0)))∧yc (Below w.heap.size w w'))
 case atStart=>exact ⟨(0),((⟨#[]⟩:ByteArray)),((⟨#[]⟩:ByteArray)),(by first|rfl|(simp;done)|(simp [*];done)|(simp [yx];done)),H',⟨Nat.le_refl _⟩,⟨by refine Zv ?_;exact HO0.out⟩,⟨by refine Zb ?_;exact BK302.out⟩,⟨by repeat (first|(with_reducible first|exact HB.out|apply ym|apply yn|apply yu|refine yw ?_ GE302.out)|exact HB.out)⟩⟩
 case round=>
  clear H'
  try clear p2
  try clear c3
  obtain ⟨x10_1,x303000_1,x303001_1,rfl,HA,HK1,HO_8,BK302,HB⟩:=hrel
  cases gk with
  | zero=>exact absurd HA.out (by simp [Ya.l0])
  | succ k1=>
   have H:=HA.out
   clear HA
   simp only [Ya.l0] at H
   by_cases c4:x10_1<(l0.length:Int)
   · rw [if_pos c4] at H
     have c4b0:decide (x10_1<(l0.length:Int))=true:=decide_eq_true c4
     clear c4
     by_cases c5:0≤x10_1
     · rw [if_pos c5] at H
       have c5b0:decide (0≤x10_1)=true:=decide_eq_true c5
       clear c5
       by_cases c6:x10_1<(l0.length:Int)
       · rw [if_pos c6] at H
         have c6b0:decide (x10_1<(l0.length:Int))=true:=decide_eq_true c6
         clear c6
         by_cases c7:((yU l0 x10_1).f0).toList=a1.toList
         · rw [if_pos c7] at H
           have c7b0:(((yU l0 x10_1).f0).toList == a1.toList)=true:=beq_iff_eq.mpr c7
           have c7b1:(((yU l0 x10_1).f0).toList != a1.toList)=false:=bne_eq_false_iff_eq.mpr c7
           clear c7
           simp only [Option.some.injEq,Prod.mk.injEq] at H
           obtain ⟨rfl,rfl,rfl,rfl⟩:=H
           have p303:0≤(x10_1:Int):=of_decide_eq_true (by first|(with_reducible assumption)|assumption)
           have q303:x10_1<(l0.length:Int):=of_decide_eq_true (by first|(with_reducible assumption)|assumption)
           obtain ⟨ad303,A303_2,c303_2,e303,hx303_0,hx303_1,hx303_2,hl303_2,hi303_2⟩:=at_T53 (Kd.Jw HO_8.out).2.2 x10_1 p303 q303
           cases e303
           obtain ⟨ce303,hce303,hMe303,hcc303⟩:=Kd.V_get HO_8.out z53 x10_1 p303 (by first|exact q303|exact of_decide_eq_true (by first|(with_reducible assumption)|assumption)|(have e_:=(Kd.Jw HO_8.out).1;omega))
           obtain ⟨ua303_2,uc303_2,rfl,ul303_2,ge303_2⟩:=yci hMe303
           have hv303_2:=hcc303 2 _ rfl
           rw [Jl _ _ 2 Zo] at hv303_2
           replace hv303_2:=Option.some.inj (hv303_2.symm.trans hx303_2)
           injection hv303_2 with hva_ hvn_ hvc_
           rw [hva_] at ge303_2
           rw [hvc_] at ul303_2
           have HL303_2:=yc.mk (show Kd.V Kd.string 9 _ w.heap.size _ _ ((yU l0 x10_1).f2) from Kd.V_mk ul303_2 ge303_2)
           clear hva_ hvn_ hvc_ ge303_2 ul303_2
           clear hcc303 hce303
           have HR303_2:=yc.mk hi303_2
           have HC303_2:=yc.mk hl303_2
           clear hi303_2 hl303_2
           replace p303:=eq_true p303
           replace q303:=eq_true q303
           go_wp2_with (first|((with_reducible refine Y1 (N:=7) rfl ?_);refine YP ?hg (N:=7) ?hd (cs:=#[.string (⟨#[]⟩:ByteArray),.string (⟨#[]⟩:ByteArray),.slice none 0 0]) (t:=53) ?hr ?_;(case hd=>rfl);(case hg=>rfl);(case hr=>first|(go_simp;done)|(go_simp;rfl));intro gb304 hg w8 hbox hb;have n0_:=yc.mk (Kd.YO (Kd.Jj (Zv HO_8.out) gb304 (Nat.le_of_eq hg.symm)) hb);have n1_:=yc.mk (Kd.YO (Kd.Jj (Zv HL303_2.out) gb304 (Nat.le_of_eq hg.symm)) hb);have n2_:=yc.mk (yE (g:=gb302) (o:=.cells #[.string x303000_1,.string x303001_1,.slice none 0 0] 53 (0,0)) (Zb BK302.out) hb);have n3_:=yc.mk (Kd.YS (by repeat (first|(with_reducible exact HR303_2.out)|(with_reducible refine Kd.Jo ?_ _)|(with_reducible refine Kd.Jp ?_ _)|(with_reducible refine Kd.JG ?_)|exact HR303_2.out)) hb);have n4_:=yc.mk (yy (Zg GE302.out) hb);have n5_:=yc.mk (hbox);have n6_:=yc.mk ((by rw [hg];exact (yt (Zg GE302.out)):w.heap.size≤gb304));have n7_:=yc.mk ((by rw [hg];exact (yt (Zg GE302.out)):w.heap.size≤gb304));have n8_:=yc.mk ((by rw [hg];exact Nat.ne_of_lt (Yy (g:=gb302) (o:=.cells #[.string x303000_1,.string x303001_1,.slice none 0 0] 53 (0,0)) (Zb BK302.out)):gb302≠gb304));have n9_:=yc.mk ((by rw [hg];exact Nat.ne_of_gt (Yy (g:=gb302) (o:=.cells #[.string x303000_1,.string x303001_1,.slice none 0 0] 53 (0,0)) (Zb BK302.out)):gb304≠gb302));clear HO_8 HL303_2 BK302 HR303_2 HB;have HO_8:=n0_;have HL303_2:=n1_;have BK302:=n2_;have HR303_2:=n3_;have HB:=n4_;have BK304:=n5_;have GW304:=n6_;have GE304:=n7_;have NB302_304:=n8_;have NB304_302:=n9_;clear n0_ n1_ n2_ n3_ n4_ n5_ n6_ n7_ n8_ n9_;clear hb hbox hg;have hnb9:=NB304_302.out;have hnc9:=NB302_304.out;have hcz10_0:w8.cell? ⟨gb304,0,none⟩=some (.string (⟨#[]⟩:ByteArray)):=(ye BK304.out 0).trans rfl;have hcz10_1:w8.cell? ⟨gb304,1,none⟩=some (.string (⟨#[]⟩:ByteArray)):=(ye BK304.out 1).trans rfl;have hcz10_2:w8.cell? ⟨gb304,2,none⟩=some (.slice none 0 0):=(ye BK304.out 2).trans rfl;have hfz10_0:=yg BK304.out 0;have hfz10_1:=yg BK304.out 1;have hfz10_2:=yg BK304.out 2;have hcz11_0:w8.cell? ⟨gb302,0,none⟩=some (.string x303000_1):=(ye BK302.out 0).trans rfl;have hcz11_1:w8.cell? ⟨gb302,1,none⟩=some (.string x303001_1):=(ye BK302.out 1).trans rfl;have hcz11_2:w8.cell? ⟨gb302,2,none⟩=some (.slice none 0 0):=(ye BK302.out 2).trans rfl;have hfz11_0:=yg BK302.out 0;have hfz11_1:=yg BK302.out 1;have hfz11_2:=yg BK302.out 2))
           refine bodyPost_ret (qj rfl _ _ gb302 53 #[.string ((yU l0 x10_1).f0),.string ((yU l0 x10_1).f1),.slice A303_2 ((yU l0 x10_1).f2).length c303_2] (0,0) _ rfl (by refine Zb ?_;refine yA (cs:=#[.string ((yU l0 x10_1).f0),.string ((yU l0 x10_1).f1),.slice none 0 0]) ?_ 2 _ rfl;refine Zb ?_;refine yA (cs:=#[.string ((yU l0 x10_1).f0),.string x303001_1,.slice none 0 0]) ?_ 1 _ rfl;refine Zb ?_;refine yA (cs:=#[.string x303000_1,.string x303001_1,.slice none 0 0]) ?_ 0 _ rfl;refine Zb ?_;refine yI ?_ NB302_304.out _;refine Zb ?_;refine yI ?_ NB302_304.out _;refine Zb ?_;refine yI ?_ NB302_304.out _;refine Zb ?_;exact BK302.out) Tryz.underlying53 rfl Zk) rfl ?_
           exact ⟨_,by first|rfl|(simp [yP,yO] <;> rfl)|(simp [*,yP,yO] <;> rfl),by refine Zv ?_; exact Kd.Yj (Kd.Yk (p:=⟨gb302,2,none⟩) (Kd.Yk (p:=⟨gb302,1,none⟩) (Kd.Yk (p:=⟨gb302,0,none⟩) (Kd.Yk (p:=⟨gb304,2,none⟩) (Kd.Yk (p:=⟨gb304,1,none⟩) (Kd.Yk (p:=⟨gb304,0,none⟩) (Kd.Yj (Kd.Yj HL303_2.out (fun k_ hk=>(⟨hk,hk.2⟩:_∧k_≠gb304))) (fun k_ hk=>(⟨hk,hk.1.1.2⟩:_∧k_≠gb302))) (fun _ hk=>hk.1.2) (.string ((yU l0 x10_1).f0))) (fun _ hk=>hk.1.2) (.string ((yU l0 x10_1).f1))) (fun _ hk=>hk.1.2) (.slice A303_2 ((yU l0 x10_1).f2).length c303_2)) (fun _ hk=>hk.2) (.string ((yU l0 x10_1).f0))) (fun _ hk=>hk.2) (.string ((yU l0 x10_1).f1))) (fun _ hk=>hk.2) (.slice A303_2 ((yU l0 x10_1).f2).length c303_2)) (fun _ hk=>hk.1.1.1.1),by repeat (first|(with_reducible first|exact HB.out|apply ym|apply yn|apply yu|refine yw ?_ GE302.out|refine yw ?_ GE304.out)|exact HB.out)⟩
         · rw [if_neg c7] at H
           have c7b0:(((yU l0 x10_1).f0).toList == a1.toList)=false:=beq_eq_false_iff_ne.mpr c7
           have c7b1:(((yU l0 x10_1).f0).toList != a1.toList)=true:=bne_iff_ne.mpr c7
           have H':=yc.mk H
           clear H
           have p303:0≤(x10_1:Int):=of_decide_eq_true (by first|(with_reducible assumption)|assumption)
           have q303:x10_1<(l0.length:Int):=of_decide_eq_true (by first|(with_reducible assumption)|assumption)
           obtain ⟨ad303,A303_2,c303_2,e303,hx303_0,hx303_1,hx303_2,hl303_2,hi303_2⟩:=at_T53 (Kd.Jw HO_8.out).2.2 x10_1 p303 q303
           cases e303
           obtain ⟨ce303,hce303,hMe303,hcc303⟩:=Kd.V_get HO_8.out z53 x10_1 p303 (by first|exact q303|exact of_decide_eq_true (by first|(with_reducible assumption)|assumption)|(have e_:=(Kd.Jw HO_8.out).1;omega))
           obtain ⟨ua303_2,uc303_2,rfl,ul303_2,ge303_2⟩:=yci hMe303
           have hv303_2:=hcc303 2 _ rfl
           rw [Jl _ _ 2 Zo] at hv303_2
           replace hv303_2:=Option.some.inj (hv303_2.symm.trans hx303_2)
           injection hv303_2 with hva_ hvn_ hvc_
           rw [hva_] at ge303_2
           rw [hvc_] at ul303_2
           have HL303_2:=yc.mk (show Kd.V Kd.string 9 _ w.heap.size _ _ ((yU l0 x10_1).f2) from Kd.V_mk ul303_2 ge303_2)
           clear hva_ hvn_ hvc_ ge303_2 ul303_2
           clear hcc303 hce303
           have HR303_2:=yc.mk hi303_2
           have HC303_2:=yc.mk hl303_2
           clear hi303_2 hl303_2
           replace p303:=eq_true p303
           replace q303:=eq_true q303
           go_wp2_with (first|((with_reducible refine Y1 (N:=7) rfl ?_);refine YP ?hg (N:=7) ?hd (cs:=#[.string (⟨#[]⟩:ByteArray),.string (⟨#[]⟩:ByteArray),.slice none 0 0]) (t:=53) ?hr ?_;(case hd=>rfl);(case hg=>rfl);(case hr=>first|(go_simp;done)|(go_simp;rfl));intro gb304 hg w12 hbox hb;have n0_:=yc.mk (Kd.YO (Kd.Jj (Zv HO_8.out) gb304 (Nat.le_of_eq hg.symm)) hb);have n1_:=yc.mk (Kd.YO (Kd.Jj (Zv HL303_2.out) gb304 (Nat.le_of_eq hg.symm)) hb);have n2_:=yc.mk (yE (g:=gb302) (o:=.cells #[.string x303000_1,.string x303001_1,.slice none 0 0] 53 (0,0)) (Zb BK302.out) hb);have n3_:=yc.mk (Kd.YS (by repeat (first|(with_reducible exact HR303_2.out)|(with_reducible refine Kd.Jo ?_ _)|(with_reducible refine Kd.Jp ?_ _)|(with_reducible refine Kd.JG ?_)|exact HR303_2.out)) hb);have n4_:=yc.mk (yy (Zg GE302.out) hb);have n5_:=yc.mk (hbox);have n6_:=yc.mk ((by rw [hg];exact (yt (Zg GE302.out)):w.heap.size≤gb304));have n7_:=yc.mk ((by rw [hg];exact (yt (Zg GE302.out)):w.heap.size≤gb304));have n8_:=yc.mk ((by rw [hg];exact Nat.ne_of_lt (Yy (g:=gb302) (o:=.cells #[.string x303000_1,.string x303001_1,.slice none 0 0] 53 (0,0)) (Zb BK302.out)):gb302≠gb304));have n9_:=yc.mk ((by rw [hg];exact Nat.ne_of_gt (Yy (g:=gb302) (o:=.cells #[.string x303000_1,.string x303001_1,.slice none 0 0] 53 (0,0)) (Zb BK302.out)):gb304≠gb302));clear HO_8 HL303_2 BK302 HR303_2 HB;have HO_8:=n0_;have HL303_2:=n1_;have BK302:=n2_;have HR303_2:=n3_;have HB:=n4_;have BK304:=n5_;have GW304:=n6_;have GE304:=n7_;have NB302_304:=n8_;have NB304_302:=n9_;clear n0_ n1_ n2_ n3_ n4_ n5_ n6_ n7_ n8_ n9_;clear hb hbox hg;have hnb13:=NB304_302.out;have hnc13:=NB302_304.out;have hcz14_0:w12.cell? ⟨gb304,0,none⟩=some (.string (⟨#[]⟩:ByteArray)):=(ye BK304.out 0).trans rfl;have hcz14_1:w12.cell? ⟨gb304,1,none⟩=some (.string (⟨#[]⟩:ByteArray)):=(ye BK304.out 1).trans rfl;have hcz14_2:w12.cell? ⟨gb304,2,none⟩=some (.slice none 0 0):=(ye BK304.out 2).trans rfl;have hfz14_0:=yg BK304.out 0;have hfz14_1:=yg BK304.out 1;have hfz14_2:=yg BK304.out 2))
           go_roundg k1
           case measure=>have:=HK1.out;omega
           case rel=>exact ⟨(wrap64 (x10_1+1)),(x303000_1),(x303001_1),(by first|rfl|(simp;done)|(simp [*];done)|(simp [yx];done)),H',⟨by have:=HK1.out;omega⟩,⟨by refine Zv ?_;exact Kd.Yj (Kd.Yk (p:=⟨gb304,2,none⟩) (Kd.Yk (p:=⟨gb304,1,none⟩) (Kd.Yk (p:=⟨gb304,0,none⟩) (Kd.Yj HO_8.out (fun k_ hk=>(⟨hk,hk.2⟩:_∧k_≠gb304))) (fun _ hk=>hk.2) (.string ((yU l0 x10_1).f0))) (fun _ hk=>hk.2) (.string ((yU l0 x10_1).f1))) (fun _ hk=>hk.2) (.slice A303_2 ((yU l0 x10_1).f2).length c303_2)) (fun _ hk=>⟨hk.1.1.1,hk.1.1.2⟩)⟩,⟨by refine Zb ?_;refine yI ?_ NB302_304.out _;refine Zb ?_;refine yI ?_ NB302_304.out _;refine Zb ?_;refine yI ?_ NB302_304.out _;refine Zb ?_;exact BK302.out⟩,⟨by repeat (first|(with_reducible first|exact HB.out|apply ym|apply yn|apply yu|refine yw ?_ GE302.out|refine yw ?_ GE304.out)|exact HB.out)⟩⟩
       · rw [if_neg c6] at H
         exact absurd H (by simp)
     · rw [if_neg c5] at H
       exact absurd H (by simp)
   · rw [if_neg c4] at H
     have c4b0:decide (x10_1<(l0.length:Int))=false:=decide_eq_false c4
     clear c4
     simp only [Option.some.injEq,Prod.mk.injEq] at H
     obtain ⟨rfl,rfl,rfl,rfl⟩:=H
     have hcz15_0:wr.cell? ⟨gb302,0,none⟩=some (.string x303000_1):=(ye BK302.out 0).trans rfl
     have hcz15_1:wr.cell? ⟨gb302,1,none⟩=some (.string x303001_1):=(ye BK302.out 1).trans rfl
     have hcz15_2:wr.cell? ⟨gb302,2,none⟩=some (.slice none 0 0):=(ye BK302.out 2).trans rfl
     have hfz15_0:=yg BK302.out 0
     have hfz15_1:=yg BK302.out 1
     have hfz15_2:=yg BK302.out 2
     go_wp2
     refine bodyPost_ret (qj rfl _ _ gb302 53 #[.string (⟨#[]⟩:ByteArray),.string (⟨#[]⟩:ByteArray),.slice none 0 0] (0,0) _ rfl (by refine Zb ?_;refine yA (cs:=#[.string (⟨#[]⟩:ByteArray),.string (⟨#[]⟩:ByteArray),.slice none 0 0]) ?_ 2 _ rfl;refine Zb ?_;refine yA (cs:=#[.string (⟨#[]⟩:ByteArray),.string x303001_1,.slice none 0 0]) ?_ 1 _ rfl;refine Zb ?_;refine yA (cs:=#[.string x303000_1,.string x303001_1,.slice none 0 0]) ?_ 0 _ rfl;refine Zb ?_;exact BK302.out) Tryz.underlying53 rfl Zk) rfl ?_
     exact ⟨_,by first|rfl|(simp [yP,yO] <;> rfl)|(simp [*,yP,yO] <;> rfl),Kd.Qm _ _ _ _ _,by repeat (first|(with_reducible first|exact HB.out|apply ym|apply yn|apply yu|refine yw ?_ GE302.out)|exact HB.out)⟩
end Go.Proofs.YtdcaggoicdfehaaGreatDoor
namespace Go.Proofs.YtdcaggoicdfehaaGreatDoor
open Go.RowKit Go.Proofs.YtdcaggoicdfehaaGreatDoorW.PrintWords Go.Proofs.YtdcaggoicdfehaaGreatDoorW.PrintLast Go.Proofs.YtdcaggoicdfehaaGreatDoorW.PrintMore
attribute [local go_sem] YX YV Ja Jb YK YL YW YU
def Jd.f (a0_0:ByteArray) (l0_1:List Int) (l0_2:List ByteArray) (a1:Int) (a2:Int):Option (Bool):=if (l0_1.length:Int)=a1 then (some ((l0_2.length:Int) == a2)) else (some false)
set_option maxHeartbeats 8000000 in
set_option maxRecDepth 100000 in
theorem Jd.calls (a0_0:ByteArray) (A0_1:Option Addr) (c0_1:Nat) (l0_1:List Int) (A0_2:Option Addr) (c0_2:Nat) (l0_2:List ByteArray) (a1:Int) (a2:Int) (r:Bool) (w:World) (hr0_1:Kd.C (Kd.int .u64) w A0_1 l0_1.length l0_1) (hc0_1:l0_1.length≤c0_1) (hr0_2:Kd.C Kd.string w A0_2 l0_2.length l0_2) (hc0_2:l0_2.length≤c0_2) (h:Jd.f a0_0 l0_1 l0_2 a1 a2=some r) :
 Calls Tryz.prog 37 #[.agg #[.string a0_0,.slice A0_1 l0_1.length c0_1,.slice A0_2 l0_2.length c0_2],.int .i64 a1,.int .i64 a2] w fun e w'=>e=.returned (.bool r)∧Below w.heap.size w w':=by
 have hu56:=Tryz.underlying56
 have HR0_1:=yc.mk hr0_1
 have HC0_1:=yc.mk hc0_1
 clear hr0_1 hc0_1
 have HR0_2:=yc.mk hr0_2
 have HC0_2:=yc.mk hc0_2
 clear hr0_2 hc0_2
 have HB:=yc.mk (Below.refl w.heap.size w)
 have H:(if (l0_1.length:Int)=a1 then (some ((l0_2.length:Int) == a2)) else (some false))=some r:=h
 clear h
 by_cases c4:(l0_1.length:Int)=a1
 · rw [if_pos c4] at H
   have c4b0:((l0_1.length:Int) == a1)=true:=beq_iff_eq.mpr c4
   have c4b1:((l0_1.length:Int) != a1)=false:=bne_eq_false_iff_eq.mpr c4
   clear c4
   obtain rfl:=Option.some.inj H
   go_enter Tryz.func37,Tryz.ntmps37
   go_wp2_with (first|((with_reducible refine Y1 (N:=3) rfl ?_);(try (refine Qc (by rfl) ?_;dsimp only));refine YP ?hg (N:=3) ?hd (cs:=#[.string a0_0,.slice A0_1 l0_1.length c0_1,.slice A0_2 l0_2.length c0_2]) (t:=56) ?hr ?_;(case hd=>rfl);(case hg=>rfl);(case hr=>first|(go_simp;done)|(go_simp;rfl));intro gb305 hg w5 hbox hb;have n0_:=yc.mk (yy Zh hb);have n1_:=yc.mk (hbox);have n2_:=yc.mk ((by rw [hg];exact (yt Zh):w.heap.size≤gb305));have n3_:=yc.mk ((by rw [hg];exact (yt Zh):w.heap.size≤gb305));clear HB;have HB:=n0_;have BK305:=n1_;have GW305:=n2_;have GE305:=n3_;clear n0_ n1_ n2_ n3_;clear hb hbox hg;have hcz6_0:w5.cell? ⟨gb305,0,none⟩=some (.string a0_0):=(ye BK305.out 0).trans rfl;have hcz6_1:w5.cell? ⟨gb305,1,none⟩=some (.slice A0_1 l0_1.length c0_1):=(ye BK305.out 1).trans rfl;have hcz6_2:w5.cell? ⟨gb305,2,none⟩=some (.slice A0_2 l0_2.length c0_2):=(ye BK305.out 2).trans rfl;have hfz6_0:=yg BK305.out 0;have hfz6_1:=yg BK305.out 1;have hfz6_2:=yg BK305.out 2))
   go_ret
   exact ⟨by first|rfl|(simp [yP,yO] <;> rfl)|(simp [*,yP,yO] <;> rfl),by repeat (first|(with_reducible first|exact HB.out|apply ym|apply yn|apply yu|refine yw ?_ GE305.out)|exact HB.out)⟩
 · rw [if_neg c4] at H
   have c4b0:((l0_1.length:Int) == a1)=false:=beq_eq_false_iff_ne.mpr c4
   have c4b1:((l0_1.length:Int) != a1)=true:=bne_iff_ne.mpr c4
   obtain rfl:=Option.some.inj H
   go_enter Tryz.func37,Tryz.ntmps37
   go_wp2_with (first|((with_reducible refine Y1 (N:=3) rfl ?_);(try (refine Qc (by rfl) ?_;dsimp only));refine YP ?hg (N:=3) ?hd (cs:=#[.string a0_0,.slice A0_1 l0_1.length c0_1,.slice A0_2 l0_2.length c0_2]) (t:=56) ?hr ?_;(case hd=>rfl);(case hg=>rfl);(case hr=>first|(go_simp;done)|(go_simp;rfl));intro gb305 hg w7 hbox hb;have n0_:=yc.mk (yy Zh hb);have n1_:=yc.mk (hbox);have n2_:=yc.mk ((by rw [hg];exact (yt Zh):w.heap.size≤gb305));have n3_:=yc.mk ((by rw [hg];exact (yt Zh):w.heap.size≤gb305));clear HB;have HB:=n0_;have BK305:=n1_;have GW305:=n2_;have GE305:=n3_;clear n0_ n1_ n2_ n3_;clear hb hbox hg;have hcz8_0:w7.cell? ⟨gb305,0,none⟩=some (.string a0_0):=(ye BK305.out 0).trans rfl;have hcz8_1:w7.cell? ⟨gb305,1,none⟩=some (.slice A0_1 l0_1.length c0_1):=(ye BK305.out 1).trans rfl;have hcz8_2:w7.cell? ⟨gb305,2,none⟩=some (.slice A0_2 l0_2.length c0_2):=(ye BK305.out 2).trans rfl;have hfz8_0:=yg BK305.out 0;have hfz8_1:=yg BK305.out 1;have hfz8_2:=yg BK305.out 2))
   go_ret
   exact ⟨by first|rfl|(simp [yP,yO] <;> rfl)|(simp [*,yP,yO] <;> rfl),by repeat (first|(with_reducible first|exact HB.out|apply ym|apply yn|apply yu|refine yw ?_ GE305.out)|exact HB.out)⟩
end Go.Proofs.YtdcaggoicdfehaaGreatDoor
namespace Go.Proofs.YtdcaggoicdfehaaGreatDoor
open Go.RowKit Go.Proofs.YtdcaggoicdfehaaGreatDoorW.PrintWords Go.Proofs.YtdcaggoicdfehaaGreatDoorW.PrintLast Go.Proofs.YtdcaggoicdfehaaGreatDoorW.PrintMore
attribute [local go_sem] YX YV Ja Jb YK YL YW YU
def Yf.l0:Nat→Int→List Int→Int→Int→Option (Bool)
 | 0,_,_,_,_=>none
 | k+1,x0,x7,x8,x9=>if x9<x8 then (if 0≤x9 then (if x9<(x7.length:Int) then (if (rd x7 x9)≥x0 then (some false) else (Yf.l0 k x0 x7 x8 (wrap64 (x9+1)))) else (none)) else (none)) else (some true)
def Yf.f (k:Nat) (a0:Int) (l1:List Int):Option (Bool):=Yf.l0 k a0 l1 (l1.length:Int) 0
theorem Yf.YB:∀ k,(∀ y0 y1 y2 y3,LeO (Yf.l0 k y0 y1 y2 y3) (Yf.l0 (k+1) y0 y1 y2 y3))
 | 0=>fun _ _ _ _ r h=>by simp [Yf.l0] at h
 | k+1=>by
  have ih0:=Yf.YB k
  · intro y0 y1 y2 y3
    unfold Yf.l0
    repeat' first
    | (with_reducible exact ih0 _ _ _ _)
    | (with_reducible exact LeO.refl _)
    | (with_reducible exact LeO.none _)
    | (with_reducible refine LeO.ite ?_ ?_)
    | (with_reducible refine LeO.bind ?_ (fun _=>?_))
    | exact ih0 _ _ _ _
    | exact LeO.none _
    | refine LeO.ite ?_ ?_
    | refine LeO.bind ?_ (fun _=>?_)
theorem Yf.mono:∀ a0 a1 k,LeO (Yf.f k a0 a1) (Yf.f (k+1) a0 a1):=by
 intro a0 a1 k
 have ih0:=Yf.YB k
 unfold Yf.f
 repeat' first
  | (with_reducible exact ih0 _ _ _ _)
  | (with_reducible exact LeO.refl _)
  | (with_reducible exact LeO.none _)
  | (with_reducible refine LeO.ite ?_ ?_)
  | (with_reducible refine LeO.bind ?_ (fun _=>?_))
  | exact ih0 _ _ _ _
  | exact LeO.none _
  | refine LeO.ite ?_ ?_
  | refine LeO.bind ?_ (fun _=>?_)
set_option maxHeartbeats 8000000 in
set_option maxRecDepth 100000 in
theorem Yf.calls (k:Nat) (a0:Int) (A1:Option Addr) (c1:Nat) (l1:List Int) (r:Bool) (w:World) (hr1:Kd.C (Kd.int .u64) w A1 l1.length l1) (hc1:l1.length≤c1) (h:Yf.f k a0 l1=some r) :
 Calls Tryz.prog 38 #[.int .u64 a0,.slice A1 l1.length c1] w fun e w'=>e=.returned (.bool r)∧yV w w':=by
 have HR1:=yc.mk hr1
 have HC1:=yc.mk hc1
 clear hr1 hc1
 have H:(Yf.l0 k a0 l1 (l1.length:Int) 0)=some r:=h
 clear h
 have H':=yc.mk H
 clear H
 go_enter Tryz.func38,Tryz.ntmps38
 go_wp2
 go_loopg [9] k (fun kq v9 w'=>∃ (x9_1:Int),v9=.int .i64 x9_1∧yc (Yf.l0 kq a0 l1 (l1.length:Int) x9_1=some r)∧yc (kq≤k)∧yV w w')
 case atStart=>exact ⟨(0),(by first|rfl|(simp;done)|(simp [*];done)|(simp [yx];done)),H',⟨Nat.le_refl _⟩,by repeat (first|exact yV.refl _|apply yV.step)⟩
 case round=>
  clear H'
  try clear c1
  try clear p2
  obtain ⟨x9_1,rfl,HA,HK1,⟨m1,rfl⟩⟩:=hrel
  cases gk with
  | zero=>exact absurd HA.out (by simp [Yf.l0])
  | succ k1=>
   have H:=HA.out
   clear HA
   simp only [Yf.l0] at H
   by_cases c3:x9_1<(l1.length:Int)
   · rw [if_pos c3] at H
     have c3b0:decide (x9_1<(l1.length:Int))=true:=decide_eq_true c3
     clear c3
     by_cases c4:0≤x9_1
     · rw [if_pos c4] at H
       have c4b0:decide (0≤x9_1)=true:=decide_eq_true c4
       clear c4
       by_cases c5:x9_1<(l1.length:Int)
       · rw [if_pos c5] at H
         have c5b0:decide (x9_1<(l1.length:Int))=true:=decide_eq_true c5
         clear c5
         by_cases c6:(rd l1 x9_1)≥a0
         · rw [if_pos c6] at H
           have c6b0:decide (a0≤(rd l1 x9_1))=true:=decide_eq_true c6
           clear c6
           obtain rfl:=Option.some.inj H
           have p306:0≤(x9_1:Int):=of_decide_eq_true (by first|(with_reducible assumption)|assumption)
           have q306:x9_1<(l1.length:Int):=of_decide_eq_true (by first|(with_reducible assumption)|assumption)
           obtain ⟨ad306,e306,hx306_0⟩:=Kd.at_int HR1.out x9_1 p306 q306
           cases e306
           replace p306:=eq_true p306
           replace q306:=eq_true q306
           go_wp2
           go_ret
           exact ⟨by first|rfl|(simp;done)|(simp [*];done)|(simp [yx];done),by repeat (first|exact yV.refl _|apply yV.step)⟩
         · rw [if_neg c6] at H
           have c6b0:decide (a0≤(rd l1 x9_1))=false:=decide_eq_false c6
           clear c6
           have H':=yc.mk H
           clear H
           have p306:0≤(x9_1:Int):=of_decide_eq_true (by first|(with_reducible assumption)|assumption)
           have q306:x9_1<(l1.length:Int):=of_decide_eq_true (by first|(with_reducible assumption)|assumption)
           obtain ⟨ad306,e306,hx306_0⟩:=Kd.at_int HR1.out x9_1 p306 q306
           cases e306
           replace p306:=eq_true p306
           replace q306:=eq_true q306
           go_wp2
           go_roundg k1
           case measure=>have:=HK1.out;omega
           case rel=>exact ⟨(wrap64 (x9_1+1)),(by first|rfl|(simp;done)|(simp [*];done)|(simp [yx];done)),H',⟨by have:=HK1.out;omega⟩,by repeat (first|exact yV.refl _|apply yV.step)⟩
       · rw [if_neg c5] at H
         exact absurd H (by simp)
     · rw [if_neg c4] at H
       exact absurd H (by simp)
   · rw [if_neg c3] at H
     have c3b0:decide (x9_1<(l1.length:Int))=false:=decide_eq_false c3
     clear c3
     obtain rfl:=Option.some.inj H
     go_wp2
     go_ret
     exact ⟨by first|rfl|(simp;done)|(simp [*];done)|(simp [yx];done),by repeat (first|exact yV.refl _|apply yV.step)⟩
end Go.Proofs.YtdcaggoicdfehaaGreatDoor
