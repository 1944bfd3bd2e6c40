/- Part 28 of 44 of the proof of the tied card of FnXfsRead. -/
import Derived.Test.YtdcaggoicdfehaaGreatDoorVz
import Derived.Test.YtdcaggoicdfehaaGreatDoorV4
import Derived.Test.YtdcaggoicdfehaaGreatDoorV25
import Derived.Test.YtdcaggoicdfehaaGreatDoorV26
import Derived.Test.YtdcaggoicdfehaaGreatDoorV27
set_option linter.unusedVariables false
set_option linter.unusedSimpArgs false
namespace Go.Proofs.YtdcaggoicdfehaaGreatDoor
open Go.RowKit Go.Proofs.YtdcaggoicdfehaaGreatDoorW.PrintWords Go.Proofs.YtdcaggoicdfehaaGreatDoorW.PrintLast Go.Proofs.YtdcaggoicdfehaaGreatDoorW.PrintMore
attribute [local go_sem] YX YV Ja Jb YK YL YW YU
mutual
def yp.l0:Nat→List (S56)→List (S56)→Int→Int→Option (Bool)
 | 0,_,_,_,_=>none
 | k+1,x0,x7,x8,x9=>if x9<x8 then (if 0≤x9 then (if x9<(x7.length:Int) then ((Y6.f).bind fun t311=>((Ya.f k t311 ((yo x7 x9).f0)).bind fun bt314=>(if bt314.2.2.2=true then (if ((yo x7 x9).f0).toList=([103,99]:List UInt8) then (yp.j1 k x0 x7 x8 x9 true) else ((Jd.f ((yo x7 x9).f0) ((yo x7 x9).f1) ((yo x7 x9).f2) (bt314.2.2.1.length:Int) 0).bind fun t321=>(if t321=true then (if ((yo x7 x9).f0).toList=([120,112,99]:List UInt8) then (yp.j1 k x0 x7 x8 x9 false) else (if ((yo x7 x9).f0).toList=([100,101,102,101,114,95,114,101,108,111,103]:List UInt8) then (yp.j1 k x0 x7 x8 x9 false) else ((Yf.f k 4294967296 ((yo x7 x9).f1)).bind fun t322=>(yp.j1 k x0 x7 x8 x9 (!t322))))) else (yp.j1 k x0 x7 x8 x9 true)))) else (yp.j1 k x0 x7 x8 x9 true)))) else (none)) else (none)) else ((yL.f k x0).bind fun t323=>(some t323))
def yp.j1:Nat→List (S56)→List (S56)→Int→Int→Bool→Option (Bool)
 | 0,_,_,_,_,_=>none
 | k+1,x0,x7,x8,x9,x50=>if x50=true then (some false) else (yp.l0 k x0 x7 x8 (wrap64 (x9+1)))
end
def yp.f (k:Nat) (l0:List (S56)):Option (Bool):=yp.l0 k l0 l0 (l0.length:Int) 0
theorem yp.YB:∀ k,(∀ y0 y1 y2 y3,LeO (yp.l0 k y0 y1 y2 y3) (yp.l0 (k+1) y0 y1 y2 y3))∧(∀ y0 y1 y2 y3 y4,LeO (yp.j1 k y0 y1 y2 y3 y4) (yp.j1 (k+1) y0 y1 y2 y3 y4))
 | 0=>⟨fun _ _ _ _ r h=>by simp [yp.l0] at h,fun _ _ _ _ _ r h=>by simp [yp.j1] at h⟩
 | k+1=>by
  obtain ⟨ih0,ih1⟩:=yp.YB k
  refine ⟨?_,?_⟩
  · intro y0 y1 y2 y3
    unfold yp.l0
    repeat' first
    | (with_reducible exact ih0 _ _ _ _)
    | (with_reducible exact ih1 _ _ _ _ _)
    | (with_reducible exact yL.mono _ _)
    | (with_reducible exact Ya.mono _ _ _)
    | (with_reducible exact Yf.mono _ _ _)
    | (with_reducible exact LeO.refl _)
    | (with_reducible exact LeO.none _)
    | (with_reducible refine LeO.ite ?_ ?_)
    | (with_reducible refine LeO.bind ?_ (fun _=>?_))
    | exact ih0 _ _ _ _
    | exact ih1 _ _ _ _ _
    | exact yL.mono _ _
    | exact Ya.mono _ _ _
    | exact Yf.mono _ _ _
    | exact LeO.none _
    | refine LeO.ite ?_ ?_
    | refine LeO.bind ?_ (fun _=>?_)
  · intro y0 y1 y2 y3 y4
    unfold yp.j1
    repeat' first
    | (with_reducible exact ih0 _ _ _ _)
    | (with_reducible exact ih1 _ _ _ _ _)
    | (with_reducible exact yL.mono _ _)
    | (with_reducible exact Ya.mono _ _ _)
    | (with_reducible exact Yf.mono _ _ _)
    | (with_reducible exact LeO.refl _)
    | (with_reducible exact LeO.none _)
    | (with_reducible refine LeO.ite ?_ ?_)
    | (with_reducible refine LeO.bind ?_ (fun _=>?_))
    | exact ih0 _ _ _ _
    | exact ih1 _ _ _ _ _
    | exact yL.mono _ _
    | exact Ya.mono _ _ _
    | exact Yf.mono _ _ _
    | exact LeO.none _
    | refine LeO.ite ?_ ?_
    | refine LeO.bind ?_ (fun _=>?_)
theorem yp.mono:∀ a0 k,LeO (yp.f k a0) (yp.f (k+1) a0):=by
 intro a0 k
 obtain ⟨ih0,ih1⟩:=yp.YB k
 unfold yp.f
 repeat' first
  | (with_reducible exact ih0 _ _ _ _)
  | (with_reducible exact ih1 _ _ _ _ _)
  | (with_reducible exact yL.mono _ _)
  | (with_reducible exact Ya.mono _ _ _)
  | (with_reducible exact Yf.mono _ _ _)
  | (with_reducible exact LeO.refl _)
  | (with_reducible exact LeO.none _)
  | (with_reducible refine LeO.ite ?_ ?_)
  | (with_reducible refine LeO.bind ?_ (fun _=>?_))
  | exact ih0 _ _ _ _
  | exact ih1 _ _ _ _ _
  | exact yL.mono _ _
  | exact Ya.mono _ _ _
  | exact Yf.mono _ _ _
  | exact LeO.none _
  | refine LeO.ite ?_ ?_
  | refine LeO.bind ?_ (fun _=>?_)
def yp.T4:Bool × List (List Nat × List Nat):=(true,[([],[]),([],[]),([1],[1]),([0,2,0],[0,2]),([3],[3]),([4],[4]),([4],[4]),([],[]),([7,5,3,0,1,2,3,4,5,7],[5,7]),([6,8,0,1,2,3,4,5,6,7,8],[6])])
def yp.B4:List Nat:=[0,0,2,7,15,31,31,0,191,511]
theorem yp.tab4:Ju .any (opsOf Tryz.f15 4)=yp.T4:=by kernel_rfl
theorem yp.bits4:JP yp.T4.2 yp.B4=true:=by kernel_rfl
set_option maxHeartbeats 8000000 in
set_option maxRecDepth 100000 in
theorem yp.calls (k:Nat) (A0:Option Addr) (c0:Nat) (l0:List (S56)) (r:Bool) (w:World) (hr0:Kd.C k56 w A0 l0.length l0) (hc0:l0.length≤c0) (h:yp.f k l0=some r) :
 Calls Tryz.prog 15 #[.slice A0 l0.length c0] w fun e w'=>e=.returned (.bool r)∧Below w.heap.size w w':=by
 have hu56:=Tryz.underlying56
 have hu53:=Tryz.underlying53
 have HR0:=yc.mk hr0
 have HC0:=yc.mk hc0
 clear hr0 hc0
 have HB:=yc.mk (Below.refl w.heap.size w)
 have H:(yp.l0 k l0 l0 (l0.length:Int) 0)=some r:=h
 clear h
 have H':=yc.mk H
 clear H
 go_enter Tryz.func15,Tryz.ntmps15
 go_wp2
 go_loopg [9] k (fun kq v9 w'=>∃ (x9_1:Int),v9=.int .i64 x9_1∧yc (yp.l0 kq l0 l0 (l0.length:Int) x9_1=some r)∧yc (kq≤k)∧yc (Below w.heap.size w w'))
 case atStart=>exact ⟨(0),(by first|rfl|(simp;done)|(simp [*];done)|(simp [yx];done)),H',⟨Nat.le_refl _⟩,⟨by repeat (first|(with_reducible first|exact HB.out|apply ym|apply yn|apply yu)|exact HB.out)⟩⟩
 case round=>
  clear H'
  try clear c1
  obtain ⟨x9_1,rfl,HA,HK1,HB⟩:=hrel
  cases gk with
  | zero=>exact absurd HA.out (by simp [yp.l0])
  | succ k1=>
   have H:=HA.out
   clear HA
   simp only [yp.l0] at H
   by_cases c2:x9_1<(l0.length:Int)
   · rw [if_pos c2] at H
     have c2b0:decide (x9_1<(l0.length:Int))=true:=decide_eq_true c2
     clear c2
     by_cases c3:0≤x9_1
     · rw [if_pos c3] at H
       have c3b0:decide (0≤x9_1)=true:=decide_eq_true c3
       clear c3
       by_cases c4:x9_1<(l0.length:Int)
       · rw [if_pos c4] at H
         have c4b0:decide (x9_1<(l0.length:Int))=true:=decide_eq_true c4
         clear c4
         replace H:=Option.bind_eq_some_iff.mp H
         obtain ⟨t311,A50,H⟩:=H
         replace H:((Ya.f k1 t311 ((yo l0 x9_1).f0)).bind fun bt314=>(if bt314.2.2.2=true then (if ((yo l0 x9_1).f0).toList=([103,99]:List UInt8) then (yp.j1 k1 l0 l0 (l0.length:Int) x9_1 true) else ((Jd.f ((yo l0 x9_1).f0) ((yo l0 x9_1).f1) ((yo l0 x9_1).f2) (bt314.2.2.1.length:Int) 0).bind fun t321=>(if t321=true then (if ((yo l0 x9_1).f0).toList=([120,112,99]:List UInt8) then (yp.j1 k1 l0 l0 (l0.length:Int) x9_1 false) else (if ((yo l0 x9_1).f0).toList=([100,101,102,101,114,95,114,101,108,111,103]:List UInt8) then (yp.j1 k1 l0 l0 (l0.length:Int) x9_1 false) else ((Yf.f k1 4294967296 ((yo l0 x9_1).f1)).bind fun t322=>(yp.j1 k1 l0 l0 (l0.length:Int) x9_1 (!t322))))) else (yp.j1 k1 l0 l0 (l0.length:Int) x9_1 true)))) else (yp.j1 k1 l0 l0 (l0.length:Int) x9_1 true)))=some r:=H
         have A5:=yc.mk A50
         clear A50
         replace H:=Option.bind_eq_some_iff.mp H
         obtain ⟨⟨t314,t315,t316,t319⟩,A60,H⟩:=H
         replace H:(if t319=true then (if ((yo l0 x9_1).f0).toList=([103,99]:List UInt8) then (yp.j1 k1 l0 l0 (l0.length:Int) x9_1 true) else ((Jd.f ((yo l0 x9_1).f0) ((yo l0 x9_1).f1) ((yo l0 x9_1).f2) (t316.length:Int) 0).bind fun t321=>(if t321=true then (if ((yo l0 x9_1).f0).toList=([120,112,99]:List UInt8) then (yp.j1 k1 l0 l0 (l0.length:Int) x9_1 false) else (if ((yo l0 x9_1).f0).toList=([100,101,102,101,114,95,114,101,108,111,103]:List UInt8) then (yp.j1 k1 l0 l0 (l0.length:Int) x9_1 false) else ((Yf.f k1 4294967296 ((yo l0 x9_1).f1)).bind fun t322=>(yp.j1 k1 l0 l0 (l0.length:Int) x9_1 (!t322))))) else (yp.j1 k1 l0 l0 (l0.length:Int) x9_1 true)))) else (yp.j1 k1 l0 l0 (l0.length:Int) x9_1 true))=some r:=H
         have A6:=yc.mk A60
         clear A60
         have HC7:=yc.mk H
         clear H
         have p309:0≤(x9_1:Int):=of_decide_eq_true (by first|(with_reducible assumption)|assumption)
         have q309:x9_1<(l0.length:Int):=of_decide_eq_true (by first|(with_reducible assumption)|assumption)
         obtain ⟨ad309,A309_1,c309_1,A309_2,c309_2,e309,hx309_0,hx309_1,hx309_2,hl309_1,hi309_1,hl309_2,hi309_2⟩:=yaZ HR0.out x9_1 p309 q309
         cases e309
         replace hx309_0:=(HB.out.cell (World.block_lt_of_cell? w _ hx309_0)).trans hx309_0
         replace hx309_1:=(HB.out.cell (World.block_lt_of_cell? w _ hx309_1)).trans hx309_1
         replace hx309_2:=(HB.out.cell (World.block_lt_of_cell? w _ hx309_2)).trans hx309_2
         have HR309_1:=yc.mk hi309_1
         have HC309_1:=yc.mk hl309_1
         clear hi309_1 hl309_1
         have HR309_2:=yc.mk hi309_2
         have HC309_2:=yc.mk hl309_2
         clear hi309_2 hl309_2
         replace p309:=eq_true p309
         replace q309:=eq_true q309
         try go_wp2_with (first|((with_reducible refine Y1 (N:=4) rfl ?_);(try (refine Qc (by rfl) ?_;dsimp only));refine YP ?hg (N:=4) ?hd (cs:=#[.string (⟨#[]⟩:ByteArray),.slice none 0 0,.slice none 0 0]) (t:=56) ?hr ?_;(case hd=>rfl);(case hg=>rfl);(case hr=>first|(go_simp;done)|(go_simp;rfl));intro gb310 hg w8 hbox hb;have n0_:=yc.mk (yy Zh hb);have n1_:=yc.mk (hbox);have n2_:=yc.mk ((by rw [hg];exact (yt Zh):w.heap.size≤gb310));have n3_:=yc.mk ((by rw [hg];exact (yt Zh):w.heap.size≤gb310));clear HB;have HB:=n0_;have BK310:=n1_;have GW310:=n2_;have GE310:=n3_;clear n0_ n1_ n2_ n3_;clear hb hbox hg;have hcz9_0:w8.cell? ⟨gb310,0,none⟩=some (.string (⟨#[]⟩:ByteArray)):=(ye BK310.out 0).trans rfl;have hcz9_1:w8.cell? ⟨gb310,1,none⟩=some (.slice none 0 0):=(ye BK310.out 1).trans rfl;have hcz9_2:w8.cell? ⟨gb310,2,none⟩=some (.slice none 0 0):=(ye BK310.out 2).trans rfl;have hfz9_0:=yg BK310.out 0;have hfz9_1:=yg BK310.out 1;have hfz9_2:=yg BK310.out 2))
         have n0_:yc ((((w8.setCell ⟨gb310,0,none⟩ (.string ((yo l0 x9_1).f0))).setCell ⟨gb310,1,none⟩ (.slice A309_1 ((yo l0 x9_1).f1).length c309_1)).setCell ⟨gb310,2,none⟩ (.slice A309_2 ((yo l0 x9_1).f2).length c309_2)).heap[gb310]?=some (.cells #[.string ((yo l0 x9_1).f0),.slice A309_1 ((yo l0 x9_1).f1).length c309_1,.slice A309_2 ((yo l0 x9_1).f2).length c309_2] 56 (0,0))):=⟨by refine Zb ?_;refine yA (cs:=#[.string ((yo l0 x9_1).f0),.slice A309_1 ((yo l0 x9_1).f1).length c309_1,.slice none 0 0]) ?_ 2 _ rfl;refine Zb ?_;refine yA (cs:=#[.string ((yo l0 x9_1).f0),.slice none 0 0,.slice none 0 0]) ?_ 1 _ rfl;refine Zb ?_;refine yA (cs:=#[.string (⟨#[]⟩:ByteArray),.slice none 0 0,.slice none 0 0]) ?_ 0 _ rfl;refine Zb ?_;exact BK310.out⟩
         have n1_:yc (Below w.heap.size w (((w8.setCell ⟨gb310,0,none⟩ (.string ((yo l0 x9_1).f0))).setCell ⟨gb310,1,none⟩ (.slice A309_1 ((yo l0 x9_1).f1).length c309_1)).setCell ⟨gb310,2,none⟩ (.slice A309_2 ((yo l0 x9_1).f2).length c309_2))):=⟨by repeat (first|(with_reducible first|exact HB.out|apply ym|apply yn|apply yu|refine yw ?_ GE310.out)|exact HB.out)⟩
         (try clear BK310)
         (try clear HB)
         generalize (((w8.setCell ⟨gb310,0,none⟩ (.string ((yo l0 x9_1).f0))).setCell ⟨gb310,1,none⟩ (.slice A309_1 ((yo l0 x9_1).f1).length c309_1)).setCell ⟨gb310,2,none⟩ (.slice A309_2 ((yo l0 x9_1).f2).length c309_2))=w10 at n0_ n1_ ⊢
         have BK310:=n0_
         have HB:=n1_
         clear n0_ n1_
         have n0_:=yc.mk (yap BK310.out)
         have n1_:=yc.mk (yu HB.out)
         clear BK310
         clear HB
         have BK310:=n0_
         have HB:=n1_
         clear n0_ n1_
         refine Q8 (n:=10) (S:=fun w'=>w'.cell? ⟨gb310,0,none⟩=some (.string ((yo l0 x9_1).f0))∧w'.cell? ⟨gb310,1,none⟩=some (.slice A309_1 ((yo l0 x9_1).f1).length c309_1)∧w'.cell? ⟨gb310,2,none⟩=some (.slice A309_2 ((yo l0 x9_1).f2).length c309_2)) (ds:=[]) #[false,false,false,false,false,false,false,false,false,false] Zk rfl rfl ⟨(ye BK310.out 0).trans rfl,(ye BK310.out 1).trans rfl,(ye BK310.out 2).trans rfl⟩ (fun hHeld=>?_);refine yar yp.tab4 yp.bits4 (fun HT_ HW_=>?_)
         generalize w10.drew=w11 at BK310 HB hHeld ⊢
         refine Js (i:=1) (N:=some 15) (v:=?_) (a':=?_) #[false,true,false,false,false,false,false,false,false,false] rfl rfl (Y0 HT_.out Zk) (fun _ _ _ h=>h) (Or.inl ⟨by rfl,?_⟩) ?_ ?_
         rotate_left
         · intro w'
           go_simp
           with_reducible rfl
         rotate_left
         · simp only [Act.put,List.setIfInBounds_toArray,List.set_cons_zero,List.set_cons_succ,Yq,Yu]
           rfl
         refine ybW (i:=2) (N:=some 16) (v:=?_) (a':=?_) #[false,true,true,false,false,false,false,false,false,false] rfl rfl (QS HT_.out HW_.out Zk) (fun _ _ _ h=>h) (Or.inl ⟨by rfl,?_⟩) hHeld ?_ ?_
         rotate_left
         · rintro w' ⟨s0,s1,s2⟩
           go_simp
           with_reducible rfl
         rotate_left
         · simp only [Act.put,List.setIfInBounds_toArray,List.set_cons_zero,List.set_cons_succ,Yq,Yu]
           rfl
         refine join_ (σ:=Value × Value × Nat) 2 #[true,true,true,true,true,true,true,true,false,false] (fun s_=>[(14,s_.1),(17,.tuple #[.agg #[.string t314,.string t315,s_.2.1],.bool t319]),(5,.pointer (some ⟨s_.2.2,0,none⟩)),(13,.tuple #[.agg #[.string t314,.string t315,s_.2.1],.bool t319]),(18,.agg #[.string t314,.string t315,s_.2.1]),(19,.bool t319)]) (fun s_ w'=>(w'.cell? ⟨gb310,0,none⟩=some (.string ((yo l0 x9_1).f0))∧w'.cell? ⟨gb310,1,none⟩=some (.slice A309_1 ((yo l0 x9_1).f1).length c309_1)∧w'.cell? ⟨gb310,2,none⟩=some (.slice A309_2 ((yo l0 x9_1).f2).length c309_2))∧(Kd.N k53 53 w' w.heap.size (fun k_=>k_≠gb310∧k_≠s_.2.2) s_.1 t311)∧(Kd.V Kd.string 9 w' w.heap.size (fun k_=>k_≠gb310∧k_≠s_.2.2) s_.2.1 t316)∧(w'.heap[gb310]?=some (.cells #[.string ((yo l0 x9_1).f0),.slice A309_1 ((yo l0 x9_1).f1).length c309_1,.slice A309_2 ((yo l0 x9_1).f2).length c309_2] 56 (0,0)))∧(w'.heap[s_.2.2]?=some (.cells #[.string (⟨#[]⟩:ByteArray),.string (⟨#[]⟩:ByteArray),.slice none 0 0] 53 (0,0)))∧(w.heap.size≤s_.2.2)∧(w.heap.size≤s_.2.2)∧(gb310≠s_.2.2)∧(s_.2.2≠gb310)∧(Below w.heap.size w w')) ?_ ?_
         rotate_left
         · intro hCont
           refine two_ (i:=0) (j:=7) (Ni:=some 14) (Nj:=some 5) #[true,true,true,false,false,false,false,false,false,false] #[false,true,true,false,false,false,false,true,false,false] rfl rfl rfl rfl (two_of HT_.out Zk) Zd Zd (fun K hK=>?_) (fun K hK=>?_)
           · skip
             refine yaP Tryz.func17 Zk rfl #[] (by rfl) rfl rfl (by (try simp only [List.map_toArray,List.map_cons,List.map_nil]);first|done|rfl|(simp only [List.length_drop,List.length_take];rfl)) ?_
             with_reducible refine (Y6.calls  t311 _ A5.out).mono ?_
             rintro e w12 ⟨v312,rfl,ho0,hb⟩
             refine ⟨_,rfl,?_⟩
             have n0_:=yc.mk (Kd.ybJ (Kd.Jf (ok':=fun k_=>k_≠gb310) ho0 (fun k_ hk_=>(Kd.Jm (g:=gb310) (o:=.cells #[.string ((yo l0 x9_1).f0),.slice A309_1 ((yo l0 x9_1).f1).length c309_1,.slice A309_2 ((yo l0 x9_1).f2).length c309_2] 56 (0,0)) (Zb BK310.out) k_ hk_))) (yt (Zg GE310.out)))
             have n1_:=yc.mk (yE (g:=gb310) (o:=.cells #[.string ((yo l0 x9_1).f0),.slice A309_1 ((yo l0 x9_1).f1).length c309_1,.slice A309_2 ((yo l0 x9_1).f2).length c309_2] 56 (0,0)) (Zb BK310.out) hb)
             have n2_:=yc.mk (yy (Zg GE310.out) hb)
             clear BK310
             clear HB
             have HO313:=n0_
             have BK310:=n1_
             have HB:=n2_
             clear n0_ n1_ n2_
             (try clear hb)
             (try clear hb2)
             (try clear hk)
             (try clear hi)
             (try clear ho0)
             obtain ⟨Ao13,co13,eo13⟩:=Kd.yaC HO313.out
             (first|subst eo13|(injection eo13 with f1_ f2_ f3_;have f4_:=f1_.symm;have f5_:=f3_.symm;clear f1_ f2_ f3_;subst f4_;subst f5_))
             refine hK.out _ _ ⟨(ye BK310.out 0).trans rfl,(ye BK310.out 1).trans rfl,(ye BK310.out 2).trans rfl⟩ (fun hHeld=>?_)
             clear hK K
             refine JV (a':=?_) ?_ ?_
             rotate_left
             · show Act.put _ (some 14) _=_
               simp only [Act.put,List.setIfInBounds_toArray,List.set_cons_zero,List.set_cons_succ,Yq,Yu]
               rfl
             refine two_ (i:=3) (j:=7) (Ni:=some 17) (Nj:=some 5) #[true,true,true,true,false,false,false,false,false,false] #[true,true,true,false,false,false,false,true,false,false] rfl rfl rfl rfl (two_of HT_.out Zk) Zd Zd (fun K hK=>?_) (fun K hK=>?_)
             · skip
               refine yaP Tryz.func36 Zk rfl #[.slice Ao13 t311.length co13,.string ((yo l0 x9_1).f0)] (by rfl) rfl rfl (by (try simp only [List.map_toArray,List.map_cons,List.map_nil]);first|done|rfl|(simp only [List.length_drop,List.length_take];rfl)) ?_
               with_reducible refine (Ya.calls k1 (fun k_=>k_≠gb310) _ _ t311 ((yo l0 x9_1).f0) t314 t315 t316 t319 _ ?side1 A6.out).mono ?_
               (case side1=>exact Kd.N_V (HO313.out))
               rintro e w14 ⟨v317,rfl,ho0,hb⟩
               refine ⟨_,rfl,?_⟩
               have n0_:=yc.mk (Kd.Jy (Zn HO313.out) hb)
               have n1_:=yc.mk (Kd.Q0 (Kd.Yj (ok':=fun k_=>k_≠gb310) ho0 (fun k_ hk_=>Or.elim hk_ (fun hs_=>hs_) (fun hn_=>(Kd.Jm (g:=gb310) (o:=.cells #[.string ((yo l0 x9_1).f0),.slice A309_1 ((yo l0 x9_1).f1).length c309_1,.slice A309_2 ((yo l0 x9_1).f2).length c309_2] 56 (0,0)) (Zb BK310.out) k_ hn_)))) (yt (Zg GE310.out)))
               have n2_:=yc.mk (yE (g:=gb310) (o:=.cells #[.string ((yo l0 x9_1).f0),.slice A309_1 ((yo l0 x9_1).f1).length c309_1,.slice A309_2 ((yo l0 x9_1).f2).length c309_2] 56 (0,0)) (Zb BK310.out) hb)
               have n3_:=yc.mk (yy (Zg GE310.out) hb)
               clear HO313
               clear BK310
               clear HB
               have HO313:=n0_
               have HO318:=n1_
               have BK310:=n2_
               have HB:=n3_
               clear n0_ n1_ n2_ n3_
               (try clear hb)
               (try clear hb2)
               (try clear hk)
               (try clear hi)
               (try clear ho0)
               refine hK.out _ _ ⟨(ye BK310.out 0).trans rfl,(ye BK310.out 1).trans rfl,(ye BK310.out 2).trans rfl⟩ (fun hHeld=>?_)
               clear hK K
               refine JV (a':=?_) ?_ ?_
               rotate_left
               · show Act.put _ (some 17) _=_
                 simp only [Act.put,List.setIfInBounds_toArray,List.set_cons_zero,List.set_cons_succ,Yq,Yu]
                 rfl
               refine Js (i:=4) (N:=some 13) (v:=?_) (a':=?_) #[true,true,true,true,true,false,false,false,false,false] rfl rfl (Y0 HT_.out Zk) (fun _ _ _ h=>h) (Or.inl ⟨by rfl,?_⟩) ?_ ?_
               rotate_left
               · intro w'
                 go_simp
                 with_reducible rfl
               rotate_left
               · simp only [Act.put,List.setIfInBounds_toArray,List.set_cons_zero,List.set_cons_succ,Yq,Yu]
                 rfl
               refine Js (i:=5) (N:=some 18) (v:=?_) (a':=?_) #[true,true,true,true,true,true,false,false,false,false] rfl rfl (Y0 HT_.out Zk) (fun _ _ _ h=>h) (Or.inl ⟨by rfl,?_⟩) ?_ ?_
               rotate_left
               · intro w'
                 go_simp
                 with_reducible rfl
               rotate_left
               · simp only [Act.put,List.setIfInBounds_toArray,List.set_cons_zero,List.set_cons_succ,Yq,Yu]
                 rfl
               refine Js (i:=6) (N:=some 19) (v:=?_) (a':=?_) #[true,true,true,true,true,true,true,false,false,false] rfl rfl (Y0 HT_.out Zk) (fun _ _ _ h=>h) (Or.inl ⟨by rfl,?_⟩) ?_ ?_
               rotate_left
               · intro w'
                 go_simp
                 with_reducible rfl
               rotate_left
               · simp only [Act.put,List.setIfInBounds_toArray,List.set_cons_zero,List.set_cons_succ,Yq,Yu]
                 rfl
               refine one_ (i:=7) (N:=some 5) #[true,true,true,true,true,true,true,true,false,false] rfl rfl (qu HT_.out Zk) Zd (fun K hK=>?_)
               refine ydn ?hg (N:=5) ?hd (cs:=#[.string (⟨#[]⟩:ByteArray),.string (⟨#[]⟩:ByteArray),.slice none 0 0]) (t:=53) ?hr ?_;(case hd=>rfl);(case hg=>rfl);(case hr=>first|(go_simp;done)|(go_simp;rfl))
               intro gb320 hg w15 hbox hb
               have n0_:=yc.mk (Kd.Jy (Kd.yan (Zn HO313.out) gb320 (Nat.le_of_eq hg.symm)) hb)
               have n1_:=yc.mk (Kd.YO (Kd.Jj (Zv HO318.out) gb320 (Nat.le_of_eq hg.symm)) hb)
               have n2_:=yc.mk (yE (g:=gb310) (o:=.cells #[.string ((yo l0 x9_1).f0),.slice A309_1 ((yo l0 x9_1).f1).length c309_1,.slice A309_2 ((yo l0 x9_1).f2).length c309_2] 56 (0,0)) (Zb BK310.out) hb)
               have n3_:=yc.mk (yy (Zg GE310.out) hb)
               have n4_:=yc.mk (hbox)
               have n5_:=yc.mk ((by rw [hg];exact (yt (Zg GE310.out)):w.heap.size≤gb320))
               have n6_:=yc.mk ((by rw [hg];exact (yt (Zg GE310.out)):w.heap.size≤gb320))
               have n7_:=yc.mk ((by rw [hg];exact Nat.ne_of_lt (Yy (g:=gb310) (o:=.cells #[.string ((yo l0 x9_1).f0),.slice A309_1 ((yo l0 x9_1).f1).length c309_1,.slice A309_2 ((yo l0 x9_1).f2).length c309_2] 56 (0,0)) (Zb BK310.out)):gb310≠gb320))
               have n8_:=yc.mk ((by rw [hg];exact Nat.ne_of_gt (Yy (g:=gb310) (o:=.cells #[.string ((yo l0 x9_1).f0),.slice A309_1 ((yo l0 x9_1).f1).length c309_1,.slice A309_2 ((yo l0 x9_1).f2).length c309_2] 56 (0,0)) (Zb BK310.out)):gb320≠gb310))
               clear HO313
               clear HO318
               clear BK310
               clear HB
               have HO313:=n0_
               have HO318:=n1_
               have BK310:=n2_
               have HB:=n3_
               have BK320:=n4_
               have GW320:=n5_
               have GE320:=n6_
               have NB310_320:=n7_
               have NB320_310:=n8_
               clear n0_ n1_ n2_ n3_ n4_ n5_ n6_ n7_ n8_
               clear hb hbox hg
               refine hK.out _ _ ⟨(ye BK310.out 0).trans rfl,(ye BK310.out 1).trans rfl,(ye BK310.out 2).trans rfl⟩ (fun hHeld=>?_)
               clear hK K
               refine JV (a':=?_) ?_ ?_
               rotate_left
               · show Act.put _ (some 5) _=_
                 simp only [Act.put,List.setIfInBounds_toArray,List.set_cons_zero,List.set_cons_succ,Yq,Yu]
                 rfl
               exact JV (by simp only [QJ,Act.put,List.setIfInBounds_toArray,List.set_cons_zero,List.set_cons_succ]) (hCont (.slice Ao13 t311.length co13,v317,gb320) _ ⟨hHeld,(Zn HO313.out),(Zv HO318.out),(Zb BK310.out),(Zb BK320.out),GW320.out,GE320.out,NB310_320.out,NB320_310.out,(Zg2 GE310.out GE320.out)⟩)
             · skip
               refine ydn ?hg (N:=5) ?hd (cs:=#[.string (⟨#[]⟩:ByteArray),.string (⟨#[]⟩:ByteArray),.slice none 0 0]) (t:=53) ?hr ?_;(case hd=>rfl);(case hg=>rfl);(case hr=>first|(go_simp;done)|(go_simp;rfl))
               intro gb320 hg w13 hbox hb
               have n0_:=yc.mk (Kd.Jy (Kd.yan (Zn HO313.out) gb320 (Nat.le_of_eq hg.symm)) hb)
               have n1_:=yc.mk (yE (g:=gb310) (o:=.cells #[.string ((yo l0 x9_1).f0),.slice A309_1 ((yo l0 x9_1).f1).length c309_1,.slice A309_2 ((yo l0 x9_1).f2).length c309_2] 56 (0,0)) (Zb BK310.out) hb)
               have n2_:=yc.mk (yy (Zg GE310.out) hb)
               have n3_:=yc.mk (hbox)
               have n4_:=yc.mk ((by rw [hg];exact (yt (Zg GE310.out)):w.heap.size≤gb320))
               have n5_:=yc.mk ((by rw [hg];exact (yt (Zg GE310.out)):w.heap.size≤gb320))
               have n6_:=yc.mk ((by rw [hg];exact Nat.ne_of_lt (Yy (g:=gb310) (o:=.cells #[.string ((yo l0 x9_1).f0),.slice A309_1 ((yo l0 x9_1).f1).length c309_1,.slice A309_2 ((yo l0 x9_1).f2).length c309_2] 56 (0,0)) (Zb BK310.out)):gb310≠gb320))
               have n7_:=yc.mk ((by rw [hg];exact Nat.ne_of_gt (Yy (g:=gb310) (o:=.cells #[.string ((yo l0 x9_1).f0),.slice A309_1 ((yo l0 x9_1).f1).length c309_1,.slice A309_2 ((yo l0 x9_1).f2).length c309_2] 56 (0,0)) (Zb BK310.out)):gb320≠gb310))
               clear HO313
               clear BK310
               clear HB
               have HO313:=n0_
               have BK310:=n1_
               have HB:=n2_
               have BK320:=n3_
               have GW320:=n4_
               have GE320:=n5_
               have NB310_320:=n6_
               have NB320_310:=n7_
               clear n0_ n1_ n2_ n3_ n4_ n5_ n6_ n7_
               clear hb hbox hg
               obtain ⟨Ao14,co14,eo14⟩:=Kd.yaC HO313.out
               (first|subst eo14|(injection eo14 with f1_ f2_ f3_;have f4_:=f1_.symm;have f5_:=f3_.symm;clear f1_ f2_ f3_;subst f4_;subst f5_))
               refine hK.out _ _ ⟨(ye BK310.out 0).trans rfl,(ye BK310.out 1).trans rfl,(ye BK310.out 2).trans rfl⟩ (fun hHeld=>?_)
               clear hK K
               refine JV (a':=?_) ?_ ?_
               rotate_left
               · show Act.put _ (some 5) _=_
                 simp only [Act.put,List.setIfInBounds_toArray,List.set_cons_zero,List.set_cons_succ,Yq,Yu]
                 rfl
               refine one_ (i:=3) (N:=some 17) #[true,true,true,true,false,false,false,true,false,false] rfl rfl (qu HT_.out Zk) Zd (fun K hK=>?_)
               refine yaP Tryz.func36 Zk rfl #[.slice Ao14 t311.length co14,.string ((yo l0 x9_1).f0)] (by rfl) rfl rfl (by (try simp only [List.map_toArray,List.map_cons,List.map_nil]);first|done|rfl|(simp only [List.length_drop,List.length_take];rfl)) ?_
               with_reducible refine (Ya.calls k1 (fun k_=>(k_≠gb310∧k_≠gb320)) _ _ t311 ((yo l0 x9_1).f0) t314 t315 t316 t319 _ ?side1 A6.out).mono ?_
               (case side1=>exact Kd.N_V (HO313.out))
               rintro e w15 ⟨v317,rfl,ho0,hb⟩
               refine ⟨_,rfl,?_⟩
               have n0_:=yc.mk (Kd.Jy (Zn HO313.out) hb)
               have n1_:=yc.mk (Kd.Q0 (Kd.Yj (ok':=fun k_=>k_≠gb310∧k_≠gb320) ho0 (fun k_ hk_=>⟨Or.elim hk_ (fun hs_=>hs_.1) (fun hn_=>(Kd.Jm (g:=gb310) (o:=.cells #[.string ((yo l0 x9_1).f0),.slice A309_1 ((yo l0 x9_1).f1).length c309_1,.slice A309_2 ((yo l0 x9_1).f2).length c309_2] 56 (0,0)) (Zb BK310.out) k_ hn_)),Or.elim hk_ (fun hs_=>hs_.2) (fun hn_=>(Kd.Jm (g:=gb320) (o:=.cells #[.string (⟨#[]⟩:ByteArray),.string (⟨#[]⟩:ByteArray),.slice none 0 0] 53 (0,0)) (Zb BK320.out) k_ hn_))⟩)) (yt (Zg2 GE310.out GE320.out)))
               have n2_:=yc.mk (yE (g:=gb310) (o:=.cells #[.string ((yo l0 x9_1).f0),.slice A309_1 ((yo l0 x9_1).f1).length c309_1,.slice A309_2 ((yo l0 x9_1).f2).length c309_2] 56 (0,0)) (Zb BK310.out) hb)
               have n3_:=yc.mk (yE (g:=gb320) (o:=.cells #[.string (⟨#[]⟩:ByteArray),.string (⟨#[]⟩:ByteArray),.slice none 0 0] 53 (0,0)) (Zb BK320.out) hb)
               have n4_:=yc.mk (yy (Zg2 GE310.out GE320.out) hb)
               clear HO313
               clear BK310
               clear BK320
               clear HB
               have HO313:=n0_
               have HO318:=n1_
               have BK310:=n2_
               have BK320:=n3_
               have HB:=n4_
               clear n0_ n1_ n2_ n3_ n4_
               (try clear hb)
               (try clear hb2)
               (try clear hk)
               (try clear hi)
               (try clear ho0)
               refine hK.out _ _ ⟨(ye BK310.out 0).trans rfl,(ye BK310.out 1).trans rfl,(ye BK310.out 2).trans rfl⟩ (fun hHeld=>?_)
               clear hK K
               refine JV (a':=?_) ?_ ?_
               rotate_left
               · show Act.put _ (some 17) _=_
                 simp only [Act.put,List.setIfInBounds_toArray,List.set_cons_zero,List.set_cons_succ,Yq,Yu]
                 rfl
               refine Js (i:=4) (N:=some 13) (v:=?_) (a':=?_) #[true,true,true,true,true,false,false,true,false,false] rfl rfl (Y0 HT_.out Zk) (fun _ _ _ h=>h) (Or.inl ⟨by rfl,?_⟩) ?_ ?_
               rotate_left
               · intro w'
                 go_simp
                 with_reducible rfl
               rotate_left
               · simp only [Act.put,List.setIfInBounds_toArray,List.set_cons_zero,List.set_cons_succ,Yq,Yu]
                 rfl
               refine Js (i:=5) (N:=some 18) (v:=?_) (a':=?_) #[true,true,true,true,true,true,false,true,false,false] rfl rfl (Y0 HT_.out Zk) (fun _ _ _ h=>h) (Or.inl ⟨by rfl,?_⟩) ?_ ?_
               rotate_left
               · intro w'
                 go_simp
                 with_reducible rfl
               rotate_left
               · simp only [Act.put,List.setIfInBounds_toArray,List.set_cons_zero,List.set_cons_succ,Yq,Yu]
                 rfl
               refine Js (i:=6) (N:=some 19) (v:=?_) (a':=?_) #[true,true,true,true,true,true,true,true,false,false] rfl rfl (Y0 HT_.out Zk) (fun _ _ _ h=>h) (Or.inl ⟨by rfl,?_⟩) ?_ ?_
               rotate_left
               · intro w'
                 go_simp
                 with_reducible rfl
               rotate_left
               · simp only [Act.put,List.setIfInBounds_toArray,List.set_cons_zero,List.set_cons_succ,Yq,Yu]
                 rfl
               exact JV (by simp only [QJ,Act.put,List.setIfInBounds_toArray,List.set_cons_zero,List.set_cons_succ]) (hCont (.slice Ao14 t311.length co14,v317,gb320) _ ⟨hHeld,(Zn HO313.out),(Zv HO318.out),(Zb BK310.out),(Zb BK320.out),GW320.out,GE320.out,NB310_320.out,NB320_310.out,(Zg2 GE310.out GE320.out)⟩)
           · skip
             refine ydn ?hg (N:=5) ?hd (cs:=#[.string (⟨#[]⟩:ByteArray),.string (⟨#[]⟩:ByteArray),.slice none 0 0]) (t:=53) ?hr ?_;(case hd=>rfl);(case hg=>rfl);(case hr=>first|(go_simp;done)|(go_simp;rfl))
             intro gb320 hg w12 hbox hb
             have n0_:=yc.mk (yE (g:=gb310) (o:=.cells #[.string ((yo l0 x9_1).f0),.slice A309_1 ((yo l0 x9_1).f1).length c309_1,.slice A309_2 ((yo l0 x9_1).f2).length c309_2] 56 (0,0)) (Zb BK310.out) hb)
             have n1_:=yc.mk (yy (Zg GE310.out) hb)
             have n2_:=yc.mk (hbox)
             have n3_:=yc.mk ((by rw [hg];exact (yt (Zg GE310.out)):w.heap.size≤gb320))
             have n4_:=yc.mk ((by rw [hg];exact (yt (Zg GE310.out)):w.heap.size≤gb320))
             have n5_:=yc.mk ((by rw [hg];exact Nat.ne_of_lt (Yy (g:=gb310) (o:=.cells #[.string ((yo l0 x9_1).f0),.slice A309_1 ((yo l0 x9_1).f1).length c309_1,.slice A309_2 ((yo l0 x9_1).f2).length c309_2] 56 (0,0)) (Zb BK310.out)):gb310≠gb320))
             have n6_:=yc.mk ((by rw [hg];exact Nat.ne_of_gt (Yy (g:=gb310) (o:=.cells #[.string ((yo l0 x9_1).f0),.slice A309_1 ((yo l0 x9_1).f1).length c309_1,.slice A309_2 ((yo l0 x9_1).f2).length c309_2] 56 (0,0)) (Zb BK310.out)):gb320≠gb310))
             clear BK310
             clear HB
             have BK310:=n0_
             have HB:=n1_
             have BK320:=n2_
             have GW320:=n3_
             have GE320:=n4_
             have NB310_320:=n5_
             have NB320_310:=n6_
             clear n0_ n1_ n2_ n3_ n4_ n5_ n6_
             clear hb hbox hg
             refine hK.out _ _ ⟨(ye BK310.out 0).trans rfl,(ye BK310.out 1).trans rfl,(ye BK310.out 2).trans rfl⟩ (fun hHeld=>?_)
             clear hK K
             refine JV (a':=?_) ?_ ?_
             rotate_left
             · show Act.put _ (some 5) _=_
               simp only [Act.put,List.setIfInBounds_toArray,List.set_cons_zero,List.set_cons_succ,Yq,Yu]
               rfl
             refine one_ (i:=0) (N:=some 14) #[true,true,true,false,false,false,false,true,false,false] rfl rfl (qu HT_.out Zk) Zd (fun K hK=>?_)
             refine yaP Tryz.func17 Zk rfl #[] (by rfl) rfl rfl (by (try simp only [List.map_toArray,List.map_cons,List.map_nil]);first|done|rfl|(simp only [List.length_drop,List.length_take];rfl)) ?_
             with_reducible refine (Y6.calls  t311 _ A5.out).mono ?_
             rintro e w13 ⟨v312,rfl,ho0,hb⟩
             refine ⟨_,rfl,?_⟩
             have n0_:=yc.mk (Kd.ybJ (Kd.Jf (ok':=fun k_=>k_≠gb310∧k_≠gb320) ho0 (fun k_ hk_=>⟨(Kd.Jm (g:=gb310) (o:=.cells #[.string ((yo l0 x9_1).f0),.slice A309_1 ((yo l0 x9_1).f1).length c309_1,.slice A309_2 ((yo l0 x9_1).f2).length c309_2] 56 (0,0)) (Zb BK310.out) k_ hk_),(Kd.Jm (g:=gb320) (o:=.cells #[.string (⟨#[]⟩:ByteArray),.string (⟨#[]⟩:ByteArray),.slice none 0 0] 53 (0,0)) (Zb BK320.out) k_ hk_)⟩)) (yt (Zg2 GE310.out GE320.out)))
             have n1_:=yc.mk (yE (g:=gb310) (o:=.cells #[.string ((yo l0 x9_1).f0),.slice A309_1 ((yo l0 x9_1).f1).length c309_1,.slice A309_2 ((yo l0 x9_1).f2).length c309_2] 56 (0,0)) (Zb BK310.out) hb)
             have n2_:=yc.mk (yE (g:=gb320) (o:=.cells #[.string (⟨#[]⟩:ByteArray),.string (⟨#[]⟩:ByteArray),.slice none 0 0] 53 (0,0)) (Zb BK320.out) hb)
             have n3_:=yc.mk (yy (Zg2 GE310.out GE320.out) hb)
             clear BK310
             clear BK320
             clear HB
             have HO313:=n0_
             have BK310:=n1_
             have BK320:=n2_
             have HB:=n3_
             clear n0_ n1_ n2_ n3_
             (try clear hb)
             (try clear hb2)
             (try clear hk)
             (try clear hi)
             (try clear ho0)
             obtain ⟨Ao14,co14,eo14⟩:=Kd.yaC HO313.out
             (first|subst eo14|(injection eo14 with f1_ f2_ f3_;have f4_:=f1_.symm;have f5_:=f3_.symm;clear f1_ f2_ f3_;subst f4_;subst f5_))
             refine hK.out _ _ ⟨(ye BK310.out 0).trans rfl,(ye BK310.out 1).trans rfl,(ye BK310.out 2).trans rfl⟩ (fun hHeld=>?_)
             clear hK K
             refine JV (a':=?_) ?_ ?_
             rotate_left
             · show Act.put _ (some 14) _=_
               simp only [Act.put,List.setIfInBounds_toArray,List.set_cons_zero,List.set_cons_succ,Yq,Yu]
               rfl
             refine one_ (i:=3) (N:=some 17) #[true,true,true,true,false,false,false,true,false,false] rfl rfl (qu HT_.out Zk) Zd (fun K hK=>?_)
             refine yaP Tryz.func36 Zk rfl #[.slice Ao14 t311.length co14,.string ((yo l0 x9_1).f0)] (by rfl) rfl rfl (by (try simp only [List.map_toArray,List.map_cons,List.map_nil]);first|done|rfl|(simp only [List.length_drop,List.length_take];rfl)) ?_
             with_reducible refine (Ya.calls k1 (fun k_=>(k_≠gb310∧k_≠gb320)) _ _ t311 ((yo l0 x9_1).f0) t314 t315 t316 t319 _ ?side1 A6.out).mono ?_
             (case side1=>exact Kd.N_V (HO313.out))
             rintro e w15 ⟨v317,rfl,ho0,hb⟩
             refine ⟨_,rfl,?_⟩
             have n0_:=yc.mk (Kd.Jy (Zn HO313.out) hb)
             have n1_:=yc.mk (Kd.Q0 (Kd.Yj (ok':=fun k_=>k_≠gb310∧k_≠gb320) ho0 (fun k_ hk_=>⟨Or.elim hk_ (fun hs_=>hs_.1) (fun hn_=>(Kd.Jm (g:=gb310) (o:=.cells #[.string ((yo l0 x9_1).f0),.slice A309_1 ((yo l0 x9_1).f1).length c309_1,.slice A309_2 ((yo l0 x9_1).f2).length c309_2] 56 (0,0)) (Zb BK310.out) k_ hn_)),Or.elim hk_ (fun hs_=>hs_.2) (fun hn_=>(Kd.Jm (g:=gb320) (o:=.cells #[.string (⟨#[]⟩:ByteArray),.string (⟨#[]⟩:ByteArray),.slice none 0 0] 53 (0,0)) (Zb BK320.out) k_ hn_))⟩)) (yt (Zg2 GE310.out GE320.out)))
             have n2_:=yc.mk (yE (g:=gb310) (o:=.cells #[.string ((yo l0 x9_1).f0),.slice A309_1 ((yo l0 x9_1).f1).length c309_1,.slice A309_2 ((yo l0 x9_1).f2).length c309_2] 56 (0,0)) (Zb BK310.out) hb)
             have n3_:=yc.mk (yE (g:=gb320) (o:=.cells #[.string (⟨#[]⟩:ByteArray),.string (⟨#[]⟩:ByteArray),.slice none 0 0] 53 (0,0)) (Zb BK320.out) hb)
             have n4_:=yc.mk (yy (Zg2 GE310.out GE320.out) hb)
             clear HO313
             clear BK310
             clear BK320
             clear HB
             have HO313:=n0_
             have HO318:=n1_
             have BK310:=n2_
             have BK320:=n3_
             have HB:=n4_
             clear n0_ n1_ n2_ n3_ n4_
             (try clear hb)
             (try clear hb2)
             (try clear hk)
             (try clear hi)
             (try clear ho0)
             refine hK.out _ _ ⟨(ye BK310.out 0).trans rfl,(ye BK310.out 1).trans rfl,(ye BK310.out 2).trans rfl⟩ (fun hHeld=>?_)
             clear hK K
             refine JV (a':=?_) ?_ ?_
             rotate_left
             · show Act.put _ (some 17) _=_
               simp only [Act.put,List.setIfInBounds_toArray,List.set_cons_zero,List.set_cons_succ,Yq,Yu]
               rfl
             refine Js (i:=4) (N:=some 13) (v:=?_) (a':=?_) #[true,true,true,true,true,false,false,true,false,false] rfl rfl (Y0 HT_.out Zk) (fun _ _ _ h=>h) (Or.inl ⟨by rfl,?_⟩) ?_ ?_
             rotate_left
             · intro w'
               go_simp
               with_reducible rfl
             rotate_left
             · simp only [Act.put,List.setIfInBounds_toArray,List.set_cons_zero,List.set_cons_succ,Yq,Yu]
               rfl
             refine Js (i:=5) (N:=some 18) (v:=?_) (a':=?_) #[true,true,true,true,true,true,false,true,false,false] rfl rfl (Y0 HT_.out Zk) (fun _ _ _ h=>h) (Or.inl ⟨by rfl,?_⟩) ?_ ?_
             rotate_left
             · intro w'
               go_simp
               with_reducible rfl
             rotate_left
             · simp only [Act.put,List.setIfInBounds_toArray,List.set_cons_zero,List.set_cons_succ,Yq,Yu]
               rfl
             refine Js (i:=6) (N:=some 19) (v:=?_) (a':=?_) #[true,true,true,true,true,true,true,true,false,false] rfl rfl (Y0 HT_.out Zk) (fun _ _ _ h=>h) (Or.inl ⟨by rfl,?_⟩) ?_ ?_
             rotate_left
             · intro w'
               go_simp
               with_reducible rfl
             rotate_left
             · simp only [Act.put,List.setIfInBounds_toArray,List.set_cons_zero,List.set_cons_succ,Yq,Yu]
               rfl
             exact JV (by simp only [QJ,Act.put,List.setIfInBounds_toArray,List.set_cons_zero,List.set_cons_succ]) (hCont (.slice Ao14 t311.length co14,v317,gb320) _ ⟨hHeld,(Zn HO313.out),(Zv HO318.out),(Zb BK310.out),(Zb BK320.out),GW320.out,GE320.out,NB310_320.out,NB320_310.out,(Zg2 GE310.out GE320.out)⟩)
         rintro ⟨v312,v317,gb320⟩ w16 ⟨hS_,h0_,h1_,h2_,h3_,h4_,h5_,h6_,h7_,h8_⟩
         have n0_:yc (Kd.N k53 53 w16 w.heap.size (fun k_=>k_≠gb310∧k_≠gb320) v312 t311):=⟨h0_⟩
         have n1_:yc (Kd.V Kd.string 9 w16 w.heap.size (fun k_=>k_≠gb310∧k_≠gb320) v317 t316):=⟨h1_⟩
         have n2_:yc (w16.heap[gb310]?=some (.cells #[.string ((yo l0 x9_1).f0),.slice A309_1 ((yo l0 x9_1).f1).length c309_1,.slice A309_2 ((yo l0 x9_1).f2).length c309_2] 56 (0,0))):=⟨h2_⟩
         have n3_:yc (w16.heap[gb320]?=some (.cells #[.string (⟨#[]⟩:ByteArray),.string (⟨#[]⟩:ByteArray),.slice none 0 0] 53 (0,0))):=⟨h3_⟩
         have n4_:yc (w.heap.size≤gb320):=⟨h4_⟩
         have n5_:yc (w.heap.size≤gb320):=⟨h5_⟩
         have n6_:yc (gb310≠gb320):=⟨h6_⟩
         have n7_:yc (gb320≠gb310):=⟨h7_⟩
         have n8_:yc (Below w.heap.size w w16):=⟨h8_⟩
         clear BK310
         clear HB
         clear h0_ h1_ h2_ h3_ h4_ h5_ h6_ h7_ h8_
         have HO313:=n0_
         have HO318:=n1_
         have BK310:=n2_
         have BK320:=n3_
         have GW320:=n4_
         have GE320:=n5_
         have NB310_320:=n6_
         have NB320_310:=n7_
         have HB:=n8_
         clear n0_ n1_ n2_ n3_ n4_ n5_ n6_ n7_ n8_
         have hHeld:w16.cell? ⟨gb310,0,none⟩=some (.string ((yo l0 x9_1).f0))∧w16.cell? ⟨gb310,1,none⟩=some (.slice A309_1 ((yo l0 x9_1).f1).length c309_1)∧w16.cell? ⟨gb310,2,none⟩=some (.slice A309_2 ((yo l0 x9_1).f2).length c309_2):=hS_
         obtain ⟨Ao19,co19,eo19⟩:=Kd.ybi HO318.out
         (first|subst eo19|(injection eo19 with f1_ f2_ f3_;have f4_:=f1_.symm;have f5_:=f3_.symm;clear f1_ f2_ f3_;subst f4_;subst f5_))
         refine JV (a':=?_) ?_ ?_
         rotate_left
         · simp only [QJ,Act.put,List.setIfInBounds_toArray,List.set_cons_zero,List.set_cons_succ]
           rfl
         refine one_ (i:=8) (N:=none) #[true,true,true,true,true,true,true,true,true,false] rfl rfl (qu HT_.out Zk) Zd (fun K hK=>?_)
         have hs17:w16.cell? ⟨gb320,0,none⟩=some (.string (⟨#[]⟩:ByteArray)):=(ye BK320.out 0).trans rfl
         have hfs17:=yg BK320.out 0
         have hns17_0:=NB310_320.out
         have hms17_0:=NB320_310.out
         have hs18:w16.cell? ⟨gb320,1,none⟩=some (.string (⟨#[]⟩:ByteArray)):=(ye BK320.out 1).trans rfl
         have hfs18:=yg BK320.out 1
         have hns18_0:=NB310_320.out
         have hms18_0:=NB320_310.out
         have hs20:w16.cell? ⟨gb320,2,none⟩=some (.slice none 0 0):=(ye BK320.out 2).trans rfl
         have hfs20:=yg BK320.out 2
         have hns20_0:=NB310_320.out
         have hms20_0:=NB320_310.out
         refine skip_ (w1:=?_) (by rfl) rfl ?_ ?_
         rotate_left
         · go_simp
           rfl
         refine hK.out _ _ ⟨((cell_far (p:=⟨gb320,_,none⟩) NB310_320.out _).trans (((cell_far (p:=⟨gb320,_,none⟩) NB310_320.out _).trans (((cell_far (p:=⟨gb320,_,none⟩) NB310_320.out _).trans (hHeld.1)))))),((cell_far (p:=⟨gb320,_,none⟩) NB310_320.out _).trans (((cell_far (p:=⟨gb320,_,none⟩) NB310_320.out _).trans (((cell_far (p:=⟨gb320,_,none⟩) NB310_320.out _).trans (hHeld.2.1)))))),((cell_far (p:=⟨gb320,_,none⟩) NB310_320.out _).trans (((cell_far (p:=⟨gb320,_,none⟩) NB310_320.out _).trans (((cell_far (p:=⟨gb320,_,none⟩) NB310_320.out _).trans (hHeld.2.2))))))⟩ (fun hHeld=>?_)
         clear hK K
         refine Js (i:=9) (N:=some 6) (v:=?_) (a':=?_) #[true,true,true,true,true,true,true,true,true,true] rfl rfl (Y0 HT_.out Zk) (fun _ _ _ h=>h) (Or.inl ⟨by rfl,?_⟩) ?_ ?_
         rotate_left
         · intro w'
           go_simp
           with_reducible rfl
         rotate_left
         · simp only [Act.put,List.setIfInBounds_toArray,List.set_cons_zero,List.set_cons_succ,Yq,Yu]
           rfl
         refine done_ (ybP HT_.out Zk) ?_
         go_upto_region 5 with (fail)
         go_cut [50] (fun v50 wc=>∃ (kq:Nat) (x50_6:Bool),v50=.bool x50_6∧yc (yp.j1 kq l0 l0 (l0.length:Int) x9_1 x50_6=some r)∧yc (kq≤k1)∧yc (Kd.V Kd.string 9 wc w.heap.size (fun k_=>k_≠gb310∧k_≠gb320) (.slice Ao19 t316.length co19) t316)∧yc (wc.heap[gb310]?=some (.cells #[.string ((yo l0 x9_1).f0),(.slice A309_1 ((yo l0 x9_1).f1).length c309_1),(.slice A309_2 ((yo l0 x9_1).f2).length c309_2)] 56 (0,0)))∧yc (wc.heap[gb320]?=some (.cells #[.string t314,.string t315,(.slice Ao19 t316.length co19)] 53 (0,0)))∧yc (Below w.heap.size w wc))
         case first=>
          have H:=HC7.out
          clear HC7
          by_cases c21:t319=true
          · subst c21
            have H1:(if ((yo l0 x9_1).f0).toList=([103,99]:List UInt8) then (yp.j1 k1 l0 l0 (l0.length:Int) x9_1 true) else ((Jd.f ((yo l0 x9_1).f0) ((yo l0 x9_1).f1) ((yo l0 x9_1).f2) (t316.length:Int) 0).bind fun t321=>(if t321=true then (if ((yo l0 x9_1).f0).toList=([120,112,99]:List UInt8) then (yp.j1 k1 l0 l0 (l0.length:Int) x9_1 false) else (if ((yo l0 x9_1).f0).toList=([100,101,102,101,114,95,114,101,108,111,103]:List UInt8) then (yp.j1 k1 l0 l0 (l0.length:Int) x9_1 false) else ((Yf.f k1 4294967296 ((yo l0 x9_1).f1)).bind fun t322=>(yp.j1 k1 l0 l0 (l0.length:Int) x9_1 (!t322))))) else (yp.j1 k1 l0 l0 (l0.length:Int) x9_1 true))))=some r:=by rw [if_pos rfl] at H;exact H
            clear H
            have H:=H1
            clear H1
            by_cases c22:((yo l0 x9_1).f0).toList=([103,99]:List UInt8)
            · rw [if_pos c22] at H
              have c22b0:(((yo l0 x9_1).f0).toList == ([103,99]:List UInt8))=true:=beq_iff_eq.mpr c22
              have c22b1:(((yo l0 x9_1).f0).toList != ([103,99]:List UInt8))=false:=bne_eq_false_iff_eq.mpr c22
              clear c22
              (first|rw [c22b0]|(simp only [Yq,Yu];rw [c22b0])|skip)
              have H':=yc.mk H
              clear H
              have hnb23:=NB310_320.out
              have hnc23:=NB320_310.out
              have hcz24_0:w16.cell? ⟨gb310,0,none⟩=some (.string ((yo l0 x9_1).f0)):=(ye BK310.out 0).trans rfl
              have hcz24_1:w16.cell? ⟨gb310,1,none⟩=some (.slice A309_1 ((yo l0 x9_1).f1).length c309_1):=(ye BK310.out 1).trans rfl
              have hcz24_2:w16.cell? ⟨gb310,2,none⟩=some (.slice A309_2 ((yo l0 x9_1).f2).length c309_2):=(ye BK310.out 2).trans rfl
              have hfz24_0:=yg BK310.out 0
              have hfz24_1:=yg BK310.out 1
              have hfz24_2:=yg BK310.out 2
              go_wp2
              go_meet
              case rel=>exact ⟨_,(true),(by first|rfl|(simp;done)|(simp [*];done)|(simp [yx];done)),H',⟨by have:=HK1.out;first|omega|exact Nat.le_refl _⟩,⟨by refine Zv ?_;exact Kd.Yj (Kd.Yk (p:=⟨gb320,2,none⟩) (Kd.Yk (p:=⟨gb320,1,none⟩) (Kd.Yk (p:=⟨gb320,0,none⟩) (Kd.Yj HO318.out (fun k_ hk=>(⟨hk,hk.2⟩:_∧k_≠gb320))) (fun _ hk=>hk.2) (.string t314)) (fun _ hk=>hk.2) (.string t315)) (fun _ hk=>hk.2) (.slice Ao19 t316.length co19)) (fun _ hk=>⟨hk.1.1,hk.1.2⟩)⟩,⟨by refine Zb ?_;refine yI ?_ NB310_320.out _;refine Zb ?_;refine yI ?_ NB310_320.out _;refine Zb ?_;refine yI ?_ NB310_320.out _;refine Zb ?_;exact BK310.out⟩,⟨by refine Zb ?_;refine yA (cs:=#[.string t314,.string t315,.slice none 0 0]) ?_ 2 _ rfl;refine Zb ?_;refine yA (cs:=#[.string t314,.string (⟨#[]⟩:ByteArray),.slice none 0 0]) ?_ 1 _ rfl;refine Zb ?_;refine yA (cs:=#[.string (⟨#[]⟩:ByteArray),.string (⟨#[]⟩:ByteArray),.slice none 0 0]) ?_ 0 _ rfl;refine Zb ?_;exact BK320.out⟩,⟨by repeat (first|(with_reducible first|exact HB.out|apply ym|apply yn|apply yu|refine yw ?_ GE310.out|refine yw ?_ GE320.out)|exact HB.out)⟩⟩
            · rw [if_neg c22] at H
              have c22b0:(((yo l0 x9_1).f0).toList == ([103,99]:List UInt8))=false:=beq_eq_false_iff_ne.mpr c22
              have c22b1:(((yo l0 x9_1).f0).toList != ([103,99]:List UInt8))=true:=bne_iff_ne.mpr c22
              (first|rw [c22b0]|(simp only [Yq,Yu];rw [c22b0])|skip)
              replace H:=Option.bind_eq_some_iff.mp H
              obtain ⟨t321,A250,H⟩:=H
              replace H:(if t321=true then (if ((yo l0 x9_1).f0).toList=([120,112,99]:List UInt8) then (yp.j1 k1 l0 l0 (l0.length:Int) x9_1 false) else (if ((yo l0 x9_1).f0).toList=([100,101,102,101,114,95,114,101,108,111,103]:List UInt8) then (yp.j1 k1 l0 l0 (l0.length:Int) x9_1 false) else ((Yf.f k1 4294967296 ((yo l0 x9_1).f1)).bind fun t322=>(yp.j1 k1 l0 l0 (l0.length:Int) x9_1 (!t322))))) else (yp.j1 k1 l0 l0 (l0.length:Int) x9_1 true))=some r:=H
              have A25:=yc.mk A250
              clear A250
              by_cases c26:t321=true
              · subst c26
                have H1:(if ((yo l0 x9_1).f0).toList=([120,112,99]:List UInt8) then (yp.j1 k1 l0 l0 (l0.length:Int) x9_1 false) else (if ((yo l0 x9_1).f0).toList=([100,101,102,101,114,95,114,101,108,111,103]:List UInt8) then (yp.j1 k1 l0 l0 (l0.length:Int) x9_1 false) else ((Yf.f k1 4294967296 ((yo l0 x9_1).f1)).bind fun t322=>(yp.j1 k1 l0 l0 (l0.length:Int) x9_1 (!t322)))))=some r:=by rw [if_pos rfl] at H;exact H
                clear H
                have H:=H1
                clear H1
                by_cases c27:((yo l0 x9_1).f0).toList=([120,112,99]:List UInt8)
                · rw [if_pos c27] at H
                  have c27b0:(((yo l0 x9_1).f0).toList == ([120,112,99]:List UInt8))=true:=beq_iff_eq.mpr c27
                  have c27b1:(((yo l0 x9_1).f0).toList != ([120,112,99]:List UInt8))=false:=bne_eq_false_iff_eq.mpr c27
                  clear c27
                  have H':=yc.mk H
                  clear H
                  have hnb28:=NB310_320.out
                  have hnc28:=NB320_310.out
                  have hcz29_0:w16.cell? ⟨gb310,0,none⟩=some (.string ((yo l0 x9_1).f0)):=(ye BK310.out 0).trans rfl
                  have hcz29_1:w16.cell? ⟨gb310,1,none⟩=some (.slice A309_1 ((yo l0 x9_1).f1).length c309_1):=(ye BK310.out 1).trans rfl
                  have hcz29_2:w16.cell? ⟨gb310,2,none⟩=some (.slice A309_2 ((yo l0 x9_1).f2).length c309_2):=(ye BK310.out 2).trans rfl
                  have hfz29_0:=yg BK310.out 0
                  have hfz29_1:=yg BK310.out 1
                  have hfz29_2:=yg BK310.out 2
                  have hcz30_0:w16.cell? ⟨gb320,0,none⟩=some (.string (⟨#[]⟩:ByteArray)):=(ye BK320.out 0).trans rfl
                  have hcz30_1:w16.cell? ⟨gb320,1,none⟩=some (.string (⟨#[]⟩:ByteArray)):=(ye BK320.out 1).trans rfl
                  have hcz30_2:w16.cell? ⟨gb320,2,none⟩=some (.slice none 0 0):=(ye BK320.out 2).trans rfl
                  have hfz30_0:=yg BK320.out 0
                  have hfz30_1:=yg BK320.out 1
                  have hfz30_2:=yg BK320.out 2
                  go_wp2_with (first|(go_at_call 37;(with_reducible refine (Jd.calls ((yo l0 x9_1).f0) _ _ ((yo l0 x9_1).f1) _ _ ((yo l0 x9_1).f2) (t316.length:Int) 0 true _ ?side1 ?side2 ?side3 ?side4 A25.out).mono ?_);(case side1=>exact Kd.YS HR309_1.out (Zg2 GE310.out GE320.out));(case side2=>exact HC309_1.out);(case side3=>exact Kd.YS HR309_2.out (Zg2 GE310.out GE320.out));(case side4=>exact HC309_2.out);rintro e w31 ⟨rfl,hb⟩;have n0_:=yc.mk (Kd.Jy (by refine Zn ?_;exact (Kd.Jf (Kd.JW (p:=⟨gb320,2,none⟩) (Kd.JW (p:=⟨gb320,1,none⟩) (Kd.JW (p:=⟨gb320,0,none⟩) (Kd.Jf HO313.out (fun k_ hk=>(⟨hk,hk.2⟩:_∧k_≠gb320))) (fun _ hk=>hk.2) (.string t314)) (fun _ hk=>hk.2) (.string t315)) (fun _ hk=>hk.2) (.slice Ao19 t316.length co19)) (fun _ h_=>h_.1))) hb);have n1_:=yc.mk (Kd.YO (by refine Zv ?_;exact (Kd.Yj (Kd.Yk (p:=⟨gb320,2,none⟩) (Kd.Yk (p:=⟨gb320,1,none⟩) (Kd.Yk (p:=⟨gb320,0,none⟩) (Kd.Yj HO318.out (fun k_ hk=>(⟨hk,hk.2⟩:_∧k_≠gb320))) (fun _ hk=>hk.2) (.string t314)) (fun _ hk=>hk.2) (.string t315)) (fun _ hk=>hk.2) (.slice Ao19 t316.length co19)) (fun _ h_=>h_.1))) hb);have n2_:=yc.mk (yE (g:=gb310) (o:=.cells #[.string ((yo l0 x9_1).f0),.slice A309_1 ((yo l0 x9_1).f1).length c309_1,.slice A309_2 ((yo l0 x9_1).f2).length c309_2] 56 (0,0)) (by refine Zb ?_;refine yI ?_ NB310_320.out _;refine Zb ?_;refine yI ?_ NB310_320.out _;refine Zb ?_;refine yI ?_ NB310_320.out _;refine Zb ?_;exact BK310.out) hb);have n3_:=yc.mk (yE (g:=gb320) (o:=.cells #[.string t314,.string t315,.slice Ao19 t316.length co19] 53 (0,0)) (by refine Zb ?_;refine yA (cs:=#[.string t314,.string t315,.slice none 0 0]) ?_ 2 _ rfl;refine Zb ?_;refine yA (cs:=#[.string t314,.string (⟨#[]⟩:ByteArray),.slice none 0 0]) ?_ 1 _ rfl;refine Zb ?_;refine yA (cs:=#[.string (⟨#[]⟩:ByteArray),.string (⟨#[]⟩:ByteArray),.slice none 0 0]) ?_ 0 _ rfl;refine Zb ?_;exact BK320.out) hb);have n4_:=yc.mk (yy (Zg2 GE310.out GE320.out) hb);clear HO313 HO318 BK310 BK320 HB;have HO313:=n0_;have HO318:=n1_;have BK310:=n2_;have BK320:=n3_;have HB:=n4_;clear n0_ n1_ n2_ n3_ n4_;(try clear hb);(try clear hb2);(try clear hk);(try clear hi);have hcz32_0:w31.cell? ⟨gb310,0,none⟩=some (.string ((yo l0 x9_1).f0)):=(ye BK310.out 0).trans rfl;have hcz32_1:w31.cell? ⟨gb310,1,none⟩=some (.slice A309_1 ((yo l0 x9_1).f1).length c309_1):=(ye BK310.out 1).trans rfl;have hcz32_2:w31.cell? ⟨gb310,2,none⟩=some (.slice A309_2 ((yo l0 x9_1).f2).length c309_2):=(ye BK310.out 2).trans rfl;have hfz32_0:=yg BK310.out 0;have hfz32_1:=yg BK310.out 1;have hfz32_2:=yg BK310.out 2))
                  go_meet
                  case rel=>exact ⟨_,(false),(by first|rfl|(simp;done)|(simp [*];done)|(simp [yx];done)),H',⟨by have:=HK1.out;first|omega|exact Nat.le_refl _⟩,⟨by refine Zv ?_;exact HO318.out⟩,⟨by refine Zb ?_;exact BK310.out⟩,⟨by refine Zb ?_;exact BK320.out⟩,⟨by repeat (first|(with_reducible first|exact HB.out|apply ym|apply yn|apply yu|refine yw ?_ GE310.out|refine yw ?_ GE320.out)|exact HB.out)⟩⟩
                · rw [if_neg c27] at H
                  have c27b0:(((yo l0 x9_1).f0).toList == ([120,112,99]:List UInt8))=false:=beq_eq_false_iff_ne.mpr c27
                  have c27b1:(((yo l0 x9_1).f0).toList != ([120,112,99]:List UInt8))=true:=bne_iff_ne.mpr c27
                  by_cases c33:((yo l0 x9_1).f0).toList=([100,101,102,101,114,95,114,101,108,111,103]:List UInt8)
                  · rw [if_pos c33] at H
                    have c33b0:(((yo l0 x9_1).f0).toList == ([100,101,102,101,114,95,114,101,108,111,103]:List UInt8))=true:=beq_iff_eq.mpr c33
                    have c33b1:(((yo l0 x9_1).f0).toList != ([100,101,102,101,114,95,114,101,108,111,103]:List UInt8))=false:=bne_eq_false_iff_eq.mpr c33
                    clear c33
                    have H':=yc.mk H
                    clear H
                    have hnb34:=NB310_320.out
                    have hnc34:=NB320_310.out
                    have hcz35_0:w16.cell? ⟨gb310,0,none⟩=some (.string ((yo l0 x9_1).f0)):=(ye BK310.out 0).trans rfl
                    have hcz35_1:w16.cell? ⟨gb310,1,none⟩=some (.slice A309_1 ((yo l0 x9_1).f1).length c309_1):=(ye BK310.out 1).trans rfl
                    have hcz35_2:w16.cell? ⟨gb310,2,none⟩=some (.slice A309_2 ((yo l0 x9_1).f2).length c309_2):=(ye BK310.out 2).trans rfl
                    have hfz35_0:=yg BK310.out 0
                    have hfz35_1:=yg BK310.out 1
                    have hfz35_2:=yg BK310.out 2
                    have hcz36_0:w16.cell? ⟨gb320,0,none⟩=some (.string (⟨#[]⟩:ByteArray)):=(ye BK320.out 0).trans rfl
                    have hcz36_1:w16.cell? ⟨gb320,1,none⟩=some (.string (⟨#[]⟩:ByteArray)):=(ye BK320.out 1).trans rfl
                    have hcz36_2:w16.cell? ⟨gb320,2,none⟩=some (.slice none 0 0):=(ye BK320.out 2).trans rfl
                    have hfz36_0:=yg BK320.out 0
                    have hfz36_1:=yg BK320.out 1
                    have hfz36_2:=yg BK320.out 2
                    go_wp2_with (first|(go_at_call 37;(with_reducible refine (Jd.calls ((yo l0 x9_1).f0) _ _ ((yo l0 x9_1).f1) _ _ ((yo l0 x9_1).f2) (t316.length:Int) 0 true _ ?side1 ?side2 ?side3 ?side4 A25.out).mono ?_);(case side1=>exact Kd.YS HR309_1.out (Zg2 GE310.out GE320.out));(case side2=>exact HC309_1.out);(case side3=>exact Kd.YS HR309_2.out (Zg2 GE310.out GE320.out));(case side4=>exact HC309_2.out);rintro e w37 ⟨rfl,hb⟩;have n0_:=yc.mk (Kd.Jy (by refine Zn ?_;exact (Kd.Jf (Kd.JW (p:=⟨gb320,2,none⟩) (Kd.JW (p:=⟨gb320,1,none⟩) (Kd.JW (p:=⟨gb320,0,none⟩) (Kd.Jf HO313.out (fun k_ hk=>(⟨hk,hk.2⟩:_∧k_≠gb320))) (fun _ hk=>hk.2) (.string t314)) (fun _ hk=>hk.2) (.string t315)) (fun _ hk=>hk.2) (.slice Ao19 t316.length co19)) (fun _ h_=>h_.1))) hb);have n1_:=yc.mk (Kd.YO (by refine Zv ?_;exact (Kd.Yj (Kd.Yk (p:=⟨gb320,2,none⟩) (Kd.Yk (p:=⟨gb320,1,none⟩) (Kd.Yk (p:=⟨gb320,0,none⟩) (Kd.Yj HO318.out (fun k_ hk=>(⟨hk,hk.2⟩:_∧k_≠gb320))) (fun _ hk=>hk.2) (.string t314)) (fun _ hk=>hk.2) (.string t315)) (fun _ hk=>hk.2) (.slice Ao19 t316.length co19)) (fun _ h_=>h_.1))) hb);have n2_:=yc.mk (yE (g:=gb310) (o:=.cells #[.string ((yo l0 x9_1).f0),.slice A309_1 ((yo l0 x9_1).f1).length c309_1,.slice A309_2 ((yo l0 x9_1).f2).length c309_2] 56 (0,0)) (by refine Zb ?_;refine yI ?_ NB310_320.out _;refine Zb ?_;refine yI ?_ NB310_320.out _;refine Zb ?_;refine yI ?_ NB310_320.out _;refine Zb ?_;exact BK310.out) hb);have n3_:=yc.mk (yE (g:=gb320) (o:=.cells #[.string t314,.string t315,.slice Ao19 t316.length co19] 53 (0,0)) (by refine Zb ?_;refine yA (cs:=#[.string t314,.string t315,.slice none 0 0]) ?_ 2 _ rfl;refine Zb ?_;refine yA (cs:=#[.string t314,.string (⟨#[]⟩:ByteArray),.slice none 0 0]) ?_ 1 _ rfl;refine Zb ?_;refine yA (cs:=#[.string (⟨#[]⟩:ByteArray),.string (⟨#[]⟩:ByteArray),.slice none 0 0]) ?_ 0 _ rfl;refine Zb ?_;exact BK320.out) hb);have n4_:=yc.mk (yy (Zg2 GE310.out GE320.out) hb);clear HO313 HO318 BK310 BK320 HB;have HO313:=n0_;have HO318:=n1_;have BK310:=n2_;have BK320:=n3_;have HB:=n4_;clear n0_ n1_ n2_ n3_ n4_;(try clear hb);(try clear hb2);(try clear hk);(try clear hi);have hcz38_0:w37.cell? ⟨gb310,0,none⟩=some (.string ((yo l0 x9_1).f0)):=(ye BK310.out 0).trans rfl;have hcz38_1:w37.cell? ⟨gb310,1,none⟩=some (.slice A309_1 ((yo l0 x9_1).f1).length c309_1):=(ye BK310.out 1).trans rfl;have hcz38_2:w37.cell? ⟨gb310,2,none⟩=some (.slice A309_2 ((yo l0 x9_1).f2).length c309_2):=(ye BK310.out 2).trans rfl;have hfz38_0:=yg BK310.out 0;have hfz38_1:=yg BK310.out 1;have hfz38_2:=yg BK310.out 2))
                    go_meet
                    case rel=>exact ⟨_,(false),(by first|rfl|(simp;done)|(simp [*];done)|(simp [yx];done)),H',⟨by have:=HK1.out;first|omega|exact Nat.le_refl _⟩,⟨by refine Zv ?_;exact HO318.out⟩,⟨by refine Zb ?_;exact BK310.out⟩,⟨by refine Zb ?_;exact BK320.out⟩,⟨by repeat (first|(with_reducible first|exact HB.out|apply ym|apply yn|apply yu|refine yw ?_ GE310.out|refine yw ?_ GE320.out)|exact HB.out)⟩⟩
                  · rw [if_neg c33] at H
                    have c33b0:(((yo l0 x9_1).f0).toList == ([100,101,102,101,114,95,114,101,108,111,103]:List UInt8))=false:=beq_eq_false_iff_ne.mpr c33
                    have c33b1:(((yo l0 x9_1).f0).toList != ([100,101,102,101,114,95,114,101,108,111,103]:List UInt8))=true:=bne_iff_ne.mpr c33
                    replace H:=Option.bind_eq_some_iff.mp H
                    obtain ⟨t322,A390,H⟩:=H
                    replace H:(yp.j1 k1 l0 l0 (l0.length:Int) x9_1 (!t322))=some r:=H
                    have A39:=yc.mk A390
                    clear A390
                    have H':=yc.mk H
                    clear H
                    have hnb40:=NB310_320.out
                    have hnc40:=NB320_310.out
                    have hcz41_0:w16.cell? ⟨gb310,0,none⟩=some (.string ((yo l0 x9_1).f0)):=(ye BK310.out 0).trans rfl
                    have hcz41_1:w16.cell? ⟨gb310,1,none⟩=some (.slice A309_1 ((yo l0 x9_1).f1).length c309_1):=(ye BK310.out 1).trans rfl
                    have hcz41_2:w16.cell? ⟨gb310,2,none⟩=some (.slice A309_2 ((yo l0 x9_1).f2).length c309_2):=(ye BK310.out 2).trans rfl
                    have hfz41_0:=yg BK310.out 0
                    have hfz41_1:=yg BK310.out 1
                    have hfz41_2:=yg BK310.out 2
                    have hcz42_0:w16.cell? ⟨gb320,0,none⟩=some (.string (⟨#[]⟩:ByteArray)):=(ye BK320.out 0).trans rfl
                    have hcz42_1:w16.cell? ⟨gb320,1,none⟩=some (.string (⟨#[]⟩:ByteArray)):=(ye BK320.out 1).trans rfl
                    have hcz42_2:w16.cell? ⟨gb320,2,none⟩=some (.slice none 0 0):=(ye BK320.out 2).trans rfl
                    have hfz42_0:=yg BK320.out 0
                    have hfz42_1:=yg BK320.out 1
                    have hfz42_2:=yg BK320.out 2
                    go_wp2_with (first|(go_at_call 37;(with_reducible refine (Jd.calls ((yo l0 x9_1).f0) _ _ ((yo l0 x9_1).f1) _ _ ((yo l0 x9_1).f2) (t316.length:Int) 0 true _ ?side1 ?side2 ?side3 ?side4 A25.out).mono ?_);(case side1=>exact Kd.YS HR309_1.out (Zg2 GE310.out GE320.out));(case side2=>exact HC309_1.out);(case side3=>exact Kd.YS HR309_2.out (Zg2 GE310.out GE320.out));(case side4=>exact HC309_2.out);rintro e w43 ⟨rfl,hb⟩;have n0_:=yc.mk (Kd.Jy (by refine Zn ?_;exact (Kd.Jf (Kd.JW (p:=⟨gb320,2,none⟩) (Kd.JW (p:=⟨gb320,1,none⟩) (Kd.JW (p:=⟨gb320,0,none⟩) (Kd.Jf HO313.out (fun k_ hk=>(⟨hk,hk.2⟩:_∧k_≠gb320))) (fun _ hk=>hk.2) (.string t314)) (fun _ hk=>hk.2) (.string t315)) (fun _ hk=>hk.2) (.slice Ao19 t316.length co19)) (fun _ h_=>h_.1))) hb);have n1_:=yc.mk (Kd.YO (by refine Zv ?_;exact (Kd.Yj (Kd.Yk (p:=⟨gb320,2,none⟩) (Kd.Yk (p:=⟨gb320,1,none⟩) (Kd.Yk (p:=⟨gb320,0,none⟩) (Kd.Yj HO318.out (fun k_ hk=>(⟨hk,hk.2⟩:_∧k_≠gb320))) (fun _ hk=>hk.2) (.string t314)) (fun _ hk=>hk.2) (.string t315)) (fun _ hk=>hk.2) (.slice Ao19 t316.length co19)) (fun _ h_=>h_.1))) hb);have n2_:=yc.mk (yE (g:=gb310) (o:=.cells #[.string ((yo l0 x9_1).f0),.slice A309_1 ((yo l0 x9_1).f1).length c309_1,.slice A309_2 ((yo l0 x9_1).f2).length c309_2] 56 (0,0)) (by refine Zb ?_;refine yI ?_ NB310_320.out _;refine Zb ?_;refine yI ?_ NB310_320.out _;refine Zb ?_;refine yI ?_ NB310_320.out _;refine Zb ?_;exact BK310.out) hb);have n3_:=yc.mk (yE (g:=gb320) (o:=.cells #[.string t314,.string t315,.slice Ao19 t316.length co19] 53 (0,0)) (by refine Zb ?_;refine yA (cs:=#[.string t314,.string t315,.slice none 0 0]) ?_ 2 _ rfl;refine Zb ?_;refine yA (cs:=#[.string t314,.string (⟨#[]⟩:ByteArray),.slice none 0 0]) ?_ 1 _ rfl;refine Zb ?_;refine yA (cs:=#[.string (⟨#[]⟩:ByteArray),.string (⟨#[]⟩:ByteArray),.slice none 0 0]) ?_ 0 _ rfl;refine Zb ?_;exact BK320.out) hb);have n4_:=yc.mk (yy (Zg2 GE310.out GE320.out) hb);clear HO313 HO318 BK310 BK320 HB;have HO313:=n0_;have HO318:=n1_;have BK310:=n2_;have BK320:=n3_;have HB:=n4_;clear n0_ n1_ n2_ n3_ n4_;(try clear hb);(try clear hb2);(try clear hk);(try clear hi);have hcz44_0:w43.cell? ⟨gb310,0,none⟩=some (.string ((yo l0 x9_1).f0)):=(ye BK310.out 0).trans rfl;have hcz44_1:w43.cell? ⟨gb310,1,none⟩=some (.slice A309_1 ((yo l0 x9_1).f1).length c309_1):=(ye BK310.out 1).trans rfl;have hcz44_2:w43.cell? ⟨gb310,2,none⟩=some (.slice A309_2 ((yo l0 x9_1).f2).length c309_2):=(ye BK310.out 2).trans rfl;have hfz44_0:=yg BK310.out 0;have hfz44_1:=yg BK310.out 1;have hfz44_2:=yg BK310.out 2)|(go_at_call 38;(with_reducible refine (Yf.calls k1 4294967296 _ _ ((yo l0 x9_1).f1) t322 _ ?side1 ?side2 A39.out).mono ?_);(case side1=>repeat (first|exact (Kd.YS HR309_1.out HB.out)|(with_reducible refine Kd.Jo ?_ _)|(with_reducible refine Kd.Jp ?_ _)|(with_reducible refine Kd.JG ?_)));(case side2=>exact HC309_1.out);rintro e w' ⟨rfl,⟨nd,rfl⟩⟩))
                    go_meet
                    case rel=>exact ⟨_,(!t322),(by first|rfl|(simp;done)|(simp [*];done)|(simp [yx];done)),H',⟨by have:=HK1.out;first|omega|exact Nat.le_refl _⟩,⟨by refine Zv ?_;exact HO318.out⟩,⟨by refine Zb ?_;exact BK310.out⟩,⟨by refine Zb ?_;exact BK320.out⟩,⟨by repeat (first|(with_reducible first|exact HB.out|apply ym|apply yn|apply yu|refine yw ?_ GE310.out|refine yw ?_ GE320.out)|exact HB.out)⟩⟩
              · replace c26:=Bool.eq_false_iff.mpr c26
                subst c26
                have H1:(yp.j1 k1 l0 l0 (l0.length:Int) x9_1 true)=some r:=by rw [if_neg (show ¬ (false=true) by decide)] at H;exact H
                clear H
                have H:=H1
                clear H1
                have H':=yc.mk H
                clear H
                have hnb45:=NB310_320.out
                have hnc45:=NB320_310.out
                have hcz46_0:w16.cell? ⟨gb310,0,none⟩=some (.string ((yo l0 x9_1).f0)):=(ye BK310.out 0).trans rfl
                have hcz46_1:w16.cell? ⟨gb310,1,none⟩=some (.slice A309_1 ((yo l0 x9_1).f1).length c309_1):=(ye BK310.out 1).trans rfl
                have hcz46_2:w16.cell? ⟨gb310,2,none⟩=some (.slice A309_2 ((yo l0 x9_1).f2).length c309_2):=(ye BK310.out 2).trans rfl
                have hfz46_0:=yg BK310.out 0
                have hfz46_1:=yg BK310.out 1
                have hfz46_2:=yg BK310.out 2
                have hcz47_0:w16.cell? ⟨gb320,0,none⟩=some (.string (⟨#[]⟩:ByteArray)):=(ye BK320.out 0).trans rfl
                have hcz47_1:w16.cell? ⟨gb320,1,none⟩=some (.string (⟨#[]⟩:ByteArray)):=(ye BK320.out 1).trans rfl
                have hcz47_2:w16.cell? ⟨gb320,2,none⟩=some (.slice none 0 0):=(ye BK320.out 2).trans rfl
                have hfz47_0:=yg BK320.out 0
                have hfz47_1:=yg BK320.out 1
                have hfz47_2:=yg BK320.out 2
                go_wp2_with (first|(go_at_call 37;(with_reducible refine (Jd.calls ((yo l0 x9_1).f0) _ _ ((yo l0 x9_1).f1) _ _ ((yo l0 x9_1).f2) (t316.length:Int) 0 false _ ?side1 ?side2 ?side3 ?side4 A25.out).mono ?_);(case side1=>exact Kd.YS HR309_1.out (Zg2 GE310.out GE320.out));(case side2=>exact HC309_1.out);(case side3=>exact Kd.YS HR309_2.out (Zg2 GE310.out GE320.out));(case side4=>exact HC309_2.out);rintro e w48 ⟨rfl,hb⟩;have n0_:=yc.mk (Kd.Jy (by refine Zn ?_;exact (Kd.Jf (Kd.JW (p:=⟨gb320,2,none⟩) (Kd.JW (p:=⟨gb320,1,none⟩) (Kd.JW (p:=⟨gb320,0,none⟩) (Kd.Jf HO313.out (fun k_ hk=>(⟨hk,hk.2⟩:_∧k_≠gb320))) (fun _ hk=>hk.2) (.string t314)) (fun _ hk=>hk.2) (.string t315)) (fun _ hk=>hk.2) (.slice Ao19 t316.length co19)) (fun _ h_=>h_.1))) hb);have n1_:=yc.mk (Kd.YO (by refine Zv ?_;exact (Kd.Yj (Kd.Yk (p:=⟨gb320,2,none⟩) (Kd.Yk (p:=⟨gb320,1,none⟩) (Kd.Yk (p:=⟨gb320,0,none⟩) (Kd.Yj HO318.out (fun k_ hk=>(⟨hk,hk.2⟩:_∧k_≠gb320))) (fun _ hk=>hk.2) (.string t314)) (fun _ hk=>hk.2) (.string t315)) (fun _ hk=>hk.2) (.slice Ao19 t316.length co19)) (fun _ h_=>h_.1))) hb);have n2_:=yc.mk (yE (g:=gb310) (o:=.cells #[.string ((yo l0 x9_1).f0),.slice A309_1 ((yo l0 x9_1).f1).length c309_1,.slice A309_2 ((yo l0 x9_1).f2).length c309_2] 56 (0,0)) (by refine Zb ?_;refine yI ?_ NB310_320.out _;refine Zb ?_;refine yI ?_ NB310_320.out _;refine Zb ?_;refine yI ?_ NB310_320.out _;refine Zb ?_;exact BK310.out) hb);have n3_:=yc.mk (yE (g:=gb320) (o:=.cells #[.string t314,.string t315,.slice Ao19 t316.length co19] 53 (0,0)) (by refine Zb ?_;refine yA (cs:=#[.string t314,.string t315,.slice none 0 0]) ?_ 2 _ rfl;refine Zb ?_;refine yA (cs:=#[.string t314,.string (⟨#[]⟩:ByteArray),.slice none 0 0]) ?_ 1 _ rfl;refine Zb ?_;refine yA (cs:=#[.string (⟨#[]⟩:ByteArray),.string (⟨#[]⟩:ByteArray),.slice none 0 0]) ?_ 0 _ rfl;refine Zb ?_;exact BK320.out) hb);have n4_:=yc.mk (yy (Zg2 GE310.out GE320.out) hb);clear HO313 HO318 BK310 BK320 HB;have HO313:=n0_;have HO318:=n1_;have BK310:=n2_;have BK320:=n3_;have HB:=n4_;clear n0_ n1_ n2_ n3_ n4_;(try clear hb);(try clear hb2);(try clear hk);(try clear hi)))
                go_meet
                case rel=>exact ⟨_,(true),(by first|rfl|(simp;done)|(simp [*];done)|(simp [yx];done)),H',⟨by have:=HK1.out;first|omega|exact Nat.le_refl _⟩,⟨by refine Zv ?_;exact HO318.out⟩,⟨by refine Zb ?_;exact BK310.out⟩,⟨by refine Zb ?_;exact BK320.out⟩,⟨by repeat (first|(with_reducible first|exact HB.out|apply ym|apply yn|apply yu|refine yw ?_ GE310.out|refine yw ?_ GE320.out)|exact HB.out)⟩⟩
          · replace c21:=Bool.eq_false_iff.mpr c21
            subst c21
            have H1:(yp.j1 k1 l0 l0 (l0.length:Int) x9_1 true)=some r:=by rw [if_neg (show ¬ (false=true) by decide)] at H;exact H
            clear H
            have H:=H1
            clear H1
            have H':=yc.mk H
            clear H
            go_wp2
            go_meet
            case rel=>exact ⟨_,(true),(by first|rfl|(simp;done)|(simp [*];done)|(simp [yx];done)),H',⟨by have:=HK1.out;first|omega|exact Nat.le_refl _⟩,⟨by refine Zv ?_;exact Kd.Yj (Kd.Yk (p:=⟨gb320,2,none⟩) (Kd.Yk (p:=⟨gb320,1,none⟩) (Kd.Yk (p:=⟨gb320,0,none⟩) (Kd.Yj HO318.out (fun k_ hk=>(⟨hk,hk.2⟩:_∧k_≠gb320))) (fun _ hk=>hk.2) (.string t314)) (fun _ hk=>hk.2) (.string t315)) (fun _ hk=>hk.2) (.slice Ao19 t316.length co19)) (fun _ hk=>⟨hk.1.1,hk.1.2⟩)⟩,⟨by refine Zb ?_;refine yI ?_ NB310_320.out _;refine Zb ?_;refine yI ?_ NB310_320.out _;refine Zb ?_;refine yI ?_ NB310_320.out _;refine Zb ?_;exact BK310.out⟩,⟨by refine Zb ?_;refine yA (cs:=#[.string t314,.string t315,.slice none 0 0]) ?_ 2 _ rfl;refine Zb ?_;refine yA (cs:=#[.string t314,.string (⟨#[]⟩:ByteArray),.slice none 0 0]) ?_ 1 _ rfl;refine Zb ?_;refine yA (cs:=#[.string (⟨#[]⟩:ByteArray),.string (⟨#[]⟩:ByteArray),.slice none 0 0]) ?_ 0 _ rfl;refine Zb ?_;exact BK320.out⟩,⟨by repeat (first|(with_reducible first|exact HB.out|apply ym|apply yn|apply yu|refine yw ?_ GE310.out|refine yw ?_ GE320.out)|exact HB.out)⟩⟩
         case rest=>
          clear HC7
          try clear c1
          try clear c2
          try clear p2
          try clear c3
          try clear p3
          try clear q3
          try clear hx3
          try clear c4
          try clear c17
          try clear c21
          try clear c22
          try clear c22b0
          try clear c22b1
          try clear c23
          try clear c26
          try clear c27
          try clear c27b0
          try clear c27b1
          try clear c28
          try clear c30
          try clear p30
          try clear q30
          try clear hx30
          try clear c33
          try clear c33b0
          try clear c33b1
          try clear c34
          try clear c36
          try clear c40
          try clear c45
          try clear hcz24_0
          try clear hcz24_1
          try clear hcz24_2
          try clear hcz29_0
          try clear hcz29_1
          try clear hcz29_2
          try clear hcz30_0
          try clear hcz30_1
          try clear hcz30_2
          try clear hcz32_0
          try clear hcz32_1
          try clear hcz32_2
          try clear hcz35_0
          try clear hcz35_1
          try clear hcz35_2
          try clear hcz36_0
          try clear hcz36_1
          try clear hcz36_2
          try clear hcz38_0
          try clear hcz38_1
          try clear hcz38_2
          try clear hcz41_0
          try clear hcz41_1
          try clear hcz41_2
          try clear hcz42_0
          try clear hcz42_1
          try clear hcz42_2
          try clear hcz44_0
          try clear hcz44_1
          try clear hcz44_2
          try clear hcz46_0
          try clear hcz46_1
          try clear hcz46_2
          try clear hcz47_0
          try clear hcz47_1
          try clear hcz47_2
          try clear hcz9_0
          try clear hcz9_1
          try clear hcz9_2
          try clear hfz24_0
          try clear hfz24_1
          try clear hfz24_2
          try clear hfz29_0
          try clear hfz29_1
          try clear hfz29_2
          try clear hfz30_0
          try clear hfz30_1
          try clear hfz30_2
          try clear hfz32_0
          try clear hfz32_1
          try clear hfz32_2
          try clear hfz35_0
          try clear hfz35_1
          try clear hfz35_2
          try clear hfz36_0
          try clear hfz36_1
          try clear hfz36_2
          try clear hfz38_0
          try clear hfz38_1
          try clear hfz38_2
          try clear hfz41_0
          try clear hfz41_1
          try clear hfz41_2
          try clear hfz42_0
          try clear hfz42_1
          try clear hfz42_2
          try clear hfz44_0
          try clear hfz44_1
          try clear hfz44_2
          try clear hfz46_0
          try clear hfz46_1
          try clear hfz46_2
          try clear hfz47_0
          try clear hfz47_1
          try clear hfz47_2
          try clear hfz9_0
          try clear hfz9_1
          try clear hfz9_2
          try clear hx309_0
          try clear hx309_1
          try clear hx309_2
          try clear p309
          try clear q309
          obtain ⟨kq,x50_6,rfl,HA,HJ6,HO_321002,BK310,BK320,HB⟩:=hcut
          cases kq with
          | zero=>exact absurd HA.out (by simp [yp.j1])
          | succ kj6=>
           have H:=HA.out
           clear HA
           simp only [yp.j1] at H
           by_cases c49:x50_6=true
           · subst c49
             have H1:(some false)=some r:=by rw [if_pos rfl] at H;exact H
             clear H
             have H:=H1
             clear H1
             obtain rfl:=Option.some.inj H
             go_wp2
             go_ret
             exact ⟨by first|rfl|(simp [yP,yO] <;> rfl)|(simp [*,yP,yO] <;> rfl),by repeat (first|(with_reducible first|exact HB.out|apply ym|apply yn|apply yu|refine yw ?_ GE310.out|refine yw ?_ GE320.out)|exact HB.out)⟩
           · replace c49:=Bool.eq_false_iff.mpr c49
             subst c49
             have H1:(yp.l0 kj6 l0 l0 (l0.length:Int) (wrap64 (x9_1+1)))=some r:=by rw [if_neg (show ¬ (false=true) by decide)] at H;exact H
             clear H
             have H:=H1
             clear H1
             have H':=yc.mk H
             clear H
             go_wp2
             go_roundg kj6
             case measure=>have:=HK1.out;have:=HJ6.out;omega
             case rel=>exact ⟨(wrap64 (x9_1+1)),(by first|rfl|(simp;done)|(simp [*];done)|(simp [yx];done)),H',⟨by have:=HK1.out;have:=HJ6.out;omega⟩,⟨by repeat (first|(with_reducible first|exact HB.out|apply ym|apply yn|apply yu|refine yw ?_ GE310.out|refine yw ?_ GE320.out)|exact HB.out)⟩⟩
       · rw [if_neg c4] at H
         exact absurd H (by simp)
     · rw [if_neg c3] at H
       exact absurd H (by simp)
   · rw [if_neg c2] at H
     have c2b0:decide (x9_1<(l0.length:Int))=false:=decide_eq_false c2
     clear c2
     replace H:=Option.bind_eq_some_iff.mp H
     obtain ⟨t323,A500,H⟩:=H
     replace H:(some t323)=some r:=H
     have A50:=yc.mk A500
     clear A500
     obtain rfl:=Option.some.inj H
     go_wp2_with (first|((with_reducible refine Yz (f:=39) rfl ?_);refine Yp (some 53) rfl rfl Tryz.func39 Zk rfl #[.slice A0 l0.length c0] rfl (by (try simp only [List.map_toArray,List.map_cons,List.map_nil]);first|done|rfl|(simp only [List.length_drop,List.length_take];rfl)) ?_;(with_reducible refine (yL.calls k1 _ _ l0 t323 _ ?side1 ?side2 A50.out).mono ?_);(case side1=>repeat (first|exact (Kd.YS HR0.out HB.out)|(with_reducible refine Kd.Jo ?_ _)|(with_reducible refine Kd.Jp ?_ _)|(with_reducible refine Kd.JG ?_)));(case side2=>exact HC0.out);rintro e w' ⟨rfl,⟨nd,rfl⟩⟩;refine ⟨_,rfl,?_⟩))
     go_ret
     exact ⟨by first|rfl|(simp [yP,yO] <;> rfl)|(simp [*,yP,yO] <;> rfl),by repeat (first|(with_reducible first|exact HB.out|apply ym|apply yn|apply yu)|exact HB.out)⟩
end Go.Proofs.YtdcaggoicdfehaaGreatDoor
