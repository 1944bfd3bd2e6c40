/- Part 29 of 44 of the proof of the tied card of FnXfsRead. -/
import Derived.Test.YtdcaggoicdfehaaGreatDoorVz
import Derived.Test.YtdcaggoicdfehaaGreatDoorV4
set_option linter.unusedVariables false
set_option linter.unusedSimpArgs false
namespace Go.Proofs.YtdcaggoicdfehaaGreatDoor
open Go.RowKit Go.Proofs.YtdcaggoicdfehaaGreatDoorW.PrintWords Go.Proofs.YtdcaggoicdfehaaGreatDoorW.PrintLast Go.Proofs.YtdcaggoicdfehaaGreatDoorW.PrintMore
attribute [local go_sem] YX YV Ja Jb YK YL YW YU
def Yd.f:Nat→Int→Int→Option (ByteArray)
 | 0,_,_=>none
 | k+1,a0,a1=>if a1=0 then (none) else (if 0≤(Int.tmod a0 a1) then (if (Int.tmod a0 a1)<16 then (if a0<a1 then (some (strOfNums (([bt (⟨#[48,49,50,51,52,53,54,55,56,57,97,98,99,100,101,102]⟩:ByteArray) (Int.tmod a0 a1)]:List Int)))) else ((Yd.f k (IntKind.u64.wrap (Int.tdiv a0 a1)) a1).bind fun t139=>((some (([bt (⟨#[48,49,50,51,52,53,54,55,56,57,97,98,99,100,101,102]⟩:ByteArray) (Int.tmod a0 a1)]:List Int):List Int)).bind fun y140=>(if t139.size+(strOfNums y140).size≤9223372036854775807 then (some (t139++(strOfNums y140))) else (none))))) else (none)) else (none))
theorem Yd.YB:∀ k,(∀ y0 y1,LeO (Yd.f k y0 y1) (Yd.f (k+1) y0 y1))
 | 0=>fun _ _ r h=>by simp [Yd.f] at h
 | k+1=>by
  have ih0:=Yd.YB k
  · intro y0 y1
    unfold Yd.f
    repeat' first
    | (with_reducible exact ih0 _ _)
    | (with_reducible exact LeO.refl _)
    | (with_reducible exact LeO.none _)
    | (with_reducible refine LeO.ite ?_ ?_)
    | (with_reducible refine LeO.bind ?_ (fun _=>?_))
    | exact ih0 _ _
    | exact LeO.none _
    | refine LeO.ite ?_ ?_
    | refine LeO.bind ?_ (fun _=>?_)
theorem Yd.mono:∀ a0 a1 k,LeO (Yd.f k a0 a1) (Yd.f (k+1) a0 a1):=by
 intro a0 a1 k
 have ih0:=Yd.YB k
 exact ih0 a0 a1
def Yd.T4:Bool × List (List Nat × List Nat):=(true,[([],[]),([],[]),([0,1],[0,1]),([],[]),([2,3],[2,3]),([],[]),([5],[5]),([6],[6]),([4,7],[4,7]),([8,4,0,1,2,3,4,5,6,7,8],[8])])
def Yd.B4:List Nat:=[0,0,3,0,15,0,32,96,255,511]
theorem Yd.tab4:Ju .any (opsOf Tryz.f134 4)=Yd.T4:=by kernel_rfl
theorem Yd.bits4:JP Yd.T4.2 Yd.B4=true:=by kernel_rfl
set_option maxHeartbeats 8000000 in
set_option maxRecDepth 100000 in
theorem Yd.calls (k:Nat):∀ (a0:Int) (a1:Int) (r:ByteArray) (w:World) (h:Yd.f k a0 a1=some r),
 Calls Tryz.prog 134 #[.int .u64 a0,.int .u64 a1] w fun e w'=>e=.returned (.string r)∧Below w.heap.size w w':=by
 induction k using Nat.strongRecOn with
 | _ k ih=>
 intro a0 a1 r w h
 cases k with
 | zero=>exact absurd h (by simp [Yd.f])
 | succ k=>
 simp only [Yd.f] at h
 have HB:=yc.mk (Below.refl w.heap.size w)
 have H:(if a1=0 then (none) else (if 0≤(Int.tmod a0 a1) then (if (Int.tmod a0 a1)<16 then (if a0<a1 then (some (strOfNums (([bt (⟨#[48,49,50,51,52,53,54,55,56,57,97,98,99,100,101,102]⟩:ByteArray) (Int.tmod a0 a1)]:List Int)))) else ((Yd.f k (IntKind.u64.wrap (Int.tdiv a0 a1)) a1).bind fun t139=>((some (([bt (⟨#[48,49,50,51,52,53,54,55,56,57,97,98,99,100,101,102]⟩:ByteArray) (Int.tmod a0 a1)]:List Int):List Int)).bind fun y140=>(if t139.size+(strOfNums y140).size≤9223372036854775807 then (some (t139++(strOfNums y140))) else (none))))) else (none)) else (none)))=some r:=h
 clear h
 by_cases c3:a1=0
 · rw [if_pos c3] at H
   exact absurd H (by simp)
 · rw [if_neg c3] at H
   have c3b0:(a1 == 0)=false:=beq_eq_false_iff_ne.mpr c3
   have c3b1:(a1 != 0)=true:=bne_iff_ne.mpr c3
   obtain ⟨ji4,hji4⟩:∃ j_:Int,(Int.tmod a0 a1)=j_:=⟨_,rfl⟩
   replace H:(if 0≤(ji4) then (if (ji4)<16 then (if a0<a1 then (some (strOfNums (([bt (⟨#[48,49,50,51,52,53,54,55,56,57,97,98,99,100,101,102]⟩:ByteArray) (ji4)]:List Int)))) else ((Yd.f k (IntKind.u64.wrap (Int.tdiv a0 a1)) a1).bind fun t139=>((some (([bt (⟨#[48,49,50,51,52,53,54,55,56,57,97,98,99,100,101,102]⟩:ByteArray) (ji4)]:List Int):List Int)).bind fun y140=>(if t139.size+(strOfNums y140).size≤9223372036854775807 then (some (t139++(strOfNums y140))) else (none))))) else (none)) else (none))=some r:=by first|(rw [hji4] at H;exact H)|(simp only [hji4] at H ⊢;exact H)
   by_cases c5:0≤(ji4)
   · rw [if_pos c5] at H
     have c5b0:decide (0≤(ji4))=true:=decide_eq_true c5
     clear c5
     by_cases c6:(ji4)<16
     · rw [if_pos c6] at H
       have c6b0:decide ((ji4)<16)=true:=decide_eq_true c6
       clear c6
       by_cases c8:a0<a1
       · rw [if_pos c8] at H
         have c8b0:decide (a0<a1)=true:=decide_eq_true c8
         clear c8
         obtain ⟨y136,hy136⟩:∃ y_:List Int,y_=(([bt (⟨#[48,49,50,51,52,53,54,55,56,57,97,98,99,100,101,102]⟩:ByteArray) (ji4)]:List Int)):=⟨_,rfl⟩
         replace H:(some (strOfNums y136))=some r:=by first|(rw [hy136];with_reducible exact H)|(have H2_:=(Option.bind_some _ _).symm.trans H;rw [hy136];with_reducible exact H2_)|(have H2_:=(Option.bind_some _ _).symm.trans H;with_reducible exact H2_)|with_reducible exact H|(rw [hy136];exact H)|exact H
         have Ny136:=yc.mk hy136
         clear hy136
         obtain rfl:=Option.some.inj H
         have p7:0≤((ji4):Int):=of_decide_eq_true (by first|(with_reducible assumption)|assumption)
         have q7:(ji4)<(16:Int):=of_decide_eq_true (by first|(with_reducible assumption)|assumption)
         have hx7:=yaX (⟨#[48,49,50,51,52,53,54,55,56,57,97,98,99,100,101,102]⟩:ByteArray) (ji4)
         replace p7:=eq_true p7
         replace q7:=eq_true q7
         go_enter Tryz.func134,Tryz.ntmps134
         go_wp2_with (first|((with_reducible refine Y1 (N:=14) rfl ?_);refine Kd.R_lit (Kd.int .u8) _ 5 ?hg (N:=14) ?hd (xs:=([bt (⟨#[48,49,50,51,52,53,54,55,56,57,97,98,99,100,101,102]⟩:ByteArray) (ji4)]:List Int)) (inner:=[.int .u8 (bt (⟨#[48,49,50,51,52,53,54,55,56,57,97,98,99,100,101,102]⟩:ByteArray) (ji4))]) (ok:=fun _=>True) (okp:=fun _=>True) ?hr ?hp (fun _ hk=>hk) trivial (Below.refl _ _) (Nat.le_refl _) (by simp) ?_;(case hd=>rfl);(case hg=>rfl);(case hr=>first|(go_simp;done)|(go_simp;rfl));(case hp=>exact (YD.one (show Kd.M (Kd.int .u8) _ _ _ (bt (⟨#[48,49,50,51,52,53,54,55,56,57,97,98,99,100,101,102]⟩:ByteArray) (ji4)) [.int .u8 (bt (⟨#[48,49,50,51,52,53,54,55,56,57,97,98,99,100,101,102]⟩:ByteArray) (ji4))] from rfl) (YD.none _ _)));intro v137 w9 ho10 hb hg_ hnew_;clear hg_ hnew_;(first|rw [← Ny136.out] at ho10|(simp only [Int.reduceToNat] at ho10;rw [← Ny136.out] at ho10));have n0_:=yc.mk (Kd.JU ho10 (yt Zh));have n1_:=yc.mk (yy Zh hb);clear HB;have HO138:=n0_;have HB:=n1_;clear n0_ n1_;clear hb ho10;have hcv11:=yau (P:=Tryz.prog) Tryz.underlying144 Tryz.underlying5 Tryz.underlying9 (Kd.ya2 HO138.out)))
         go_ret
         exact ⟨by first|rfl|(simp [yP,yO] <;> rfl)|(simp only [← hji4]; first|rfl|(simp [yP,yO] <;> rfl))|(simp [*,yP,yO] <;> rfl),by repeat (first|(with_reducible first|exact HB.out|apply ym|apply yn|apply yu)|exact HB.out)⟩
       · rw [if_neg c8] at H
         have c8b0:decide (a0<a1)=false:=decide_eq_false c8
         clear c8
         replace H:=Option.bind_eq_some_iff.mp H
         obtain ⟨t139,A120,H⟩:=H
         replace H:((some (([bt (⟨#[48,49,50,51,52,53,54,55,56,57,97,98,99,100,101,102]⟩:ByteArray) (ji4)]:List Int):List Int)).bind fun y140=>(if t139.size+(strOfNums y140).size≤9223372036854775807 then (some (t139++(strOfNums y140))) else (none)))=some r:=H
         have A12:=yc.mk A120
         clear A120
         obtain ⟨y140,hy140⟩:∃ y_:List Int,y_=(([bt (⟨#[48,49,50,51,52,53,54,55,56,57,97,98,99,100,101,102]⟩:ByteArray) (ji4)]:List Int)):=⟨_,rfl⟩
         replace H:(if t139.size+(strOfNums y140).size≤9223372036854775807 then (some (t139++(strOfNums y140))) else (none))=some r:=by first|(rw [hy140];with_reducible exact H)|(have H2_:=(Option.bind_some _ _).symm.trans H;rw [hy140];with_reducible exact H2_)|(have H2_:=(Option.bind_some _ _).symm.trans H;with_reducible exact H2_)|with_reducible exact H|(rw [hy140];exact H)|exact H
         have Ny140:=yc.mk hy140
         clear hy140
         by_cases c13:t139.size+(strOfNums y140).size≤9223372036854775807
         · rw [if_pos c13] at H
           have c13b0:=eq_true c13
           have c13b1:decide (t139.size+(strOfNums y140).size≤9223372036854775807)=true:=decide_eq_true c13
           try have c13b2:(9223372036854775807<t139.size+(strOfNums y140).size)=False:=eq_false (Nat.not_lt.2 c13)
           obtain rfl:=Option.some.inj H
           have p7:0≤((ji4):Int):=of_decide_eq_true (by first|(with_reducible assumption)|assumption)
           have q7:(ji4)<(16:Int):=of_decide_eq_true (by first|(with_reducible assumption)|assumption)
           have hx7:=yaX (⟨#[48,49,50,51,52,53,54,55,56,57,97,98,99,100,101,102]⟩:ByteArray) (ji4)
           replace p7:=eq_true p7
           replace q7:=eq_true q7
           go_enter Tryz.func134,Tryz.ntmps134
           try go_wp2
           have n0_:=yc.mk (yu HB.out)
           clear HB
           have HB:=n0_
           clear n0_
           refine Q8 (n:=10) (S:=fun w'=>True) (ds:=[]) #[false,false,false,false,false,false,false,false,false,false] Zk rfl rfl trivial (fun hHeld=>?_);refine yar Yd.tab4 Yd.bits4 (fun HT_ HW_=>?_)
           generalize w.drew=w14 at HB hHeld ⊢
           refine Js (i:=0) (N:=some 16) (v:=?_) (a':=?_) #[true,false,false,false,false,false,false,false,false,false] rfl rfl (Y0 HT_.out Zk) (fun _ _ _ h=>h) (Or.inl ⟨by rfl,?_⟩) ?_ ?_
           rotate_left
           · intro w'
             go_simp
             with_reducible rfl
           rotate_left
           · simp only [Act.put,List.setIfInBounds_toArray,List.set_cons_zero,List.set_cons_succ,Yq,Yu]
             rfl
           refine Js (i:=1) (N:=some 17) (v:=?_) (a':=?_) #[true,true,false,false,false,false,false,false,false,false] rfl rfl (Y0 HT_.out Zk) (fun _ _ _ h=>h) (Or.inl ⟨by rfl,?_⟩) ?_ ?_
           rotate_left
           · intro w'
             go_simp
             with_reducible rfl
           rotate_left
           · simp only [Act.put,List.setIfInBounds_toArray,List.set_cons_zero,List.set_cons_succ,Yq,Yu]
             rfl
           refine Js (i:=2) (N:=some 18) (v:=?_) (a':=?_) #[true,true,true,false,false,false,false,false,false,false] rfl rfl (Y0 HT_.out Zk) (fun _ _ _ h=>h) (Or.inl ⟨by rfl,?_⟩) ?_ ?_
           rotate_left
           · intro w'
             go_simp
             with_reducible rfl
           rotate_left
           · simp only [Act.put,List.setIfInBounds_toArray,List.set_cons_zero,List.set_cons_succ,Yq,Yu]
             rfl
           refine Js (i:=3) (N:=some 19) (v:=?_) (a':=?_) #[true,true,true,true,false,false,false,false,false,false] rfl rfl (Y0 HT_.out Zk) (fun _ _ _ h=>h) (Or.inl ⟨by rfl,?_⟩) ?_ ?_
           rotate_left
           · intro w'
             go_simp
             with_reducible rfl
           rotate_left
           · simp only [Act.put,List.setIfInBounds_toArray,List.set_cons_zero,List.set_cons_succ,Yq,Yu]
             rfl
           refine Js (i:=5) (N:=some 21) (v:=?_) (a':=?_) #[true,true,true,true,false,true,false,false,false,false] rfl rfl (Y0 HT_.out Zk) (fun _ _ _ h=>h) (Or.inl ⟨by rfl,?_⟩) ?_ ?_
           rotate_left
           · intro w'
             go_simp
             with_reducible rfl
           rotate_left
           · simp only [Act.put,List.setIfInBounds_toArray,List.set_cons_zero,List.set_cons_succ,Yq,Yu]
             rfl
           refine join_ (σ:=Value) 2 #[true,true,true,true,true,true,true,true,false,false] (fun s_=>[(20,.string t139),(22,s_),(23,.string (strOfNums y140))]) (fun s_ w'=>(Kd.R (Kd.int .u8) 5 w' w.heap.size (fun _=>True) s_ y140)∧(Below w.heap.size w w')) ?_ ?_
           rotate_left
           · intro hCont
             refine two_ (i:=4) (j:=6) (Ni:=some 20) (Nj:=some 22) #[true,true,true,true,true,true,false,false,false,false] #[true,true,true,true,false,true,true,false,false,false] rfl rfl rfl rfl (two_of HT_.out Zk) Zd Zd (fun K hK=>?_) (fun K hK=>?_)
             · skip
               refine yaP Tryz.func134 Zk rfl #[.int .u64 (IntKind.u64.wrap (Int.tdiv a0 a1)),.int .u64 a1] (by rfl) rfl rfl (by (try simp only [List.map_toArray,List.map_cons,List.map_nil]);first|done|rfl|(simp only [List.length_drop,List.length_take];rfl)) ?_
               with_reducible refine (ih k Zo (IntKind.u64.wrap (Int.tdiv a0 a1)) a1 t139 _ A12.out).mono ?_
               rintro e w15 ⟨rfl,hb⟩
               refine ⟨_,rfl,?_⟩
               have n0_:=yc.mk (yy Zh hb)
               clear HB
               have HB:=n0_
               clear n0_
               (try clear hb)
               (try clear hb2)
               (try clear hk)
               (try clear hi)
               refine hK.out _ _ trivial (fun hHeld=>?_)
               clear hK K
               refine JV (a':=?_) ?_ ?_
               rotate_left
               · show Act.put _ (some 20) _=_
                 simp only [Act.put,List.setIfInBounds_toArray,List.set_cons_zero,List.set_cons_succ,Yq,Yu]
                 rfl
               refine one_ (i:=6) (N:=some 22) #[true,true,true,true,true,true,true,false,false,false] rfl rfl (qu HT_.out Zk) Zd (fun K hK=>?_)
               refine Kd.ydu (Kd.int .u8) _ 5 ?hg (N:=22) ?hd (xs:=([bt (⟨#[48,49,50,51,52,53,54,55,56,57,97,98,99,100,101,102]⟩:ByteArray) (ji4)]:List Int)) (inner:=[.int .u8 (bt (⟨#[48,49,50,51,52,53,54,55,56,57,97,98,99,100,101,102]⟩:ByteArray) (ji4))]) (ok:=fun _=>True) (okp:=fun _=>True) ?hr ?hp (fun _ hk=>hk) trivial (Below.refl _ _) (Nat.le_refl _) (by simp) ?_;(case hd=>rfl);(case hg=>rfl);(case hr=>first|(go_simp;done)|(go_simp;rfl));(case hp=>exact (YD.one (show Kd.M (Kd.int .u8) _ _ _ (bt (⟨#[48,49,50,51,52,53,54,55,56,57,97,98,99,100,101,102]⟩:ByteArray) (ji4)) [.int .u8 (bt (⟨#[48,49,50,51,52,53,54,55,56,57,97,98,99,100,101,102]⟩:ByteArray) (ji4))] from rfl) (YD.none _ _)))
               intro v141 w16 ho17 hb hg_ hnew_
               clear hg_ hnew_
               (first|rw [← Ny140.out] at ho17|(simp only [Int.reduceToNat] at ho17;rw [← Ny140.out] at ho17))
               have n0_:=yc.mk (Kd.JU ho17 (yt Zh))
               have n1_:=yc.mk (yy Zh hb)
               clear HB
               have HO142:=n0_
               have HB:=n1_
               clear n0_ n1_
               clear hb ho17
               refine hK.out _ _ trivial (fun hHeld=>?_)
               clear hK K
               refine JV (a':=?_) ?_ ?_
               rotate_left
               · show Act.put _ (some 22) _=_
                 simp only [Act.put,List.setIfInBounds_toArray,List.set_cons_zero,List.set_cons_succ,Yq,Yu]
                 rfl
               refine one_ (i:=7) (N:=some 23) #[true,true,true,true,true,true,true,true,false,false] rfl rfl (qu HT_.out Zk) Zd (fun K hK=>?_)
               have hcv18:=yau (P:=Tryz.prog) Tryz.underlying144 Tryz.underlying5 Tryz.underlying9 (Kd.ya2 HO142.out)
               refine qq (w1:=?_) (v:=?_) (by rfl) rfl ?_ ?_
               rotate_left 2
               · go_simp
                 constructor
                 · rfl
                 · rfl
               clear hcv18
               refine hK.out _ _ trivial (fun hHeld=>?_)
               clear hK K
               refine JV (a':=?_) ?_ ?_
               rotate_left
               · show Act.put _ (some 23) _=_
                 simp only [Act.put,List.setIfInBounds_toArray,List.set_cons_zero,List.set_cons_succ,Yq,Yu]
                 rfl
               exact JV (by simp only [QJ,Act.put,List.setIfInBounds_toArray,List.set_cons_zero,List.set_cons_succ]) (hCont (v141) _ ⟨(Zr HO142.out),Zh⟩)
             · skip
               refine Kd.ydu (Kd.int .u8) _ 5 ?hg (N:=22) ?hd (xs:=([bt (⟨#[48,49,50,51,52,53,54,55,56,57,97,98,99,100,101,102]⟩:ByteArray) (ji4)]:List Int)) (inner:=[.int .u8 (bt (⟨#[48,49,50,51,52,53,54,55,56,57,97,98,99,100,101,102]⟩:ByteArray) (ji4))]) (ok:=fun _=>True) (okp:=fun _=>True) ?hr ?hp (fun _ hk=>hk) trivial (Below.refl _ _) (Nat.le_refl _) (by simp) ?_;(case hd=>rfl);(case hg=>rfl);(case hr=>first|(go_simp;done)|(go_simp;rfl));(case hp=>exact (YD.one (show Kd.M (Kd.int .u8) _ _ _ (bt (⟨#[48,49,50,51,52,53,54,55,56,57,97,98,99,100,101,102]⟩:ByteArray) (ji4)) [.int .u8 (bt (⟨#[48,49,50,51,52,53,54,55,56,57,97,98,99,100,101,102]⟩:ByteArray) (ji4))] from rfl) (YD.none _ _)))
               intro v141 w15 ho16 hb hg_ hnew_
               clear hg_ hnew_
               (first|rw [← Ny140.out] at ho16|(simp only [Int.reduceToNat] at ho16;rw [← Ny140.out] at ho16))
               have n0_:=yc.mk (Kd.JU ho16 (yt Zh))
               have n1_:=yc.mk (yy Zh hb)
               clear HB
               have HO142:=n0_
               have HB:=n1_
               clear n0_ n1_
               clear hb ho16
               refine hK.out _ _ trivial (fun hHeld=>?_)
               clear hK K
               refine JV (a':=?_) ?_ ?_
               rotate_left
               · show Act.put _ (some 22) _=_
                 simp only [Act.put,List.setIfInBounds_toArray,List.set_cons_zero,List.set_cons_succ,Yq,Yu]
                 rfl
               refine two_ (i:=4) (j:=7) (Ni:=some 20) (Nj:=some 23) #[true,true,true,true,true,true,true,false,false,false] #[true,true,true,true,false,true,true,true,false,false] rfl rfl rfl rfl (two_of HT_.out Zk) Zd Zd (fun K hK=>?_) (fun K hK=>?_)
               · skip
                 refine yaP Tryz.func134 Zk rfl #[.int .u64 (IntKind.u64.wrap (Int.tdiv a0 a1)),.int .u64 a1] (by rfl) rfl rfl (by (try simp only [List.map_toArray,List.map_cons,List.map_nil]);first|done|rfl|(simp only [List.length_drop,List.length_take];rfl)) ?_
                 with_reducible refine (ih k Zo (IntKind.u64.wrap (Int.tdiv a0 a1)) a1 t139 _ A12.out).mono ?_
                 rintro e w17 ⟨rfl,hb⟩
                 refine ⟨_,rfl,?_⟩
                 have n0_:=yc.mk (Kd.qb (Zr HO142.out) hb)
                 have n1_:=yc.mk (yy Zh hb)
                 clear HO142
                 clear HB
                 have HO142:=n0_
                 have HB:=n1_
                 clear n0_ n1_
                 (try clear hb)
                 (try clear hb2)
                 (try clear hk)
                 (try clear hi)
                 refine hK.out _ _ trivial (fun hHeld=>?_)
                 clear hK K
                 refine JV (a':=?_) ?_ ?_
                 rotate_left
                 · show Act.put _ (some 20) _=_
                   simp only [Act.put,List.setIfInBounds_toArray,List.set_cons_zero,List.set_cons_succ,Yq,Yu]
                   rfl
                 refine one_ (i:=7) (N:=some 23) #[true,true,true,true,true,true,true,true,false,false] rfl rfl (qu HT_.out Zk) Zd (fun K hK=>?_)
                 have hcv18:=yau (P:=Tryz.prog) Tryz.underlying144 Tryz.underlying5 Tryz.underlying9 (Kd.ya2 HO142.out)
                 refine qq (w1:=?_) (v:=?_) (by rfl) rfl ?_ ?_
                 rotate_left 2
                 · go_simp
                   constructor
                   · rfl
                   · rfl
                 clear hcv18
                 refine hK.out _ _ trivial (fun hHeld=>?_)
                 clear hK K
                 refine JV (a':=?_) ?_ ?_
                 rotate_left
                 · show Act.put _ (some 23) _=_
                   simp only [Act.put,List.setIfInBounds_toArray,List.set_cons_zero,List.set_cons_succ,Yq,Yu]
                   rfl
                 exact JV (by simp only [QJ,Act.put,List.setIfInBounds_toArray,List.set_cons_zero,List.set_cons_succ]) (hCont (v141) _ ⟨(Zr HO142.out),Zh⟩)
               · skip
                 have hcv17:=yau (P:=Tryz.prog) Tryz.underlying144 Tryz.underlying5 Tryz.underlying9 (Kd.ya2 HO142.out)
                 refine qq (w1:=?_) (v:=?_) (by rfl) rfl ?_ ?_
                 rotate_left 2
                 · go_simp
                   constructor
                   · rfl
                   · rfl
                 clear hcv17
                 refine hK.out _ _ trivial (fun hHeld=>?_)
                 clear hK K
                 refine JV (a':=?_) ?_ ?_
                 rotate_left
                 · show Act.put _ (some 23) _=_
                   simp only [Act.put,List.setIfInBounds_toArray,List.set_cons_zero,List.set_cons_succ,Yq,Yu]
                   rfl
                 refine one_ (i:=4) (N:=some 20) #[true,true,true,true,true,true,true,true,false,false] rfl rfl (qu HT_.out Zk) Zd (fun K hK=>?_)
                 refine yaP Tryz.func134 Zk rfl #[.int .u64 (IntKind.u64.wrap (Int.tdiv a0 a1)),.int .u64 a1] (by rfl) rfl rfl (by (try simp only [List.map_toArray,List.map_cons,List.map_nil]);first|done|rfl|(simp only [List.length_drop,List.length_take];rfl)) ?_
                 with_reducible refine (ih k Zo (IntKind.u64.wrap (Int.tdiv a0 a1)) a1 t139 _ A12.out).mono ?_
                 rintro e w18 ⟨rfl,hb⟩
                 refine ⟨_,rfl,?_⟩
                 have n0_:=yc.mk (Kd.qb (Zr HO142.out) hb)
                 have n1_:=yc.mk (yy Zh hb)
                 clear HO142
                 clear HB
                 have HO142:=n0_
                 have HB:=n1_
                 clear n0_ n1_
                 (try clear hb)
                 (try clear hb2)
                 (try clear hk)
                 (try clear hi)
                 refine hK.out _ _ trivial (fun hHeld=>?_)
                 clear hK K
                 refine JV (a':=?_) ?_ ?_
                 rotate_left
                 · show Act.put _ (some 20) _=_
                   simp only [Act.put,List.setIfInBounds_toArray,List.set_cons_zero,List.set_cons_succ,Yq,Yu]
                   rfl
                 exact JV (by simp only [QJ,Act.put,List.setIfInBounds_toArray,List.set_cons_zero,List.set_cons_succ]) (hCont (v141) _ ⟨(Zr HO142.out),Zh⟩)
           rintro v141 w19 ⟨h0_,h1_⟩
           have n0_:yc (Kd.R (Kd.int .u8) 5 w19 w.heap.size (fun _=>True) v141 y140):=⟨h0_⟩
           have n1_:yc (Below w.heap.size w w19):=⟨h1_⟩
           clear HB
           clear h0_ h1_
           have HO142:=n0_
           have HB:=n1_
           clear n0_ n1_
           have hHeld:=trivial
           refine JV (a':=?_) ?_ ?_
           rotate_left
           · simp only [QJ,Act.put,List.setIfInBounds_toArray,List.set_cons_zero,List.set_cons_succ]
             rfl
           refine Js (i:=8) (N:=some 24) (v:=?_) (a':=?_) #[true,true,true,true,true,true,true,true,true,false] rfl rfl (Y0 HT_.out Zk) (fun _ _ _ h=>h) (Or.inl ⟨by rfl,?_⟩) ?_ ?_
           rotate_left
           · intro w'
             go_simp
             with_reducible rfl
           rotate_left
           · simp only [Act.put,List.setIfInBounds_toArray,List.set_cons_zero,List.set_cons_succ,Yq,Yu]
             rfl
           refine Js (i:=9) (N:=some 4) (v:=?_) (a':=?_) #[true,true,true,true,true,true,true,true,true,true] rfl rfl (Y0 HT_.out Zk) (fun _ _ _ h=>h) (Or.inl ⟨by rfl,?_⟩) ?_ ?_
           rotate_left
           · intro w'
             go_simp
             with_reducible rfl
           rotate_left
           · simp only [Act.put,List.setIfInBounds_toArray,List.set_cons_zero,List.set_cons_succ,Yq,Yu]
             rfl
           refine done_ (ybP HT_.out Zk) ?_
           try go_wp2
           go_ret
           exact ⟨by first|rfl|(simp [yP,yO] <;> rfl)|(simp only [← hji4]; first|rfl|(simp [yP,yO] <;> rfl))|(simp [*,yP,yO] <;> rfl),by repeat (first|(with_reducible first|exact HB.out|apply ym|apply yn|apply yu)|exact HB.out)⟩
         · rw [if_neg c13] at H
           exact absurd H (by simp)
     · rw [if_neg c6] at H
       exact absurd H (by simp)
   · rw [if_neg c5] at H
     exact absurd H (by simp)
end Go.Proofs.YtdcaggoicdfehaaGreatDoor
namespace Go.Proofs.YtdcaggoicdfehaaGreatDoor
open Go.RowKit Go.Proofs.YtdcaggoicdfehaaGreatDoorW.PrintWords Go.Proofs.YtdcaggoicdfehaaGreatDoorW.PrintLast Go.Proofs.YtdcaggoicdfehaaGreatDoorW.PrintMore
attribute [local go_sem] YX YV Ja Jb YK YL YW YU
def YY.f (k:Nat) (a0:Int):Option (ByteArray):=(Yd.f k a0 10).bind fun t143=>(some t143)
theorem YY.mono:∀ a0 k,LeO (YY.f k a0) (YY.f (k+1) a0):=by
 intro a0 k
 unfold YY.f
 repeat' first
  | (with_reducible exact Yd.mono _ _ _)
  | (with_reducible exact LeO.refl _)
  | (with_reducible exact LeO.none _)
  | (with_reducible refine LeO.ite ?_ ?_)
  | (with_reducible refine LeO.bind ?_ (fun _=>?_))
  | exact Yd.mono _ _ _
  | exact LeO.none _
  | refine LeO.ite ?_ ?_
  | refine LeO.bind ?_ (fun _=>?_)
set_option maxHeartbeats 8000000 in
set_option maxRecDepth 100000 in
theorem YY.calls (k:Nat) (a0:Int) (r:ByteArray) (w:World) (h:YY.f k a0=some r) :
 Calls Tryz.prog 123 #[.int .u64 a0] w fun e w'=>e=.returned (.string r)∧Below w.heap.size w w':=by
 have HB:=yc.mk (Below.refl w.heap.size w)
 have H:((Yd.f k a0 10).bind fun t143=>(some t143))=some r:=h
 clear h
 replace H:=Option.bind_eq_some_iff.mp H
 obtain ⟨t143,A20,H⟩:=H
 replace H:(some t143)=some r:=H
 have A2:=yc.mk A20
 clear A20
 obtain rfl:=Option.some.inj H
 go_enter Tryz.func123,Tryz.ntmps123
 go_wp2_with (first|((with_reducible refine Yz (f:=134) rfl ?_);refine Yp (some 4) rfl rfl Tryz.func134 Zk rfl #[.int .u64 a0,.int .u64 10] rfl (by (try simp only [List.map_toArray,List.map_cons,List.map_nil]);first|done|rfl|(simp only [List.length_drop,List.length_take];rfl)) ?_;(with_reducible refine (Yd.calls k a0 10 t143 _ A2.out).mono ?_);rintro e w3 ⟨rfl,hb⟩;refine ⟨_,rfl,?_⟩;have n0_:=yc.mk (yy Zh hb);clear HB;have HB:=n0_;clear n0_;(try clear hb);(try clear hb2);(try clear hk);(try clear hi)))
 go_ret
 exact ⟨by first|rfl|(simp [yP,yO] <;> rfl)|(simp [*,yP,yO] <;> rfl),by repeat (first|(with_reducible first|exact HB.out|apply ym|apply yn|apply yu)|exact HB.out)⟩
end Go.Proofs.YtdcaggoicdfehaaGreatDoor
namespace Go.Proofs.YtdcaggoicdfehaaGreatDoor
open Go.RowKit Go.Proofs.YtdcaggoicdfehaaGreatDoorW.PrintWords Go.Proofs.YtdcaggoicdfehaaGreatDoorW.PrintLast Go.Proofs.YtdcaggoicdfehaaGreatDoorW.PrintMore
attribute [local go_sem] YX YV Ja Jb YK YL YW YU
def Yv.l0:Nat→ByteArray→ByteArray→List ByteArray→Int→Int→Option (ByteArray)
 | 0,_,_,_,_,_=>none
 | k+1,x1,x5,x8,x9,x10=>if x10<x9 then (if 0≤x10 then (if x10<(x8.length:Int) then (if x10 > 0 then (if x5.size+x1.size≤9223372036854775807 then (if x5.size+x1.size+(YJ ByteArray.empty x8 x10).size≤9223372036854775807 then (Yv.l0 k x1 ((x5++x1)++(YJ ByteArray.empty x8 x10)) x8 x9 (wrap64 (x10+1))) else (none)) else (none)) else (if x5.size+(YJ ByteArray.empty x8 x10).size≤9223372036854775807 then (Yv.l0 k x1 (x5++(YJ ByteArray.empty x8 x10)) x8 x9 (wrap64 (x10+1))) else (none))) else (none)) else (none)) else (some x5)
def Yv.f (k:Nat) (l0:List ByteArray) (a1:ByteArray):Option (ByteArray):=Yv.l0 k a1 (⟨#[]⟩:ByteArray) l0 (l0.length:Int) 0
theorem Yv.YB:∀ k,(∀ y0 y1 y2 y3 y4,LeO (Yv.l0 k y0 y1 y2 y3 y4) (Yv.l0 (k+1) y0 y1 y2 y3 y4))
 | 0=>fun _ _ _ _ _ r h=>by simp [Yv.l0] at h
 | k+1=>by
  have ih0:=Yv.YB k
  · intro y0 y1 y2 y3 y4
    unfold Yv.l0
    repeat' first
    | (with_reducible exact ih0 _ _ _ _ _)
    | (with_reducible exact LeO.refl _)
    | (with_reducible exact LeO.none _)
    | (with_reducible refine LeO.ite ?_ ?_)
    | (with_reducible refine LeO.bind ?_ (fun _=>?_))
    | exact ih0 _ _ _ _ _
    | exact LeO.none _
    | refine LeO.ite ?_ ?_
    | refine LeO.bind ?_ (fun _=>?_)
theorem Yv.mono:∀ a0 a1 k,LeO (Yv.f k a0 a1) (Yv.f (k+1) a0 a1):=by
 intro a0 a1 k
 have ih0:=Yv.YB k
 unfold Yv.f
 repeat' first
  | (with_reducible exact ih0 _ _ _ _ _)
  | (with_reducible exact LeO.refl _)
  | (with_reducible exact LeO.none _)
  | (with_reducible refine LeO.ite ?_ ?_)
  | (with_reducible refine LeO.bind ?_ (fun _=>?_))
  | exact ih0 _ _ _ _ _
  | exact LeO.none _
  | refine LeO.ite ?_ ?_
  | refine LeO.bind ?_ (fun _=>?_)
set_option maxHeartbeats 8000000 in
set_option maxRecDepth 100000 in
theorem Yv.calls (k:Nat) (A0:Option Addr) (c0:Nat) (l0:List ByteArray) (a1:ByteArray) (r:ByteArray) (w:World) (hr0:Kd.C Kd.string w A0 l0.length l0) (hc0:l0.length≤c0) (h:Yv.f k l0 a1=some r) :
 Calls Tryz.prog 124 #[.slice A0 l0.length c0,.string a1] w fun e w'=>e=.returned (.string r)∧yV w w':=by
 have HR0:=yc.mk hr0
 have HC0:=yc.mk hc0
 clear hr0 hc0
 have H:(Yv.l0 k a1 (⟨#[]⟩:ByteArray) l0 (l0.length:Int) 0)=some r:=h
 clear h
 have H':=yc.mk H
 clear H
 go_enter Tryz.func124,Tryz.ntmps124
 go_wp2
 go_loopg [5,10] k (fun kq v5 v10 w'=>∃ (x5_1:ByteArray) (x10_1:Int),v5=.string x5_1∧v10=.int .i64 x10_1∧yc (Yv.l0 kq a1 x5_1 l0 (l0.length:Int) x10_1=some r)∧yc (kq≤k)∧yV w w')
 case atStart=>exact ⟨((⟨#[]⟩:ByteArray)),(0),(by first|rfl|(simp;done)|(simp [*];done)|(simp [yx];done)),(by first|rfl|(simp;done)|(simp [*];done)|(simp [yx];done)),H',⟨Nat.le_refl _⟩,by repeat (first|exact yV.refl _|apply yV.step)⟩
 case round=>
  clear H'
  try clear c1
  try clear p2
  obtain ⟨x5_1,x10_1,rfl,rfl,HA,HK1,⟨m1,rfl⟩⟩:=hrel
  cases gk with
  | zero=>exact absurd HA.out (by simp [Yv.l0])
  | succ k1=>
   have H:=HA.out
   clear HA
   simp only [Yv.l0] at H
   by_cases c3:x10_1<(l0.length:Int)
   · rw [if_pos c3] at H
     have c3b0:decide (x10_1<(l0.length:Int))=true:=decide_eq_true c3
     clear c3
     by_cases c4:0≤x10_1
     · rw [if_pos c4] at H
       have c4b0:decide (0≤x10_1)=true:=decide_eq_true c4
       clear c4
       by_cases c5:x10_1<(l0.length:Int)
       · rw [if_pos c5] at H
         have c5b0:decide (x10_1<(l0.length:Int))=true:=decide_eq_true c5
         clear c5
         by_cases c6:x10_1 > 0
         · rw [if_pos c6] at H
           have c6b0:decide (0<x10_1)=true:=decide_eq_true c6
           clear c6
           by_cases c7:x5_1.size+a1.size≤9223372036854775807
           · rw [if_pos c7] at H
             have c7b0:=eq_true c7
             have c7b1:decide (x5_1.size+a1.size≤9223372036854775807)=true:=decide_eq_true c7
             try have c7b2:(9223372036854775807<x5_1.size+a1.size)=False:=eq_false (Nat.not_lt.2 c7)
             by_cases c8:x5_1.size+a1.size+(YJ ByteArray.empty l0 x10_1).size≤9223372036854775807
             · rw [if_pos c8] at H
               have c8b0:=eq_true c8
               have c8b1:decide (x5_1.size+a1.size+(YJ ByteArray.empty l0 x10_1).size≤9223372036854775807)=true:=decide_eq_true c8
               try have c8b2:(9223372036854775807<x5_1.size+a1.size+(YJ ByteArray.empty l0 x10_1).size)=False:=eq_false (Nat.not_lt.2 c8)
               have H':=yc.mk H
               clear H
               have p176:0≤(x10_1:Int):=of_decide_eq_true (by first|(with_reducible assumption)|assumption)
               have q176:x10_1<(l0.length:Int):=of_decide_eq_true (by first|(with_reducible assumption)|assumption)
               obtain ⟨ad176,e176,hx176_0⟩:=Kd.qc HR0.out x10_1 p176 q176
               cases e176
               replace p176:=eq_true p176
               replace q176:=eq_true q176
               go_wp2
               go_roundg k1
               case measure=>have:=HK1.out;omega
               case rel=>exact ⟨((x5_1++a1)++(YJ ByteArray.empty l0 x10_1)),(wrap64 (x10_1+1)),(by first|rfl|(simp;done)|(simp [*];done)|(simp [yx];done)),(by first|rfl|(simp;done)|(simp [*];done)|(simp [yx];done)),H',⟨by have:=HK1.out;omega⟩,by repeat (first|exact yV.refl _|apply yV.step)⟩
             · rw [if_neg c8] at H
               exact absurd H (by simp)
           · rw [if_neg c7] at H
             exact absurd H (by simp)
         · rw [if_neg c6] at H
           have c6b0:decide (0<x10_1)=false:=decide_eq_false c6
           clear c6
           by_cases c9:x5_1.size+(YJ ByteArray.empty l0 x10_1).size≤9223372036854775807
           · rw [if_pos c9] at H
             have c9b0:=eq_true c9
             have c9b1:decide (x5_1.size+(YJ ByteArray.empty l0 x10_1).size≤9223372036854775807)=true:=decide_eq_true c9
             try have c9b2:(9223372036854775807<x5_1.size+(YJ ByteArray.empty l0 x10_1).size)=False:=eq_false (Nat.not_lt.2 c9)
             have H':=yc.mk H
             clear H
             have p176:0≤(x10_1:Int):=of_decide_eq_true (by first|(with_reducible assumption)|assumption)
             have q176:x10_1<(l0.length:Int):=of_decide_eq_true (by first|(with_reducible assumption)|assumption)
             obtain ⟨ad176,e176,hx176_0⟩:=Kd.qc HR0.out x10_1 p176 q176
             cases e176
             replace p176:=eq_true p176
             replace q176:=eq_true q176
             go_wp2
             go_roundg k1
             case measure=>have:=HK1.out;omega
             case rel=>exact ⟨(x5_1++(YJ ByteArray.empty l0 x10_1)),(wrap64 (x10_1+1)),(by first|rfl|(simp;done)|(simp [*];done)|(simp [yx];done)),(by first|rfl|(simp;done)|(simp [*];done)|(simp [yx];done)),H',⟨by have:=HK1.out;omega⟩,by repeat (first|exact yV.refl _|apply yV.step)⟩
           · rw [if_neg c9] at H
             exact absurd H (by simp)
       · rw [if_neg c5] at H
         exact absurd H (by simp)
     · rw [if_neg c4] at H
       exact absurd H (by simp)
   · rw [if_neg c3] at H
     have c3b0:decide (x10_1<(l0.length:Int))=false:=decide_eq_false c3
     clear c3
     obtain rfl:=Option.some.inj H
     go_wp2
     go_ret
     exact ⟨by first|rfl|(simp;done)|(simp [*];done)|(simp [yx];done),by repeat (first|exact yV.refl _|apply yV.step)⟩
end Go.Proofs.YtdcaggoicdfehaaGreatDoor
