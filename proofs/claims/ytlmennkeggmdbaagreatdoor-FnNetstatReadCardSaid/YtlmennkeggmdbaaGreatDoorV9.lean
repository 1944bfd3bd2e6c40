/- Part 9 of 34 of the proof of the tied card of FnNetstatRead. -/
import Derived.Test.YtlmennkeggmdbaaGreatDoorVz
import Derived.Test.YtlmennkeggmdbaaGreatDoorV3
set_option linter.unusedVariables false
set_option linter.unusedSimpArgs false
namespace Go.Proofs.YtlmennkeggmdbaaGreatDoor
open Go.RowKit Go.Proofs.YtlmennkeggmdbaaGreatDoorW.PrintWords Go.Proofs.YtlmennkeggmdbaaGreatDoorW.PrintLast Go.Proofs.YtlmennkeggmdbaaGreatDoorW.PrintMore
attribute [local go_sem] Yt Yp YE YB Yj Yk Yu Yv
def Yh.f:Nat→Int→Int→Option (ByteArray)
 | 0,_,_=>none
 | k+1,a0,a1=>if a1=0 then (none) else (if 0≤(Int.tmod a0 a1) then (if (Int.tmod a0 a1)<16 then (if a0<a1 then (some (strOfNums (([bt (⟨#[48,49,50,51,52,53,54,55,56,57,97,98,99,100,101,102]⟩:ByteArray) (Int.tmod a0 a1)]:List Int)))) else ((Yh.f k (IntKind.u64.wrap (Int.tdiv a0 a1)) a1).bind fun t150=>((some (([bt (⟨#[48,49,50,51,52,53,54,55,56,57,97,98,99,100,101,102]⟩:ByteArray) (Int.tmod a0 a1)]:List Int):List Int)).bind fun y151=>(if t150.size+(strOfNums y151).size≤9223372036854775807 then (some (t150++(strOfNums y151))) else (none))))) else (none)) else (none))
theorem Yh.YY:∀ k,(∀ y0 y1,LeO (Yh.f k y0 y1) (Yh.f (k+1) y0 y1))
 | 0=>fun _ _ r h=>by simp [Yh.f] at h
 | k+1=>by
  have ih0:=Yh.YY k
  · intro y0 y1
    unfold Yh.f
    repeat' first
    | (with_reducible exact ih0 _ _)
    | (with_reducible exact LeO.refl _)
    | (with_reducible exact LeO.none _)
    | (with_reducible refine LeO.ite ?_ ?_)
    | (with_reducible refine LeO.bind ?_ (fun _=>?_))
    | exact ih0 _ _
    | exact LeO.none _
    | refine LeO.ite ?_ ?_
    | refine LeO.bind ?_ (fun _=>?_)
theorem Yh.mono:∀ a0 a1 k,LeO (Yh.f k a0 a1) (Yh.f (k+1) a0 a1):=by
 intro a0 a1 k
 have ih0:=Yh.YY k
 exact ih0 a0 a1
def Yh.T4:Bool × List (List Nat × List Nat):=(true,[([],[]),([],[]),([0,1],[0,1]),([],[]),([2,3],[2,3]),([],[]),([5],[5]),([6],[6]),([4,7],[4,7]),([8,4,0,1,2,3,4,5,6,7,8],[8])])
def Yh.B4:List Nat:=[0,0,3,0,15,0,32,96,255,511]
theorem Yh.tab4:JM .any (opsOf Tryz.f207 4)=Yh.T4:=by kernel_rfl
theorem Yh.bits4:qd Yh.T4.2 Yh.B4=true:=by kernel_rfl
set_option maxHeartbeats 8000000 in
set_option maxRecDepth 100000 in
theorem Yh.calls (k:Nat):∀ (a0:Int) (a1:Int) (r:ByteArray) (w:World) (h:Yh.f k a0 a1=some r),
 Calls Tryz.prog 207 #[.int .u64 a0,.int .u64 a1] w fun e w'=>e=.returned (.string r)∧Below w.heap.size w w':=by
 induction k using Nat.strongRecOn with
 | _ k ih=>
 intro a0 a1 r w h
 cases k with
 | zero=>exact absurd h (by simp [Yh.f])
 | succ k=>
 simp only [Yh.f] at h
 have HB:=yc.mk (Below.refl w.heap.size w)
 have H:(if a1=0 then (none) else (if 0≤(Int.tmod a0 a1) then (if (Int.tmod a0 a1)<16 then (if a0<a1 then (some (strOfNums (([bt (⟨#[48,49,50,51,52,53,54,55,56,57,97,98,99,100,101,102]⟩:ByteArray) (Int.tmod a0 a1)]:List Int)))) else ((Yh.f k (IntKind.u64.wrap (Int.tdiv a0 a1)) a1).bind fun t150=>((some (([bt (⟨#[48,49,50,51,52,53,54,55,56,57,97,98,99,100,101,102]⟩:ByteArray) (Int.tmod a0 a1)]:List Int):List Int)).bind fun y151=>(if t150.size+(strOfNums y151).size≤9223372036854775807 then (some (t150++(strOfNums y151))) else (none))))) else (none)) else (none)))=some r:=h
 clear h
 by_cases c3:a1=0
 · rw [if_pos c3] at H
   exact absurd H (by simp)
 · rw [if_neg c3] at H
   have c3b0:(a1 == 0)=false:=beq_eq_false_iff_ne.mpr c3
   have c3b1:(a1 != 0)=true:=bne_iff_ne.mpr c3
   obtain ⟨ji4,hji4⟩:∃ j_:Int,(Int.tmod a0 a1)=j_:=⟨_,rfl⟩
   replace H:(if 0≤(ji4) then (if (ji4)<16 then (if a0<a1 then (some (strOfNums (([bt (⟨#[48,49,50,51,52,53,54,55,56,57,97,98,99,100,101,102]⟩:ByteArray) (ji4)]:List Int)))) else ((Yh.f k (IntKind.u64.wrap (Int.tdiv a0 a1)) a1).bind fun t150=>((some (([bt (⟨#[48,49,50,51,52,53,54,55,56,57,97,98,99,100,101,102]⟩:ByteArray) (ji4)]:List Int):List Int)).bind fun y151=>(if t150.size+(strOfNums y151).size≤9223372036854775807 then (some (t150++(strOfNums y151))) else (none))))) else (none)) else (none))=some r:=by first|(rw [hji4] at H;exact H)|(simp only [hji4] at H ⊢;exact H)
   by_cases c5:0≤(ji4)
   · rw [if_pos c5] at H
     have c5b0:decide (0≤(ji4))=true:=decide_eq_true c5
     clear c5
     by_cases c6:(ji4)<16
     · rw [if_pos c6] at H
       have c6b0:decide ((ji4)<16)=true:=decide_eq_true c6
       clear c6
       by_cases c8:a0<a1
       · rw [if_pos c8] at H
         have c8b0:decide (a0<a1)=true:=decide_eq_true c8
         clear c8
         obtain ⟨y147,hy147⟩:∃ y_:List Int,y_=(([bt (⟨#[48,49,50,51,52,53,54,55,56,57,97,98,99,100,101,102]⟩:ByteArray) (ji4)]:List Int)):=⟨_,rfl⟩
         replace H:(some (strOfNums y147))=some r:=by first|(rw [hy147];with_reducible exact H)|(have H2_:=(Option.bind_some _ _).symm.trans H;rw [hy147];with_reducible exact H2_)|(have H2_:=(Option.bind_some _ _).symm.trans H;with_reducible exact H2_)|with_reducible exact H|(rw [hy147];exact H)|exact H
         have Ny147:=yc.mk hy147
         clear hy147
         obtain rfl:=Option.some.inj H
         have p7:0≤((ji4):Int):=of_decide_eq_true (by first|(with_reducible assumption)|assumption)
         have q7:(ji4)<(16:Int):=of_decide_eq_true (by first|(with_reducible assumption)|assumption)
         have hx7:=yaN (⟨#[48,49,50,51,52,53,54,55,56,57,97,98,99,100,101,102]⟩:ByteArray) (ji4)
         replace p7:=eq_true p7
         replace q7:=eq_true q7
         go_enter Tryz.func207,Tryz.ntmps207
         go_wp2_with (first|((with_reducible refine YX (N:=14) rfl ?_);refine Kd.R_lit (Kd.int .u8) _ 5 ?hg (N:=14) ?hd (xs:=([bt (⟨#[48,49,50,51,52,53,54,55,56,57,97,98,99,100,101,102]⟩:ByteArray) (ji4)]:List Int)) (inner:=[.int .u8 (bt (⟨#[48,49,50,51,52,53,54,55,56,57,97,98,99,100,101,102]⟩:ByteArray) (ji4))]) (ok:=fun _=>True) (okp:=fun _=>True) ?hr ?hp (fun _ hk=>hk) trivial (Below.refl _ _) (Nat.le_refl _) (by simp) ?_;(case hd=>rfl);(case hg=>rfl);(case hr=>first|(go_simp;done)|(go_simp;rfl));(case hp=>exact (YM.one (show Kd.M (Kd.int .u8) _ _ _ (bt (⟨#[48,49,50,51,52,53,54,55,56,57,97,98,99,100,101,102]⟩:ByteArray) (ji4)) [.int .u8 (bt (⟨#[48,49,50,51,52,53,54,55,56,57,97,98,99,100,101,102]⟩:ByteArray) (ji4))] from rfl) (YM.none _ _)));intro v148 w9 ho10 hb hg_ hnew_;clear hg_ hnew_;(first|rw [← Ny147.out] at ho10|(simp only [Int.reduceToNat] at ho10;rw [← Ny147.out] at ho10));have n0_:=yc.mk (Kd.Ji ho10 (yt Zh));have n1_:=yc.mk (yw Zh hb);clear HB;have HO149:=n0_;have HB:=n1_;clear n0_ n1_;clear hb ho10;have hcv11:=yaz (P:=Tryz.prog) Tryz.underlying86 Tryz.underlying5 Tryz.underlying9 (Kd.ybU HO149.out)))
         go_ret
         exact ⟨by first|rfl|(simp [yK,yL] <;> rfl)|(simp only [← hji4]; first|rfl|(simp [yK,yL] <;> rfl))|(simp [*,yK,yL] <;> rfl),by repeat (first|(with_reducible first|exact HB.out|apply yl|apply ym|apply yp)|exact HB.out)⟩
       · rw [if_neg c8] at H
         have c8b0:decide (a0<a1)=false:=decide_eq_false c8
         clear c8
         replace H:=Option.bind_eq_some_iff.mp H
         obtain ⟨t150,A120,H⟩:=H
         replace H:((some (([bt (⟨#[48,49,50,51,52,53,54,55,56,57,97,98,99,100,101,102]⟩:ByteArray) (ji4)]:List Int):List Int)).bind fun y151=>(if t150.size+(strOfNums y151).size≤9223372036854775807 then (some (t150++(strOfNums y151))) else (none)))=some r:=H
         have A12:=yc.mk A120
         clear A120
         obtain ⟨y151,hy151⟩:∃ y_:List Int,y_=(([bt (⟨#[48,49,50,51,52,53,54,55,56,57,97,98,99,100,101,102]⟩:ByteArray) (ji4)]:List Int)):=⟨_,rfl⟩
         replace H:(if t150.size+(strOfNums y151).size≤9223372036854775807 then (some (t150++(strOfNums y151))) else (none))=some r:=by first|(rw [hy151];with_reducible exact H)|(have H2_:=(Option.bind_some _ _).symm.trans H;rw [hy151];with_reducible exact H2_)|(have H2_:=(Option.bind_some _ _).symm.trans H;with_reducible exact H2_)|with_reducible exact H|(rw [hy151];exact H)|exact H
         have Ny151:=yc.mk hy151
         clear hy151
         by_cases c13:t150.size+(strOfNums y151).size≤9223372036854775807
         · rw [if_pos c13] at H
           have c13b0:=eq_true c13
           have c13b1:decide (t150.size+(strOfNums y151).size≤9223372036854775807)=true:=decide_eq_true c13
           try have c13b2:(9223372036854775807<t150.size+(strOfNums y151).size)=False:=eq_false (Nat.not_lt.2 c13)
           obtain rfl:=Option.some.inj H
           have p7:0≤((ji4):Int):=of_decide_eq_true (by first|(with_reducible assumption)|assumption)
           have q7:(ji4)<(16:Int):=of_decide_eq_true (by first|(with_reducible assumption)|assumption)
           have hx7:=yaN (⟨#[48,49,50,51,52,53,54,55,56,57,97,98,99,100,101,102]⟩:ByteArray) (ji4)
           replace p7:=eq_true p7
           replace q7:=eq_true q7
           go_enter Tryz.func207,Tryz.ntmps207
           try go_wp2
           have n0_:=yc.mk (yp HB.out)
           clear HB
           have HB:=n0_
           clear n0_
           refine QQ (n:=10) (S:=fun w'=>True) (ds:=[]) #[false,false,false,false,false,false,false,false,false,false] Zk rfl rfl trivial (fun hHeld=>?_);refine qP Yh.tab4 Yh.bits4 (fun HT_ HW_=>?_)
           generalize w.drew=w14 at HB hHeld ⊢
           refine Ya (i:=0) (N:=some 16) (v:=?_) (a':=?_) #[true,false,false,false,false,false,false,false,false,false] rfl rfl (yN HT_.out Zk) (fun _ _ _ h=>h) (Or.inl ⟨by rfl,?_⟩) ?_ ?_
           rotate_left
           · intro w'
             go_simp
             with_reducible rfl
           rotate_left
           · simp only [Act.put,List.setIfInBounds_toArray,List.set_cons_zero,List.set_cons_succ,yM,yP]
             rfl
           refine Ya (i:=1) (N:=some 17) (v:=?_) (a':=?_) #[true,true,false,false,false,false,false,false,false,false] rfl rfl (yN HT_.out Zk) (fun _ _ _ h=>h) (Or.inl ⟨by rfl,?_⟩) ?_ ?_
           rotate_left
           · intro w'
             go_simp
             with_reducible rfl
           rotate_left
           · simp only [Act.put,List.setIfInBounds_toArray,List.set_cons_zero,List.set_cons_succ,yM,yP]
             rfl
           refine Ya (i:=2) (N:=some 18) (v:=?_) (a':=?_) #[true,true,true,false,false,false,false,false,false,false] rfl rfl (yN HT_.out Zk) (fun _ _ _ h=>h) (Or.inl ⟨by rfl,?_⟩) ?_ ?_
           rotate_left
           · intro w'
             go_simp
             with_reducible rfl
           rotate_left
           · simp only [Act.put,List.setIfInBounds_toArray,List.set_cons_zero,List.set_cons_succ,yM,yP]
             rfl
           refine Ya (i:=3) (N:=some 19) (v:=?_) (a':=?_) #[true,true,true,true,false,false,false,false,false,false] rfl rfl (yN HT_.out Zk) (fun _ _ _ h=>h) (Or.inl ⟨by rfl,?_⟩) ?_ ?_
           rotate_left
           · intro w'
             go_simp
             with_reducible rfl
           rotate_left
           · simp only [Act.put,List.setIfInBounds_toArray,List.set_cons_zero,List.set_cons_succ,yM,yP]
             rfl
           refine Ya (i:=5) (N:=some 21) (v:=?_) (a':=?_) #[true,true,true,true,false,true,false,false,false,false] rfl rfl (yN HT_.out Zk) (fun _ _ _ h=>h) (Or.inl ⟨by rfl,?_⟩) ?_ ?_
           rotate_left
           · intro w'
             go_simp
             with_reducible rfl
           rotate_left
           · simp only [Act.put,List.setIfInBounds_toArray,List.set_cons_zero,List.set_cons_succ,yM,yP]
             rfl
           refine join_ (σ:=Value) 2 #[true,true,true,true,true,true,true,true,false,false] (fun s_=>[(20,.string t150),(22,s_),(23,.string (strOfNums y151))]) (fun s_ w'=>(Kd.R (Kd.int .u8) 5 w' w.heap.size (fun _=>True) s_ y151)∧(Below w.heap.size w w')) ?_ ?_
           rotate_left
           · intro hCont
             refine two_ (i:=4) (j:=6) (Ni:=some 20) (Nj:=some 22) #[true,true,true,true,true,true,false,false,false,false] #[true,true,true,true,false,true,true,false,false,false] rfl rfl rfl rfl (two_of HT_.out Zk) Zd Zd (fun K hK=>?_) (fun K hK=>?_)
             · skip
               refine goes_ Tryz.func207 Zk rfl #[.int .u64 (IntKind.u64.wrap (Int.tdiv a0 a1)),.int .u64 a1] (by rfl) rfl rfl (by (try simp only [List.map_toArray,List.map_cons,List.map_nil]);first|done|rfl|(simp only [List.length_drop,List.length_take];rfl)) ?_
               with_reducible refine (ih k Zo (IntKind.u64.wrap (Int.tdiv a0 a1)) a1 t150 _ A12.out).mono ?_
               rintro e w15 ⟨rfl,hb⟩
               refine ⟨_,rfl,?_⟩
               have n0_:=yc.mk (yw Zh hb)
               clear HB
               have HB:=n0_
               clear n0_
               (try clear hb)
               (try clear hb2)
               (try clear hk)
               (try clear hi)
               refine hK.out _ _ trivial (fun hHeld=>?_)
               clear hK K
               refine qV (a':=?_) ?_ ?_
               rotate_left
               · show Act.put _ (some 20) _=_
                 simp only [Act.put,List.setIfInBounds_toArray,List.set_cons_zero,List.set_cons_succ,yM,yP]
                 rfl
               refine one_ (i:=6) (N:=some 22) #[true,true,true,true,true,true,true,false,false,false] rfl rfl (Qk HT_.out Zk) Zd (fun K hK=>?_)
               refine Kd.ycX (Kd.int .u8) _ 5 ?hg (N:=22) ?hd (xs:=([bt (⟨#[48,49,50,51,52,53,54,55,56,57,97,98,99,100,101,102]⟩:ByteArray) (ji4)]:List Int)) (inner:=[.int .u8 (bt (⟨#[48,49,50,51,52,53,54,55,56,57,97,98,99,100,101,102]⟩:ByteArray) (ji4))]) (ok:=fun _=>True) (okp:=fun _=>True) ?hr ?hp (fun _ hk=>hk) trivial (Below.refl _ _) (Nat.le_refl _) (by simp) ?_;(case hd=>rfl);(case hg=>rfl);(case hr=>first|(go_simp;done)|(go_simp;rfl));(case hp=>exact (YM.one (show Kd.M (Kd.int .u8) _ _ _ (bt (⟨#[48,49,50,51,52,53,54,55,56,57,97,98,99,100,101,102]⟩:ByteArray) (ji4)) [.int .u8 (bt (⟨#[48,49,50,51,52,53,54,55,56,57,97,98,99,100,101,102]⟩:ByteArray) (ji4))] from rfl) (YM.none _ _)))
               intro v152 w16 ho17 hb hg_ hnew_
               clear hg_ hnew_
               (first|rw [← Ny151.out] at ho17|(simp only [Int.reduceToNat] at ho17;rw [← Ny151.out] at ho17))
               have n0_:=yc.mk (Kd.Ji ho17 (yt Zh))
               have n1_:=yc.mk (yw Zh hb)
               clear HB
               have HO153:=n0_
               have HB:=n1_
               clear n0_ n1_
               clear hb ho17
               refine hK.out _ _ trivial (fun hHeld=>?_)
               clear hK K
               refine qV (a':=?_) ?_ ?_
               rotate_left
               · show Act.put _ (some 22) _=_
                 simp only [Act.put,List.setIfInBounds_toArray,List.set_cons_zero,List.set_cons_succ,yM,yP]
                 rfl
               refine one_ (i:=7) (N:=some 23) #[true,true,true,true,true,true,true,true,false,false] rfl rfl (Qk HT_.out Zk) Zd (fun K hK=>?_)
               have hcv18:=yaz (P:=Tryz.prog) Tryz.underlying86 Tryz.underlying5 Tryz.underlying9 (Kd.ybU HO153.out)
               refine QD (w1:=?_) (v:=?_) (by rfl) rfl ?_ ?_
               rotate_left 2
               · go_simp
                 constructor
                 · rfl
                 · rfl
               clear hcv18
               refine hK.out _ _ trivial (fun hHeld=>?_)
               clear hK K
               refine qV (a':=?_) ?_ ?_
               rotate_left
               · show Act.put _ (some 23) _=_
                 simp only [Act.put,List.setIfInBounds_toArray,List.set_cons_zero,List.set_cons_succ,yM,yP]
                 rfl
               exact qV (by simp only [ybw,Act.put,List.setIfInBounds_toArray,List.set_cons_zero,List.set_cons_succ]) (hCont (v152) _ ⟨(Zr HO153.out),Zh⟩)
             · skip
               refine Kd.ycX (Kd.int .u8) _ 5 ?hg (N:=22) ?hd (xs:=([bt (⟨#[48,49,50,51,52,53,54,55,56,57,97,98,99,100,101,102]⟩:ByteArray) (ji4)]:List Int)) (inner:=[.int .u8 (bt (⟨#[48,49,50,51,52,53,54,55,56,57,97,98,99,100,101,102]⟩:ByteArray) (ji4))]) (ok:=fun _=>True) (okp:=fun _=>True) ?hr ?hp (fun _ hk=>hk) trivial (Below.refl _ _) (Nat.le_refl _) (by simp) ?_;(case hd=>rfl);(case hg=>rfl);(case hr=>first|(go_simp;done)|(go_simp;rfl));(case hp=>exact (YM.one (show Kd.M (Kd.int .u8) _ _ _ (bt (⟨#[48,49,50,51,52,53,54,55,56,57,97,98,99,100,101,102]⟩:ByteArray) (ji4)) [.int .u8 (bt (⟨#[48,49,50,51,52,53,54,55,56,57,97,98,99,100,101,102]⟩:ByteArray) (ji4))] from rfl) (YM.none _ _)))
               intro v152 w15 ho16 hb hg_ hnew_
               clear hg_ hnew_
               (first|rw [← Ny151.out] at ho16|(simp only [Int.reduceToNat] at ho16;rw [← Ny151.out] at ho16))
               have n0_:=yc.mk (Kd.Ji ho16 (yt Zh))
               have n1_:=yc.mk (yw Zh hb)
               clear HB
               have HO153:=n0_
               have HB:=n1_
               clear n0_ n1_
               clear hb ho16
               refine hK.out _ _ trivial (fun hHeld=>?_)
               clear hK K
               refine qV (a':=?_) ?_ ?_
               rotate_left
               · show Act.put _ (some 22) _=_
                 simp only [Act.put,List.setIfInBounds_toArray,List.set_cons_zero,List.set_cons_succ,yM,yP]
                 rfl
               refine two_ (i:=4) (j:=7) (Ni:=some 20) (Nj:=some 23) #[true,true,true,true,true,true,true,false,false,false] #[true,true,true,true,false,true,true,true,false,false] rfl rfl rfl rfl (two_of HT_.out Zk) Zd Zd (fun K hK=>?_) (fun K hK=>?_)
               · skip
                 refine goes_ Tryz.func207 Zk rfl #[.int .u64 (IntKind.u64.wrap (Int.tdiv a0 a1)),.int .u64 a1] (by rfl) rfl rfl (by (try simp only [List.map_toArray,List.map_cons,List.map_nil]);first|done|rfl|(simp only [List.length_drop,List.length_take];rfl)) ?_
                 with_reducible refine (ih k Zo (IntKind.u64.wrap (Int.tdiv a0 a1)) a1 t150 _ A12.out).mono ?_
                 rintro e w17 ⟨rfl,hb⟩
                 refine ⟨_,rfl,?_⟩
                 have n0_:=yc.mk (Kd.Y1 (Zr HO153.out) hb)
                 have n1_:=yc.mk (yw Zh hb)
                 clear HO153
                 clear HB
                 have HO153:=n0_
                 have HB:=n1_
                 clear n0_ n1_
                 (try clear hb)
                 (try clear hb2)
                 (try clear hk)
                 (try clear hi)
                 refine hK.out _ _ trivial (fun hHeld=>?_)
                 clear hK K
                 refine qV (a':=?_) ?_ ?_
                 rotate_left
                 · show Act.put _ (some 20) _=_
                   simp only [Act.put,List.setIfInBounds_toArray,List.set_cons_zero,List.set_cons_succ,yM,yP]
                   rfl
                 refine one_ (i:=7) (N:=some 23) #[true,true,true,true,true,true,true,true,false,false] rfl rfl (Qk HT_.out Zk) Zd (fun K hK=>?_)
                 have hcv18:=yaz (P:=Tryz.prog) Tryz.underlying86 Tryz.underlying5 Tryz.underlying9 (Kd.ybU HO153.out)
                 refine QD (w1:=?_) (v:=?_) (by rfl) rfl ?_ ?_
                 rotate_left 2
                 · go_simp
                   constructor
                   · rfl
                   · rfl
                 clear hcv18
                 refine hK.out _ _ trivial (fun hHeld=>?_)
                 clear hK K
                 refine qV (a':=?_) ?_ ?_
                 rotate_left
                 · show Act.put _ (some 23) _=_
                   simp only [Act.put,List.setIfInBounds_toArray,List.set_cons_zero,List.set_cons_succ,yM,yP]
                   rfl
                 exact qV (by simp only [ybw,Act.put,List.setIfInBounds_toArray,List.set_cons_zero,List.set_cons_succ]) (hCont (v152) _ ⟨(Zr HO153.out),Zh⟩)
               · skip
                 have hcv17:=yaz (P:=Tryz.prog) Tryz.underlying86 Tryz.underlying5 Tryz.underlying9 (Kd.ybU HO153.out)
                 refine QD (w1:=?_) (v:=?_) (by rfl) rfl ?_ ?_
                 rotate_left 2
                 · go_simp
                   constructor
                   · rfl
                   · rfl
                 clear hcv17
                 refine hK.out _ _ trivial (fun hHeld=>?_)
                 clear hK K
                 refine qV (a':=?_) ?_ ?_
                 rotate_left
                 · show Act.put _ (some 23) _=_
                   simp only [Act.put,List.setIfInBounds_toArray,List.set_cons_zero,List.set_cons_succ,yM,yP]
                   rfl
                 refine one_ (i:=4) (N:=some 20) #[true,true,true,true,true,true,true,true,false,false] rfl rfl (Qk HT_.out Zk) Zd (fun K hK=>?_)
                 refine goes_ Tryz.func207 Zk rfl #[.int .u64 (IntKind.u64.wrap (Int.tdiv a0 a1)),.int .u64 a1] (by rfl) rfl rfl (by (try simp only [List.map_toArray,List.map_cons,List.map_nil]);first|done|rfl|(simp only [List.length_drop,List.length_take];rfl)) ?_
                 with_reducible refine (ih k Zo (IntKind.u64.wrap (Int.tdiv a0 a1)) a1 t150 _ A12.out).mono ?_
                 rintro e w18 ⟨rfl,hb⟩
                 refine ⟨_,rfl,?_⟩
                 have n0_:=yc.mk (Kd.Y1 (Zr HO153.out) hb)
                 have n1_:=yc.mk (yw Zh hb)
                 clear HO153
                 clear HB
                 have HO153:=n0_
                 have HB:=n1_
                 clear n0_ n1_
                 (try clear hb)
                 (try clear hb2)
                 (try clear hk)
                 (try clear hi)
                 refine hK.out _ _ trivial (fun hHeld=>?_)
                 clear hK K
                 refine qV (a':=?_) ?_ ?_
                 rotate_left
                 · show Act.put _ (some 20) _=_
                   simp only [Act.put,List.setIfInBounds_toArray,List.set_cons_zero,List.set_cons_succ,yM,yP]
                   rfl
                 exact qV (by simp only [ybw,Act.put,List.setIfInBounds_toArray,List.set_cons_zero,List.set_cons_succ]) (hCont (v152) _ ⟨(Zr HO153.out),Zh⟩)
           rintro v152 w19 ⟨h0_,h1_⟩
           have n0_:yc (Kd.R (Kd.int .u8) 5 w19 w.heap.size (fun _=>True) v152 y151):=⟨h0_⟩
           have n1_:yc (Below w.heap.size w w19):=⟨h1_⟩
           clear HB
           clear h0_ h1_
           have HO153:=n0_
           have HB:=n1_
           clear n0_ n1_
           have hHeld:=trivial
           refine qV (a':=?_) ?_ ?_
           rotate_left
           · simp only [ybw,Act.put,List.setIfInBounds_toArray,List.set_cons_zero,List.set_cons_succ]
             rfl
           refine Ya (i:=8) (N:=some 24) (v:=?_) (a':=?_) #[true,true,true,true,true,true,true,true,true,false] rfl rfl (yN HT_.out Zk) (fun _ _ _ h=>h) (Or.inl ⟨by rfl,?_⟩) ?_ ?_
           rotate_left
           · intro w'
             go_simp
             with_reducible rfl
           rotate_left
           · simp only [Act.put,List.setIfInBounds_toArray,List.set_cons_zero,List.set_cons_succ,yM,yP]
             rfl
           refine Ya (i:=9) (N:=some 4) (v:=?_) (a':=?_) #[true,true,true,true,true,true,true,true,true,true] rfl rfl (yN HT_.out Zk) (fun _ _ _ h=>h) (Or.inl ⟨by rfl,?_⟩) ?_ ?_
           rotate_left
           · intro w'
             go_simp
             with_reducible rfl
           rotate_left
           · simp only [Act.put,List.setIfInBounds_toArray,List.set_cons_zero,List.set_cons_succ,yM,yP]
             rfl
           refine done_ (QW HT_.out Zk) ?_
           try go_wp2
           go_ret
           exact ⟨by first|rfl|(simp [yK,yL] <;> rfl)|(simp only [← hji4]; first|rfl|(simp [yK,yL] <;> rfl))|(simp [*,yK,yL] <;> rfl),by repeat (first|(with_reducible first|exact HB.out|apply yl|apply ym|apply yp)|exact HB.out)⟩
         · rw [if_neg c13] at H
           exact absurd H (by simp)
     · rw [if_neg c6] at H
       exact absurd H (by simp)
   · rw [if_neg c5] at H
     exact absurd H (by simp)
end Go.Proofs.YtlmennkeggmdbaaGreatDoor
namespace Go.Proofs.YtlmennkeggmdbaaGreatDoor
open Go.RowKit Go.Proofs.YtlmennkeggmdbaaGreatDoorW.PrintWords Go.Proofs.YtlmennkeggmdbaaGreatDoorW.PrintLast Go.Proofs.YtlmennkeggmdbaaGreatDoorW.PrintMore
attribute [local go_sem] Yt Yp YE YB Yj Yk Yu Yv
def Jx.f (k:Nat) (a0:Int):Option (ByteArray):=(Yh.f k a0 10).bind fun t154=>(some t154)
theorem Jx.mono:∀ a0 k,LeO (Jx.f k a0) (Jx.f (k+1) a0):=by
 intro a0 k
 unfold Jx.f
 repeat' first
  | (with_reducible exact Yh.mono _ _ _)
  | (with_reducible exact LeO.refl _)
  | (with_reducible exact LeO.none _)
  | (with_reducible refine LeO.ite ?_ ?_)
  | (with_reducible refine LeO.bind ?_ (fun _=>?_))
  | exact Yh.mono _ _ _
  | exact LeO.none _
  | refine LeO.ite ?_ ?_
  | refine LeO.bind ?_ (fun _=>?_)
set_option maxHeartbeats 8000000 in
set_option maxRecDepth 100000 in
theorem Jx.calls (k:Nat) (a0:Int) (r:ByteArray) (w:World) (h:Jx.f k a0=some r) :
 Calls Tryz.prog 51 #[.int .u64 a0] w fun e w'=>e=.returned (.string r)∧Below w.heap.size w w':=by
 have HB:=yc.mk (Below.refl w.heap.size w)
 have H:((Yh.f k a0 10).bind fun t154=>(some t154))=some r:=h
 clear h
 replace H:=Option.bind_eq_some_iff.mp H
 obtain ⟨t154,A20,H⟩:=H
 replace H:(some t154)=some r:=H
 have A2:=yc.mk A20
 clear A20
 obtain rfl:=Option.some.inj H
 go_enter Tryz.func51,Tryz.ntmps51
 go_wp2_with (first|((with_reducible refine yW (f:=207) rfl ?_);refine YD (some 4) rfl rfl Tryz.func207 Zk rfl #[.int .u64 a0,.int .u64 10] rfl (by (try simp only [List.map_toArray,List.map_cons,List.map_nil]);first|done|rfl|(simp only [List.length_drop,List.length_take];rfl)) ?_;(with_reducible refine (Yh.calls k a0 10 t154 _ A2.out).mono ?_);rintro e w3 ⟨rfl,hb⟩;refine ⟨_,rfl,?_⟩;have n0_:=yc.mk (yw Zh hb);clear HB;have HB:=n0_;clear n0_;(try clear hb);(try clear hb2);(try clear hk);(try clear hi)))
 go_ret
 exact ⟨by first|rfl|(simp [yK,yL] <;> rfl)|(simp [*,yK,yL] <;> rfl),by repeat (first|(with_reducible first|exact HB.out|apply yl|apply ym|apply yp)|exact HB.out)⟩
end Go.Proofs.YtlmennkeggmdbaaGreatDoor
namespace Go.Proofs.YtlmennkeggmdbaaGreatDoor
open Go.RowKit Go.Proofs.YtlmennkeggmdbaaGreatDoorW.PrintWords Go.Proofs.YtlmennkeggmdbaaGreatDoorW.PrintLast Go.Proofs.YtlmennkeggmdbaaGreatDoorW.PrintMore
attribute [local go_sem] Yt Yp YE YB Yj Yk Yu Yv
def yO.f (k:Nat) (a0:Int):Option (ByteArray):=if a0<0 then ((Jx.f k (IntKind.u64.wrap ((IntKind.u64.wrap (wrap64 (-(wrap64 (a0+1)))))+1))).bind fun t155=>(if 1+t155.size≤9223372036854775807 then (some ((⟨#[45]⟩:ByteArray)++t155)) else (none))) else ((Jx.f k (IntKind.u64.wrap (a0))).bind fun t156=>(some t156))
theorem yO.mono:∀ a0 k,LeO (yO.f k a0) (yO.f (k+1) a0):=by
 intro a0 k
 unfold yO.f
 repeat' first
  | (with_reducible exact Jx.mono _ _)
  | (with_reducible exact LeO.refl _)
  | (with_reducible exact LeO.none _)
  | (with_reducible refine LeO.ite ?_ ?_)
  | (with_reducible refine LeO.bind ?_ (fun _=>?_))
  | exact Jx.mono _ _
  | exact LeO.none _
  | refine LeO.ite ?_ ?_
  | refine LeO.bind ?_ (fun _=>?_)
set_option maxHeartbeats 8000000 in
set_option maxRecDepth 100000 in
theorem yO.calls (k:Nat) (a0:Int) (r:ByteArray) (w:World) (h:yO.f k a0=some r) :
 Calls Tryz.prog 28 #[.int .i64 a0] w fun e w'=>e=.returned (.string r)∧Below w.heap.size w w':=by
 have HB:=yc.mk (Below.refl w.heap.size w)
 have H:(if a0<0 then ((Jx.f k (IntKind.u64.wrap ((IntKind.u64.wrap (wrap64 (-(wrap64 (a0+1)))))+1))).bind fun t155=>(if 1+t155.size≤9223372036854775807 then (some ((⟨#[45]⟩:ByteArray)++t155)) else (none))) else ((Jx.f k (IntKind.u64.wrap (a0))).bind fun t156=>(some t156)))=some r:=h
 clear h
 by_cases c2:a0<0
 · rw [if_pos c2] at H
   have c2b0:decide (a0<0)=true:=decide_eq_true c2
   clear c2
   replace H:=Option.bind_eq_some_iff.mp H
   obtain ⟨t155,A30,H⟩:=H
   replace H:(if 1+t155.size≤9223372036854775807 then (some ((⟨#[45]⟩:ByteArray)++t155)) else (none))=some r:=H
   have A3:=yc.mk A30
   clear A30
   by_cases c4:1+t155.size≤9223372036854775807
   · rw [if_pos c4] at H
     have c4b0:=eq_true c4
     have c4b1:decide (1+t155.size≤9223372036854775807)=true:=decide_eq_true c4
     try have c4b2:(9223372036854775807<1+t155.size)=False:=eq_false (Nat.not_lt.2 c4)
     obtain rfl:=Option.some.inj H
     go_enter Tryz.func28,Tryz.ntmps28
     go_wp2_with (first|((with_reducible refine yW (f:=51) rfl ?_);refine YD (some 10) rfl rfl Tryz.func51 Zk rfl #[.int .u64 (IntKind.u64.wrap ((IntKind.u64.wrap (wrap64 (-(wrap64 (a0+1)))))+1))] rfl (by (try simp only [List.map_toArray,List.map_cons,List.map_nil]);first|done|rfl|(simp only [List.length_drop,List.length_take];rfl)) ?_;(with_reducible refine (Jx.calls k (IntKind.u64.wrap ((IntKind.u64.wrap (wrap64 (-(wrap64 (a0+1)))))+1)) t155 _ A3.out).mono ?_);rintro e w5 ⟨rfl,hb⟩;refine ⟨_,rfl,?_⟩;have n0_:=yc.mk (yw Zh hb);clear HB;have HB:=n0_;clear n0_;(try clear hb);(try clear hb2);(try clear hk);(try clear hi)))
     go_ret
     exact ⟨by first|rfl|(simp [yK,yL] <;> rfl)|(simp [*,yK,yL] <;> rfl),by repeat (first|(with_reducible first|exact HB.out|apply yl|apply ym|apply yp)|exact HB.out)⟩
   · rw [if_neg c4] at H
     exact absurd H (by simp)
 · rw [if_neg c2] at H
   have c2b0:decide (a0<0)=false:=decide_eq_false c2
   clear c2
   replace H:=Option.bind_eq_some_iff.mp H
   obtain ⟨t156,A60,H⟩:=H
   replace H:(some t156)=some r:=H
   have A6:=yc.mk A60
   clear A60
   obtain rfl:=Option.some.inj H
   go_enter Tryz.func28,Tryz.ntmps28
   go_wp2_with (first|((with_reducible refine yW (f:=51) rfl ?_);refine YD (some 14) rfl rfl Tryz.func51 Zk rfl #[.int .u64 (IntKind.u64.wrap (a0))] rfl (by (try simp only [List.map_toArray,List.map_cons,List.map_nil]);first|done|rfl|(simp only [List.length_drop,List.length_take];rfl)) ?_;(with_reducible refine (Jx.calls k (IntKind.u64.wrap (a0)) t156 _ A6.out).mono ?_);rintro e w7 ⟨rfl,hb⟩;refine ⟨_,rfl,?_⟩;have n0_:=yc.mk (yw Zh hb);clear HB;have HB:=n0_;clear n0_;(try clear hb);(try clear hb2);(try clear hk);(try clear hi)))
   go_ret
   exact ⟨by first|rfl|(simp [yK,yL] <;> rfl)|(simp [*,yK,yL] <;> rfl),by repeat (first|(with_reducible first|exact HB.out|apply yl|apply ym|apply yp)|exact HB.out)⟩
end Go.Proofs.YtlmennkeggmdbaaGreatDoor
namespace Go.Proofs.YtlmennkeggmdbaaGreatDoor
open Go.RowKit Go.Proofs.YtlmennkeggmdbaaGreatDoorW.PrintWords Go.Proofs.YtlmennkeggmdbaaGreatDoorW.PrintLast Go.Proofs.YtlmennkeggmdbaaGreatDoorW.PrintMore
attribute [local go_sem] Yt Yp YE YB Yj Yk Yu Yv
def JC.f (a0:ByteArray) (a1:ByteArray):Option (Bool):=if (a0.size:Int)≥(a1.size:Int) then (if 0≤(a1.size:Int) then (if (a1.size:Int)≤(a0.size:Int) then (some ((a0.extract 0 ((a1.size:Int):Int).toNat).toList == a1.toList)) else (none)) else (none)) else (some false)
set_option maxHeartbeats 8000000 in
set_option maxRecDepth 100000 in
theorem JC.calls (a0:ByteArray) (a1:ByteArray) (r:Bool) (w:World) (h:JC.f a0 a1=some r) :
 Calls Tryz.prog 49 #[.string a0,.string a1] w fun e w'=>e=.returned (.bool r)∧yD w w':=by
 have H:(if (a0.size:Int)≥(a1.size:Int) then (if 0≤(a1.size:Int) then (if (a1.size:Int)≤(a0.size:Int) then (some ((a0.extract 0 ((a1.size:Int):Int).toNat).toList == a1.toList)) else (none)) else (none)) else (some false))=some r:=h
 clear h
 by_cases c3:(a0.size:Int)≥(a1.size:Int)
 · rw [if_pos c3] at H
   have c3b0:decide ((a1.size:Int)≤(a0.size:Int))=true:=decide_eq_true c3
   have c3b1:decide (a1.size≤a0.size)=true:=decide_eq_true (Int.ofNat_le.mp c3)
   clear c3
   by_cases c4:0≤(a1.size:Int)
   · rw [if_pos c4] at H
     have c4b0:=eq_true c4
     have c4b1:decide (0≤(a1.size:Int))=true:=decide_eq_true c4
     clear c4
     by_cases c5:(a1.size:Int)≤(a0.size:Int)
     · rw [if_pos c5] at H
       have c5b0:=eq_true c5
       have c5b1:decide ((a1.size:Int)≤(a0.size:Int))=true:=decide_eq_true c5
       clear c5
       obtain rfl:=Option.some.inj H
       go_enter Tryz.func49,Tryz.ntmps49
       go_wp2
       go_ret
       exact ⟨by first|rfl|(simp;done)|(simp [*];done)|(simp [yn];done),by repeat (first|exact yD.refl _|apply yD.step)⟩
     · rw [if_neg c5] at H
       exact absurd H (by simp)
   · rw [if_neg c4] at H
     exact absurd H (by simp)
 · rw [if_neg c3] at H
   have c3b0:decide ((a1.size:Int)≤(a0.size:Int))=false:=decide_eq_false c3
   have c3b1:decide (a1.size≤a0.size)=false:=decide_eq_false (fun h=>c3 (Int.ofNat_le.mpr h))
   clear c3
   obtain rfl:=Option.some.inj H
   go_enter Tryz.func49,Tryz.ntmps49
   go_wp2
   go_ret
   exact ⟨by first|rfl|(simp;done)|(simp [*];done)|(simp [yn];done),by repeat (first|exact yD.refl _|apply yD.step)⟩
end Go.Proofs.YtlmennkeggmdbaaGreatDoor
