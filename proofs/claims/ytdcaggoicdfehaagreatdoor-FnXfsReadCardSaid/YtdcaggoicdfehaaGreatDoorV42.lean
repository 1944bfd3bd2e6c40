/- Part 42 of 44 of the proof of the tied card of FnXfsRead. -/
import Derived.Test.YtdcaggoicdfehaaGreatDoorVz
import Derived.Test.YtdcaggoicdfehaaGreatDoorV41
import Derived.Test.YtdcaggoicdfehaaGreatDoorV29
import Derived.Test.YtdcaggoicdfehaaGreatDoorV36
import Derived.Test.YtdcaggoicdfehaaGreatDoorV37
import Derived.Test.YtdcaggoicdfehaaGreatDoorV25
set_option linter.unusedVariables false
set_option linter.unusedSimpArgs false
namespace Go.Proofs.YtdcaggoicdfehaaGreatDoor
open Go.RowKit Go.Proofs.YtdcaggoicdfehaaGreatDoorW.PrintWords Go.Proofs.YtdcaggoicdfehaaGreatDoorW.PrintLast Go.Proofs.YtdcaggoicdfehaaGreatDoorW.PrintMore
theorem read_big (text:ByteArray) (f1 f2 f3:Value) (hlen:40000<text.size) (w:World):Calls Tryz.prog 4 #[.string text,f1,f2,f3] w fun e w'=>e=.returned (.bool true)∧Below w.heap.size w w':=by
 go_enter Tryz.func4,Tryz.ntmps4
 generalize ha0:(Act.mk _ _)=a0
 have hsz:a0.tmps.size=62:=by rw [← ha0];rfl
 have hdf:a0.defers=[]:=by rw [← ha0]
 have e0:a0.eval (.tmp 0)=.string text:=by rw [← ha0];rfl
 clear ha0
 refine yB ?_
 refine yf rfl (yX (v:=.bool false) rfl) ?_
 refine yG ?_
 refine wp_seq ?_
 refine yB ?_
 refine yf rfl (yJ (v:=.string text) ((yb _ Zd).trans e0)) ?_
 refine yf rfl (Qh (s:=text) (ya _ Zs)) ?_
 refine yf rfl (yb5 (i:=text.size) (n:=40000) (ya _ Zs) rfl) ?_
 rw [decide_eq_true Zo]
 refine yG ?_
 refine wp_cond_true (ya _ Zs) ?_
 refine yB ?_
 refine yf rfl (yX (v:=.bool true) rfl) ?_
 refine yG ?_
 refine wp_ret ?_
 simp only [Exit.then]
 exact Y8 rfl (by simp only [yq];exact hdf) (ya _ Zs) ⟨rfl,Below.refl _ _⟩
theorem fn_walk (text:ByteArray) (hP:text.size≤40000→Plainly text) (w:World) (tb:Addr) (c:Nat) (hl:ybL w tb c):Calls Tryz.prog 3 #[.string text] w fun e w'=>e=.returned (.bool true)∧Below w.heap.size w w':=by
 go_enter Tryz.func3,Tryz.ntmps3
 generalize ha0:(Act.mk _ _)=a0
 have hsz:a0.tmps.size=8:=by rw [← ha0];rfl
 have hdf:a0.defers=[]:=by rw [← ha0]
 have e0:a0.eval (.tmp 0)=.string text:=by rw [← ha0];rfl
 clear ha0
 refine yB ?_
 refine yf rfl (yX (v:=.bool false) rfl) ?_
 refine yG ?_
 refine wp_seq ?_
 refine yB ?_
 refine yf rfl (yJ (v:=.string text) ((yb _ Zd).trans e0)) ?_
 refine yf rfl (Qh (s:=text) (ya _ Zs)) ?_
 refine yf rfl (yb5 (i:=text.size) (n:=2147483647) (ya _ Zs) rfl) ?_
 refine yG ?_
 by_cases hb:2147483647<text.size
 · refine wp_cond_true (?_:_=Value.bool true) ?_
   · rw [ya _ Zs,decide_eq_true Zo]
   refine yB ?_
   refine yf rfl (yX (v:=.bool true) rfl) ?_
   refine yG ?_
   refine wp_ret ?_
   simp only [Exit.then]
   exact Y8 rfl (by simp only [yq];exact hdf) (ya _ Zs) ⟨rfl,Below.refl _ _⟩
 · refine wp_cond_false (?_:_=Value.bool false) ?_
   · rw [ya _ Zs,decide_eq_false Zo]
   refine wp_skip ?_
   simp only [Exit.then]
   refine wp_seq ?_
   refine wp_region_list ?_
   refine Kd.yh rfl (yJ (v:=.string text) (by simp (disch:=decide) only [yb,e0])) ?_
   refine Yp (some 7) rfl rfl Tryz.func4 Zk rfl #[.string text,.func (.func 5) #[] #[],.func (.func 6) #[] #[],.func (.func 7) #[] #[]] rfl (args4f (ya _ Zs)) ?_
   have hr:Calls Tryz.prog 4 #[.string text,.func (.func 5) #[] #[],.func (.func 6) #[] #[],.func (.func 7) #[] #[]] w fun e w'=>e=.returned (.bool true)∧Below w.heap.size w w':=by
    by_cases h4:text.size≤40000
    · exact read_walk text h4 (hP h4) w tb c hl
    · exact read_big text _ _ _ Zo w
   refine hr.mono ?_
   rintro e w1 ⟨rfl,hB⟩
   refine ⟨_,rfl,?_⟩
   refine Kd.yh rfl (yX (ya _ Zs)) ?_
   refine wpList_nil ?_
   simp only [Exit.then]
   refine wp_ret ?_
   exact Y8 rfl (by simp only [yq];exact hdf) (ya _ Zs) ⟨rfl,hB⟩
end Go.Proofs.YtdcaggoicdfehaaGreatDoor
namespace Go.Proofs.YtdcaggoicdfehaaGreatDoor
open Go.RowKit Go.Proofs.YtdcaggoicdfehaaGreatDoorW.PrintWords Go.Proofs.YtdcaggoicdfehaaGreatDoorW.PrintLast Go.Proofs.YtdcaggoicdfehaaGreatDoorW.PrintMore
def Ev {α:Type} (g:Nat→Option α) (r:α):Prop:=∃ K,∀ k,K≤k→g k=some r
section
variable {α β:Type} {g h:Nat→Option α} {r:α}
theorem Ev.ex (h:Ev g r):∃ k,g k=some r:=h.imp fun K hk=>hk K (Nat.le_refl _)
theorem Ev.of (r:α):Ev (fun _=>some r) r:=⟨0,fun _ _=>rfl⟩
theorem Ev.succ (e:∀ k,g (k+1)=h k) (hh:Ev h r):Ev g r:=by
 obtain ⟨K,hK⟩:=hh
 refine ⟨K+1,fun k hk=>?_⟩
 obtain ⟨k',rfl⟩:∃ k',k=k'+1:=⟨k - 1,by omega⟩
 rw [e];exact hK k' Zo
theorem Ev.congr (e:∀ k,g k=h k) (hh:Ev h r):Ev g r:=by
 obtain ⟨K,hK⟩:=hh
 exact ⟨K,fun k hk=>by rw [e];exact hK k hk⟩
theorem Ev.bind {f:Nat→α→Option β} {x:α} {s:β} (h1:Ev g x) (h2:Ev (fun k=>f k x) s):Ev (fun k=>(g k).bind (f k)) s:=by
 obtain ⟨K,hK⟩:=h1
 obtain ⟨M,hM⟩:=h2
 refine ⟨max K M,fun k hk=>?_⟩
 have h1:=hK k Zo
 have h2:=hM k Zo
 simp only [h1,Option.bind_some]
 exact h2
end
theorem Ev.step {α β:Type} {g:Nat→Option α} {x:α} {G:Nat→Option β} {F:Nat→α→Option β} {r:β} (h1:Ev g x) (hG:∀ k,G (k+1)=(g k).bind (F k)) (h2:Ev (fun k=>F k x) r):Ev G r:=.succ hG (Ev.bind h1 h2)
theorem Ev.same {α β:Type} {g:Nat→Option α} {x:α} {G:Nat→Option β} {F:Nat→α→Option β} {r:β} (h1:Ev g x) (hG:∀ k,G k=(g k).bind (F k)) (h2:Ev (fun k=>F k x) r):Ev G r:=.congr hG (Ev.bind h1 h2)
theorem YH {j:Nat} (h:j<9223372036854775807):wrap64 ((j:Int)+1)=((j+1:Nat):Int):=by
 unfold wrap64;omega
theorem lines_ev (s:ByteArray) (hN:s.size≤1000000):∀ (m j:Nat),j+m=s.size→∀ (x3:List ByteArray) (a:Nat),a≤j→x3.length≤j→(∀ l ∈ x3,l.size≤s.size) →
 ∃ r,Ev (fun k=>Yt.l0 k s x3 (a:Int) (s.size:Int) (j:Int)) r∧r.length≤s.size+1∧∀ l ∈ r,l.size≤s.size:=by
 intro m
 induction m with
 | zero=>
  intro j hj x3 a ha hl hs
  have hj':j=s.size:=by omega
  subst hj'
  by_cases haj:a<s.size
  · refine ⟨x3++[s.extract a s.size],.succ (h:=fun _=>some (x3++[s.extract a s.size])) (fun k=>?_) (.of _),by simp;omega,fun l hl=>?_⟩
    · simp only [Yt.l0]
      rw [if_neg Zo,if_pos Zo,if_pos Zo,if_pos Zo,if_pos Zo,Int.toNat_natCast]
    · rcases List.mem_append.1 hl with h|h
      · exact hs l h
      · obtain rfl:=List.mem_singleton.1 h
        simp [ByteArray.size_extract]
  · refine ⟨x3,.succ (h:=fun _=>some x3) (fun k=>?_) (.of _),by omega,hs⟩
    simp only [Yt.l0]
    rw [if_neg Zo,if_neg Zo]
 | succ m ih=>
  intro j hj x3 a ha hl hs
  by_cases hb:bt s (j:Int)=10
  · obtain ⟨r,hr,h1,h2⟩:=ih (j+1) Zo (x3++[s.extract a j]) (j+1) Zo (by simp;omega) (fun l hl=>by
     rcases List.mem_append.1 hl with h|h
     · exact hs l h
     · obtain rfl:=List.mem_singleton.1 h
       simp [ByteArray.size_extract];omega)
    refine ⟨r,.succ (fun k=>?_) hr,h1,h2⟩
    simp only [Yt.l0]
    rw [if_pos Zo,if_pos Zo,if_pos Zo,if_pos hb,if_pos Zo,if_pos Zo,if_pos Zo,if_pos Zo,YH Zo,Int.toNat_natCast,Int.toNat_natCast]
  · obtain ⟨r,hr,h1,h2⟩:=ih (j+1) Zo x3 a Zo Zo hs
    refine ⟨r,.succ (fun k=>?_) hr,h1,h2⟩
    simp only [Yt.l0]
    rw [if_pos Zo,if_pos Zo,if_pos Zo,if_neg hb,YH Zo]
theorem lines_f (s:ByteArray) (hN:s.size≤1000000):∃ r,Ev (fun k=>Yt.f k s) r∧r.length≤s.size+1∧∀ l ∈ r,l.size≤s.size:=by
 obtain ⟨r,h,h1,h2⟩:=lines_ev s hN s.size 0 Zo [] 0 Zo (by simp) (by simp)
 exact ⟨r,.congr (fun k=>rfl) h,h1,h2⟩
theorem plain_ev (s:ByteArray) (hN:s.size≤1000000):∀ (m j:Nat),j+m=s.size→∃ b,Ev (fun k=>yW.l0 k s (s.size:Int) (j:Int)) b:=by
 intro m
 induction m with
 | zero=>
  intro j hj
  refine ⟨true,.succ (h:=fun _=>some true) (fun k=>?_) (.of _)⟩
  simp only [yW.l0]
  rw [if_neg Zo]
 | succ m ih=>
  intro j hj
  obtain ⟨b,hb⟩:=ih (j+1) Zo
  have hj1:∀ x,∃ b,Ev (fun k=>yW.j1 k s (s.size:Int) (j:Int) x) b:=fun x=>by
   cases x with
   | true=>exact ⟨false,.succ (h:=fun _=>some false) (fun k=>by simp only [yW.j1];rfl) (.of _)⟩
   | false=>exact ⟨b,.succ (fun k=>by simp only [yW.j1];rw [if_neg Zd,YH Zo]) hb⟩
  have key:∃ x,∀ k,yW.l0 (k+1) s (s.size:Int) (j:Int)=yW.j1 k s (s.size:Int) (j:Int) x:=by
   by_cases h1:bt s (j:Int) > 126
   · exact ⟨true,fun k=>by simp only [yW.l0];rw [if_pos Zo,if_pos Zo,if_pos Zo,if_pos h1]⟩
   · by_cases h2:bt s (j:Int)<32
     · by_cases h3:bt s (j:Int)=10
       · exact ⟨false,fun k=>by simp only [yW.l0];rw [if_pos Zo,if_pos Zo,if_pos Zo,if_neg h1,if_pos h2,if_pos h3]⟩
       · exact ⟨_,fun k=>by simp only [yW.l0];rw [if_pos Zo,if_pos Zo,if_pos Zo,if_neg h1,if_pos h2,if_neg h3]⟩
     · exact ⟨false,fun k=>by simp only [yW.l0];rw [if_pos Zo,if_pos Zo,if_pos Zo,if_neg h1,if_neg h2]⟩
  obtain ⟨x,hx⟩:=key
  obtain ⟨b',hb'⟩:=hj1 x
  exact ⟨b',.succ hx hb'⟩
theorem plain_f (s:ByteArray) (hN:s.size≤1000000):∃ b,Ev (fun k=>yW.f k s) b:=by
 obtain ⟨b,h⟩:=plain_ev s hN s.size 0 Zo
 exact ⟨b,.congr (fun k=>rfl) h⟩
theorem fields_ev (s:ByteArray) (hN:s.size≤1000000):∀ (m j:Nat),j+m=s.size→∀ (x3:List ByteArray) (a:Int),-1≤a→a≤j→x3.length≤j→(∀ l ∈ x3,l.size≤s.size) →
 ∃ r,Ev (fun k=>yD.l0 k s x3 a (s.size:Int) (j:Int)) r∧r.length≤s.size+1∧∀ l ∈ r,l.size≤s.size:=by
 intro m
 induction m with
 | zero=>
  intro j hj x3 a ha haj hl hs
  have hj':j=s.size:=by omega
  subst hj'
  by_cases h0:0≤a
  · refine ⟨x3++[s.extract a.toNat s.size],.succ (h:=fun _=>some (x3++[s.extract a.toNat s.size])) (fun k=>?_) (.of _),by simp;omega,fun l hl=>?_⟩
    · simp only [yD.l0]
      rw [if_neg Zo,if_pos Zo,if_pos Zo,if_pos Zo,if_pos Zo]
    · rcases List.mem_append.1 hl with h|h
      · exact hs l h
      · obtain rfl:=List.mem_singleton.1 h
        simp [ByteArray.size_extract]
  · refine ⟨x3,.succ (h:=fun _=>some x3) (fun k=>?_) (.of _),by omega,hs⟩
    simp only [yD.l0]
    rw [if_neg Zo,if_neg Zo]
 | succ m ih=>
  intro j hj x3 a ha haj hl hs
  have hj2:∀ x6 x22:Bool,(x22=true→0≤a)→∃ r,Ev (fun k=>yD.j2 k s x3 a (j:Int) x6 (s.size:Int) (j:Int) x22) r∧r.length≤s.size+1∧∀ l ∈ r,l.size≤s.size:=fun x6 x22 h22=>by
   cases x22 with
   | true=>
    have h0:=h22 rfl
    obtain ⟨r,hr,h1,h2⟩:=ih (j+1) Zo (x3++[s.extract a.toNat j]) (-1) Zo Zo (by simp;omega) (fun l hl=>by
     rcases List.mem_append.1 hl with h|h
     · exact hs l h
     · obtain rfl:=List.mem_singleton.1 h
       simp [ByteArray.size_extract];omega)
    refine ⟨r,.succ (fun k=>?_) hr,h1,h2⟩
    simp only [yD.j2]
    rw [if_pos trivial,if_pos Zo,if_pos Zo,if_pos Zo,if_pos Zo,YH Zo,Int.toNat_natCast]
   | false=>
    cases x6 with
    | true=>
     obtain ⟨r,hr,h1,h2⟩:=ih (j+1) Zo x3 a Zo Zo Zo hs
     refine ⟨r,.succ (fun k=>?_) hr,h1,h2⟩
     simp only [yD.j2]
     rw [if_neg Zd,if_pos trivial,YH Zo]
    | false=>
     by_cases h0:a<0
     · obtain ⟨r,hr,h1,h2⟩:=ih (j+1) Zo x3 (j:Int) Zo Zo Zo hs
       refine ⟨r,.succ (fun k=>?_) hr,h1,h2⟩
       simp only [yD.j2]
       rw [if_neg Zd,if_neg Zd,if_pos h0,YH Zo]
     · obtain ⟨r,hr,h1,h2⟩:=ih (j+1) Zo x3 a Zo Zo Zo hs
       refine ⟨r,.succ (fun k=>?_) hr,h1,h2⟩
       simp only [yD.j2]
       rw [if_neg Zd,if_neg Zd,if_neg h0,YH Zo]
  have hj1:∀ x6:Bool,∃ r,Ev (fun k=>yD.j1 k s x3 a (j:Int) x6 (s.size:Int) (j:Int)) r∧r.length≤s.size+1∧∀ l ∈ r,l.size≤s.size:=fun x6=>by
   cases x6 with
   | true=>
    obtain ⟨r,hr,h⟩:=hj2 true (decide (a≥0)) (fun h=>of_decide_eq_true h)
    exact ⟨r,.succ (fun k=>by simp only [yD.j1];rw [if_pos trivial]) hr,h⟩
   | false=>
    obtain ⟨r,hr,h⟩:=hj2 false false (fun h=>by cases h)
    exact ⟨r,.succ (fun k=>by simp only [yD.j1];rw [if_neg Zd]) hr,h⟩
  by_cases hb:bt s (j:Int)=32
  · obtain ⟨r,hr,h⟩:=hj1 true
    refine ⟨r,.succ (fun k=>?_) hr,h⟩
    simp only [yD.l0]
    rw [if_pos Zo,if_pos Zo,if_pos Zo,if_pos hb]
  · obtain ⟨r,hr,h⟩:=hj1 (bt s (j:Int) == 9)
    refine ⟨r,.succ (fun k=>?_) hr,h⟩
    simp only [yD.l0]
    rw [if_pos Zo,if_pos Zo,if_pos Zo,if_neg hb]
theorem fields_f (s:ByteArray) (hN:s.size≤1000000):∃ r,Ev (fun k=>yD.f k s) r∧r.length≤s.size+1∧∀ l ∈ r,l.size≤s.size:=by
 obtain ⟨r,h,h1⟩:=fields_ev s hN s.size 0 Zo [] (-1) Zo Zo (by simp) (by simp)
 exact ⟨r,.congr (fun k=>rfl) h,h1⟩
end Go.Proofs.YtdcaggoicdfehaaGreatDoor
namespace Go.Proofs.YtdcaggoicdfehaaGreatDoor
open Go.RowKit Go.Proofs.YtdcaggoicdfehaaGreatDoorW.PrintWords Go.Proofs.YtdcaggoicdfehaaGreatDoorW.PrintLast Go.Proofs.YtdcaggoicdfehaaGreatDoorW.PrintMore
theorem ybt (n:Int):0≤IntKind.u64.wrap n∧IntKind.u64.wrap n<18446744073709551616:=by
 simp [IntKind.wrap,IntKind.bits,IntKind.signed]
 omega
theorem u64_id {i:Int} (h0:0≤i) (h:i<18446744073709551616):IntKind.u64.wrap i=i:=by
 simp [IntKind.wrap,IntKind.bits,IntKind.signed]
 omega
theorem digit_ev (a:Int):∃ d,Ev (fun k=>yS.f k a) d:=by
 have hj1:∀ x,∃ d,Ev (fun k=>yS.j1 k a x) d:=fun x=>by
  cases x with
  | true=>exact ⟨_,.succ (h:=fun _=>some (((a - 97) % 256)+10)) (fun k=>by simp only [yS.j1];rfl) (.of _)⟩
  | false=>
   by_cases h1:a≥65
   · by_cases h2:a≤70
     · exact ⟨_,.succ (h:=fun _=>some (((a - 65) % 256)+10)) (fun k=>by simp only [yS.j1];rw [if_neg Zd,if_pos h1,if_pos h2]) (.of _)⟩
     · exact ⟨99,.succ (h:=fun _=>some 99) (fun k=>by simp only [yS.j1];rw [if_neg Zd,if_pos h1,if_neg h2]) (.of _)⟩
   · exact ⟨99,.succ (h:=fun _=>some 99) (fun k=>by simp only [yS.j1];rw [if_neg Zd,if_neg h1]) (.of _)⟩
 have hj0:∀ x,∃ d,Ev (fun k=>yS.j0 k a x) d:=fun x=>by
  cases x with
  | true=>exact ⟨_,.succ (h:=fun _=>some ((a - 48) % 256)) (fun k=>by simp only [yS.j0];rfl) (.of _)⟩
  | false=>
   by_cases h1:a≥97
   · obtain ⟨d,hd⟩:=hj1 (decide (a≤102))
     exact ⟨d,.succ (fun k=>by simp only [yS.j0];rw [if_neg Zd,if_pos h1]) hd⟩
   · obtain ⟨d,hd⟩:=hj1 false
     exact ⟨d,.succ (fun k=>by simp only [yS.j0];rw [if_neg Zd,if_neg h1]) hd⟩
 by_cases h:a≥48
 · obtain ⟨d,hd⟩:=hj0 (decide (a≤57))
   exact ⟨d,.congr (fun k=>by simp only [yS.f];rw [if_pos h]) hd⟩
 · obtain ⟨d,hd⟩:=hj0 false
   exact ⟨d,.congr (fun k=>by simp only [yS.f];rw [if_neg h]) hd⟩
theorem number_ev (s:ByteArray) (hN:s.size≤1000000):∀ (m j:Nat),j+m=s.size→∀ x6:Int,0≤x6→x6<18446744073709551616→∃ r:Int × Bool,Ev (fun k=>Yi.l0 k s 10 x6 (s.size:Int) (j:Int)) r∧0≤r.1∧r.1<18446744073709551616:=by
 intro m
 induction m with
 | zero=>
  intro j hj x6 h0 h1
  exact ⟨(x6,(s.toList != ([]:List UInt8))),.succ (h:=fun _=>some (x6,(s.toList != ([]:List UInt8)))) (fun k=>by simp only [Yi.l0];rw [if_neg Zo]) (.of _),h0,h1⟩
 | succ m ih=>
  intro j hj x6 h0 h1
  obtain ⟨d,hd⟩:=digit_ev (bt s (j:Int))
  have hz:∃ r:Int × Bool,Ev (fun k=>(if d≥10 then (some (0,false)) else (if (10:Int)=0 then (none) else (if x6 > (IntKind.u64.wrap (Int.tdiv (IntKind.u64.wrap (18446744073709551615 - d)) 10)) then (some (0,false)) else (Yi.l0 k s 10 (IntKind.u64.wrap ((IntKind.u64.wrap (x6 * 10))+d)) (s.size:Int) (wrap64 ((j:Int)+1))))))) r∧0≤r.1∧r.1<18446744073709551616:=by
   by_cases c1:d≥10
   · exact ⟨(0,false),.congr (fun k=>if_pos c1) (.of _),by decide,by decide⟩
   · by_cases c2:x6 > (IntKind.u64.wrap (Int.tdiv (IntKind.u64.wrap (18446744073709551615 - d)) 10))
     · exact ⟨(0,false),.congr (fun k=>by rw [if_neg c1,if_neg Zd,if_pos c2]) (.of _),by decide,by decide⟩
     · obtain ⟨r,hr,hr1⟩:=ih (j+1) Zo _ (ybt _).1 (ybt (IntKind.u64.wrap (x6 * 10)+d)).2
       exact ⟨r,.congr (fun k=>by rw [if_neg c1,if_neg Zd,if_neg c2,YH Zo]) hr,hr1⟩
  obtain ⟨r,hr,hr1⟩:=hz
  refine ⟨r,?_,hr1⟩
  apply Ev.step hd
  · intro k
    simp only [Yi.l0]
    rw [if_pos Zo,if_pos Zo,if_pos Zo]
  · exact hr
theorem dec_ev (s:ByteArray) (hN:s.size≤1000000):∃ r:Int × Bool,Ev (fun k=>JT.f k s) r∧0≤r.1∧r.1<18446744073709551616:=by
 obtain ⟨r,hr,h⟩:=number_ev s hN s.size 0 Zo 0 Zo Zo
 exact ⟨r,Ev.same (g:=fun k=>Yi.l0 k s 10 0 (s.size:Int) ((0:Nat):Int)) (F:=fun k bt134=>some (bt134.1,bt134.2)) hr (fun k=>rfl) (.of _),h⟩
def dig (a:Nat):List UInt8:=if h:a<10 then [UInt8.ofNat (48+a)] else dig (a / 10)++[UInt8.ofNat (48+a % 10)]
 termination_by a
 decreasing_by omega
theorem qp {a:Nat} (h:a<10):dig a=[UInt8.ofNat (48+a)]:=by rw [dig,dif_pos h]
theorem ybK {a:Nat} (h:¬ a<10):dig a=dig (a / 10)++[UInt8.ofNat (48+a % 10)]:=by rw [dig,dif_neg h]
theorem dig_len:∀ (n a:Nat),a<10 ^ (n+1)→(dig a).length≤n+1:=by
 intro n
 induction n with
 | zero=>intro a h;rw [qp Zo];simp
 | succ n ih=>
  intro a h
  by_cases h10:a<10
  · rw [qp h10];simp
  · rw [ybK h10,List.length_append]
    have:10 ^ (n+1+1)=10 ^ (n+1) * 10:=by rw [Nat.pow_succ]
    have:=ih (a / 10) Zo
    simp only [List.length_cons,List.length_nil]
    omega
theorem yah {a:Nat} (h:a<18446744073709551616):(dig a).length≤20:=dig_len 19 a Zo
theorem dig_ne (a:Nat):dig a≠[]:=by
 by_cases h:a<10
 · rw [qp h];simp
 · rw [ybK h];simp
theorem dig_range:∀ (n a:Nat),a<10 ^ (n+1)→∀ b ∈ dig a,48≤b.toNat∧b.toNat≤57:=by
 intro n
 induction n with
 | zero=>
  intro a h b hb
  rw [qp Zo] at hb
  obtain rfl:=List.mem_singleton.1 hb
  have:(UInt8.ofNat (48+a)).toNat=48+a:=by simp;omega
  omega
 | succ n ih=>
  intro a h b hb
  by_cases h10:a<10
  · rw [qp h10] at hb
    obtain rfl:=List.mem_singleton.1 hb
    have:(UInt8.ofNat (48+a)).toNat=48+a:=by simp;omega
    omega
  · rw [ybK h10] at hb
    have:10 ^ (n+1+1)=10 ^ (n+1) * 10:=by rw [Nat.pow_succ]
    rcases List.mem_append.1 hb with hb|hb
    · exact ih (a / 10) Zo b hb
    · obtain rfl:=List.mem_singleton.1 hb
      have:(UInt8.ofNat (48+a % 10)).toNat=48+a % 10:=by simp;omega
      omega
theorem ya3 {a:Nat} (h:a<18446744073709551616):∀ b ∈ dig a,48≤b.toNat∧b.toNat≤57:=dig_range 19 a Zo
theorem yc5 (r:Nat) (h:r<10):UInt8.ofNat (bt (⟨#[48,49,50,51,52,53,54,55,56,57,97,98,99,100,101,102]⟩:ByteArray) (r:Int)).toNat=UInt8.ofNat (48+r):=by
 match r,h with
 | 0,_|1,_|2,_|3,_|4,_|5,_|6,_|7,_|8,_|9,_=>rfl
theorem digits_ev:∀ (n a:Nat),a<10 ^ (n+1)→a<18446744073709551616→Ev (fun k=>Yd.f k (a:Int) 10) ⟨(dig a).toArray⟩:=by
 intro n
 induction n with
 | zero=>
  intro a h h2
  refine .succ (h:=fun _=>some ⟨(dig a).toArray⟩) (fun k=>?_) (.of _)
  simp only [Yd.f]
  have hm:Int.tmod (a:Int) 10=((a % 10:Nat):Int):=rfl
  rw [if_neg Zd,hm,if_pos Zo,if_pos Zo,if_pos Zo,qp Zo]
  have:=yc5 (a % 10) Zo
  simp only [strOfNums,List.map_cons,List.map_nil,this]
  rw [Nat.mod_eq_of_lt Zo]
 | succ n ih=>
  intro a h h2
  have hm:Int.tmod (a:Int) 10=((a % 10:Nat):Int):=rfl
  by_cases h10:a<10
  · refine .succ (h:=fun _=>some ⟨(dig a).toArray⟩) (fun k=>?_) (.of _)
    simp only [Yd.f]
    rw [if_neg Zd,hm,if_pos Zo,if_pos Zo,if_pos Zo,qp Zo]
    have:=yc5 (a % 10) Zo
    simp only [strOfNums,List.map_cons,List.map_nil,this]
    rw [Nat.mod_eq_of_lt Zo]
  · have hp:10 ^ (n+1+1)=10 ^ (n+1) * 10:=by rw [Nat.pow_succ]
    have hih:=ih (a / 10) Zo Zo
    have hd:IntKind.u64.wrap (Int.tdiv (a:Int) 10)=((a / 10:Nat):Int):=by
     have h1:Int.tdiv (a:Int) 10=((a / 10:Nat):Int):=rfl
     rw [h1];exact u64_id Zo Zo
    have hl:=yah (a:=a / 10) Zo
    apply Ev.step hih
    · intro k
      simp only [Yd.f]
      rw [if_neg Zd,hm,if_pos Zo,if_pos Zo,if_neg Zo,hd]
    · have hb:=yc5 (a % 10) Zo
      refine .congr (fun k=>?_) (.of _)
      simp only [strOfNums,List.map_cons,List.map_nil,hb,Option.bind_some]
      rw [if_pos (by simp [ByteArray.size];omega),ybK h10]
      congr 1
def decT (a:Nat):ByteArray:=⟨(dig a).toArray⟩
theorem text_ev (a:Nat) (h:a<18446744073709551616):Ev (fun k=>YY.f k (a:Int)) (decT a):=
 Ev.same (F:=fun k t143=>some t143) (digits_ev 19 a Zo h) (fun k=>rfl) (.of _)
def InU (l:List Int):Prop:=∀ x ∈ l,0≤x∧x<18446744073709551616
theorem inU_nil:InU []:=fun x hx=>by cases hx
theorem decimals_ev (l:List ByteArray) (hl:l.length≤1000001) (hs:∀ s ∈ l,s.size≤1000000):∀ (m j:Nat),j+m=l.length→∀ x4:List Int,x4.length≤j→InU x4→∃ r:List Int × Bool,Ev (fun k=>yQ.l0 k x4 l (l.length:Int) (j:Int)) r∧InU r.1:=by
 intro m
 induction m with
 | zero=>
  intro j hj x4 h4 hU
  exact ⟨(x4,true),.succ (h:=fun _=>some (x4,true)) (fun k=>by simp only [yQ.l0];rw [if_neg Zo]) (.of _),hU⟩
 | succ m ih=>
  intro j hj x4 h4 hU
  have hjl:j<l.length:=by omega
  have hrd:YJ ByteArray.empty l (j:Int)=l[j]:=by simp [YJ,List.getD_eq_getElem?_getD,hjl]
  obtain ⟨d,hd,hd0,hd1⟩:=dec_ev l[j] (hs _ (List.getElem_mem hjl))
  obtain ⟨n,hn⟩:∃ n:Nat,d.1=(n:Int):=⟨d.1.toNat,by omega⟩
  have hz:∃ r:List Int × Bool,Ev (fun k=>(if d.2=true then ((YY.f k d.1).bind fun t147=>(if t147.toList=(YJ ByteArray.empty l (j:Int)).toList then (if x4.length<17592186044416 then (yQ.l0 k (x4++[d.1]) l (l.length:Int) (wrap64 ((j:Int)+1))) else (none)) else (some (([]:List Int),false)))) else (some (([]:List Int),false)))) r∧InU r.1:=by
   by_cases c1:d.2=true
   · have ht:=text_ev n Zo
     rw [← hn] at ht
     by_cases c2:(decT n).toList=(YJ ByteArray.empty l (j:Int)).toList
     · obtain ⟨r,hr,hr1⟩:=ih (j+1) Zo (x4++[d.1]) (by simp;omega) (fun x hx=>by
        rcases List.mem_append.1 hx with h|h
        · exact hU x h
        · obtain rfl:=List.mem_singleton.1 h;exact ⟨hd0,hd1⟩)
       refine ⟨r,?_,hr1⟩
       apply Ev.same ht
       · intro k
         rw [if_pos c1]
       · exact .congr (fun k=>by rw [if_pos c2,if_pos Zo,YH Zo]) hr
     · refine ⟨([],false),?_,inU_nil⟩
       apply Ev.same ht
       · intro k
         rw [if_pos c1]
       · exact .congr (fun k=>by rw [if_neg c2]) (.of _)
   · exact ⟨([],false),.congr (fun k=>if_neg c1) (.of _),inU_nil⟩
  obtain ⟨r,hr,hr1⟩:=hz
  refine ⟨r,?_,hr1⟩
  apply Ev.step hd
  · intro k
    simp only [yQ.l0]
    rw [if_pos Zo,if_pos Zo,if_pos Zo,hrd]
  · rw [hrd] at hr
    exact hr
theorem decimals_f (l:List ByteArray) (hl:l.length≤1000001) (hs:∀ s ∈ l,s.size≤1000000):∃ r:List Int × Bool,Ev (fun k=>yQ.f k l) r∧InU r.1:=by
 obtain ⟨r,hr,h⟩:=decimals_ev l hl hs l.length 0 Zo [] (by simp) (fun x hx=>by cases hx)
 exact ⟨r,.congr (fun k=>rfl) hr,h⟩
def RowsIn (l:List S56):Prop:=∀ r ∈ l,InU r.f1
theorem ydo:RowsIn []:=fun x hx=>by cases hx
theorem ends_nil (s:ByteArray) (hs:s.size≤1000000):∃ b,qJ.f s ⟨#[]⟩=some b:=by
 have h0:((⟨#[]⟩:ByteArray).size:Int)=0:=rfl
 have hw:wrap64 ((s.size:Int) - 0)=(s.size:Int):=by unfold wrap64;omega
 exact ⟨((s.extract ((s.size:Int)).toNat s.size).toList == (⟨#[]⟩:ByteArray).toList),by
  simp only [qJ.f,h0,hw]
  rw [if_pos Zo,if_pos Zo,if_pos Zo]⟩
theorem table_ev (l:List ByteArray) (hl:l.length≤1000001) (hs:∀ s ∈ l,s.size≤1000000):∀ (m j:Nat),j+m=l.length→∀ x6:List S56,x6.length≤j→RowsIn x6→∃ r:List S56 × Bool,Ev (fun k=>yM.l0 k ⟨#[]⟩ x6 l (l.length:Int) (j:Int)) r∧RowsIn r.1∧r.1.length≤l.length:=by
 intro m
 induction m with
 | zero=>
  intro j hj x6 h6 hU
  exact ⟨(x6,true),.succ (h:=fun _=>some (x6,true)) (fun k=>by simp only [yM.l0];rw [if_neg Zo]) (.of _),hU,(show x6.length≤l.length by omega)⟩
 | succ m ih=>
  intro j hj x6 h6 hU
  have hjl:j<l.length:=by omega
  have hrd:YJ ByteArray.empty l (j:Int)=l[j]:=by simp [YJ,List.getD_eq_getElem?_getD,hjl]
  have hlj:=hs _ (List.getElem_mem hjl)
  obtain ⟨f,hf,hf1,hf2⟩:=fields_f l[j] hlj
  have hj1:∀ x:Bool,(x=false→0<f.length)→∃ r:List S56 × Bool,Ev (fun k=>yM.j1 k ⟨#[]⟩ x6 f l (l.length:Int) (j:Int) x) r∧RowsIn r.1∧r.1.length≤l.length:=fun x hx=>by
   cases x with
   | true=>exact ⟨([],false),.succ (h:=fun _=>some ([],false)) (fun k=>by simp only [yM.j1];rfl) (.of _),ydo,Nat.zero_le _⟩
   | false=>
    have hpos:=hx rfl
    obtain ⟨d,hd,hdU⟩:=decimals_f (f.drop 1) (by simp;omega) (fun s h=>by have:=hf2 s (List.mem_of_mem_drop h);omega)
    have h0:(YJ ByteArray.empty f 0).size≤1000000:=by
     have:YJ ByteArray.empty f 0=f[0]:=by simp [YJ,List.getD_eq_getElem?_getD,hpos]
     rw [this]
     have:=hf2 _ (List.getElem_mem hpos)
     omega
    have hw:wrap64 (((YJ ByteArray.empty f 0).size:Int) - ((⟨#[]⟩:ByteArray).size:Int))=((YJ ByteArray.empty f 0).size:Int):=by
     have h0:((⟨#[]⟩:ByteArray).size:Int)=0:=rfl
     rw [h0];unfold wrap64;omega
    by_cases c:d.2=true
    · obtain ⟨r,hr,hr1⟩:=ih (j+1) Zo (x6++[(⟨(YJ ByteArray.empty f 0).extract 0 (((YJ ByteArray.empty f 0).size:Int)).toNat,d.1,([]:List ByteArray)⟩:S56)]) (by simp;omega) (fun x hx=>by
       rcases List.mem_append.1 hx with h|h
       · exact hU x h
       · obtain rfl:=List.mem_singleton.1 h;exact hdU)
      refine ⟨r,?_,hr1⟩
      apply Ev.step hd
      · intro k
        simp only [yM.j1]
        rw [if_neg Zd,if_pos Zo]
      · exact .congr (fun k=>by rw [if_pos c,if_pos Zo,hw,if_pos Zo,if_pos Zo,if_pos Zo,YH Zo]) hr
    · refine ⟨([],false),?_,ydo,Nat.zero_le _⟩
      apply Ev.step hd
      · intro k
        simp only [yM.j1]
        rw [if_neg Zd,if_pos Zo]
      · exact .congr (fun k=>if_neg c) (.of _)
  have hz:∃ r:List S56 × Bool,Ev (fun k=>(if (f.length:Int)=0 then (yM.j1 k ⟨#[]⟩ x6 f l (l.length:Int) (j:Int) true) else (if 0<(f.length:Int) then ((qJ.f (YJ ByteArray.empty f 0) ⟨#[]⟩).bind fun t156=>(yM.j1 k ⟨#[]⟩ x6 f l (l.length:Int) (j:Int) (!t156))) else (none)))) r∧RowsIn r.1∧r.1.length≤l.length:=by
   by_cases c:(f.length:Int)=0
   · obtain ⟨r,hr,h⟩:=hj1 true (fun h=>by cases h)
     exact ⟨r,.congr (fun k=>if_pos c) hr,h⟩
   · have hpos:0<f.length:=by omega
     have h0:(YJ ByteArray.empty f 0).size≤1000000:=by
      have:YJ ByteArray.empty f 0=f[0]:=by simp [YJ,List.getD_eq_getElem?_getD,hpos]
      rw [this]
      have:=hf2 _ (List.getElem_mem hpos)
      omega
     obtain ⟨b,hb⟩:=ends_nil _ h0
     obtain ⟨r,hr,h⟩:=hj1 (!b) (fun _=>hpos)
     exact ⟨r,.congr (fun k=>by rw [if_neg c,if_pos Zo,hb];rfl) hr,h⟩
  obtain ⟨r,hr,h⟩:=hz
  refine ⟨r,?_,h⟩
  apply Ev.step hf
  · intro k
    simp only [yM.l0]
    rw [if_pos Zo,if_pos Zo,if_pos Zo,hrd]
  · exact hr
theorem table_f (l:List ByteArray) (hl:l.length≤1000001) (hs:∀ s ∈ l,s.size≤1000000):∃ r:List S56 × Bool,Ev (fun k=>yM.f k l ⟨#[]⟩) r∧RowsIn r.1∧r.1.length≤l.length:=by
 obtain ⟨r,hr,h⟩:=table_ev l hl hs l.length 0 Zo [] (by simp) (fun x hx=>by cases hx)
 exact ⟨r,.congr (fun k=>rfl) hr,h⟩
end Go.Proofs.YtdcaggoicdfehaaGreatDoor
