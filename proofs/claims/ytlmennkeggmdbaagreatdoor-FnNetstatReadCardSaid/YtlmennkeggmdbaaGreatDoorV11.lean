/- Part 11 of 34 of the proof of the tied card of FnNetstatRead. -/
import Derived.Test.YtlmennkeggmdbaaGreatDoorVz
import Derived.Test.YtlmennkeggmdbaaGreatDoorV10
import Derived.Test.YtlmennkeggmdbaaGreatDoorV3
import Derived.Test.YtlmennkeggmdbaaGreatDoorV5
set_option linter.unusedVariables false
set_option linter.unusedSimpArgs false
namespace Go.Proofs.YtlmennkeggmdbaaGreatDoor
open Go.RowKit Go.Proofs.YtlmennkeggmdbaaGreatDoorW.PrintWords Go.Proofs.YtlmennkeggmdbaaGreatDoorW.PrintLast Go.Proofs.YtlmennkeggmdbaaGreatDoorW.PrintMore
theorem ybk (n:Int):0≤IntKind.u64.wrap n∧IntKind.u64.wrap n<18446744073709551616:=by
 simp [IntKind.wrap,IntKind.bits,IntKind.signed]
 omega
theorem u64_id {i:Int} (h0:0≤i) (h:i<18446744073709551616):IntKind.u64.wrap i=i:=by
 simp [IntKind.wrap,IntKind.bits,IntKind.signed]
 omega
theorem digit_ev (a:Int):∃ d,Ev (fun k=>yT.f k a) d:=by
 have hj1:∀ x,∃ d,Ev (fun k=>yT.j1 k a x) d:=fun x=>by
  cases x with
  | true=>exact ⟨_,.succ (h:=fun _=>some (((a - 97) % 256)+10)) (fun k=>by simp only [yT.j1];rfl) (.of _)⟩
  | false=>
   by_cases h1:a≥65
   · by_cases h2:a≤70
     · exact ⟨_,.succ (h:=fun _=>some (((a - 65) % 256)+10)) (fun k=>by simp only [yT.j1];rw [if_neg Zd,if_pos h1,if_pos h2]) (.of _)⟩
     · exact ⟨99,.succ (h:=fun _=>some 99) (fun k=>by simp only [yT.j1];rw [if_neg Zd,if_pos h1,if_neg h2]) (.of _)⟩
   · exact ⟨99,.succ (h:=fun _=>some 99) (fun k=>by simp only [yT.j1];rw [if_neg Zd,if_neg h1]) (.of _)⟩
 have hj0:∀ x,∃ d,Ev (fun k=>yT.j0 k a x) d:=fun x=>by
  cases x with
  | true=>exact ⟨_,.succ (h:=fun _=>some ((a - 48) % 256)) (fun k=>by simp only [yT.j0];rfl) (.of _)⟩
  | false=>
   by_cases h1:a≥97
   · obtain ⟨d,hd⟩:=hj1 (decide (a≤102))
     exact ⟨d,.succ (fun k=>by simp only [yT.j0];rw [if_neg Zd,if_pos h1]) hd⟩
   · obtain ⟨d,hd⟩:=hj1 false
     exact ⟨d,.succ (fun k=>by simp only [yT.j0];rw [if_neg Zd,if_neg h1]) hd⟩
 by_cases h:a≥48
 · obtain ⟨d,hd⟩:=hj0 (decide (a≤57))
   exact ⟨d,.congr (fun k=>by simp only [yT.f];rw [if_pos h]) hd⟩
 · obtain ⟨d,hd⟩:=hj0 false
   exact ⟨d,.congr (fun k=>by simp only [yT.f];rw [if_neg h]) hd⟩
theorem number_ev (s:ByteArray) (hN:s.size≤1000000):∀ (m j:Nat),j+m=s.size→∀ x6:Int,0≤x6→x6<18446744073709551616→∃ r:Int × Bool,Ev (fun k=>Ym.l0 k s 10 x6 (s.size:Int) (j:Int)) r∧0≤r.1∧r.1<18446744073709551616:=by
 intro m
 induction m with
 | zero=>
  intro j hj x6 h0 h1
  exact ⟨(x6,(s.toList != ([]:List UInt8))),.succ (h:=fun _=>some (x6,(s.toList != ([]:List UInt8)))) (fun k=>by simp only [Ym.l0];rw [if_neg Zo]) (.of _),h0,h1⟩
 | succ m ih=>
  intro j hj x6 h0 h1
  obtain ⟨d,hd⟩:=digit_ev (bt s (j:Int))
  have hz:∃ r:Int × Bool,Ev (fun k=>(if d≥10 then (some (0,false)) else (if (10:Int)=0 then (none) else (if x6 > (IntKind.u64.wrap (Int.tdiv (IntKind.u64.wrap (18446744073709551615 - d)) 10)) then (some (0,false)) else (Ym.l0 k s 10 (IntKind.u64.wrap ((IntKind.u64.wrap (x6 * 10))+d)) (s.size:Int) (wrap64 ((j:Int)+1))))))) r∧0≤r.1∧r.1<18446744073709551616:=by
   by_cases c1:d≥10
   · exact ⟨(0,false),.congr (fun k=>if_pos c1) (.of _),by decide,by decide⟩
   · by_cases c2:x6 > (IntKind.u64.wrap (Int.tdiv (IntKind.u64.wrap (18446744073709551615 - d)) 10))
     · exact ⟨(0,false),.congr (fun k=>by rw [if_neg c1,if_neg Zd,if_pos c2]) (.of _),by decide,by decide⟩
     · obtain ⟨r,hr,hr1⟩:=ih (j+1) Zo _ (ybk _).1 (ybk (IntKind.u64.wrap (x6 * 10)+d)).2
       exact ⟨r,.congr (fun k=>by rw [if_neg c1,if_neg Zd,if_neg c2,Yi Zo]) hr,hr1⟩
  obtain ⟨r,hr,hr1⟩:=hz
  refine ⟨r,?_,hr1⟩
  apply Ev.step hd
  · intro k
    simp only [Ym.l0]
    rw [if_pos Zo,if_pos Zo,if_pos Zo]
  · exact hr
theorem dec_ev (s:ByteArray) (hN:s.size≤1000000):∃ r:Int × Bool,Ev (fun k=>Jc.f k s) r∧0≤r.1∧r.1<18446744073709551616:=by
 obtain ⟨r,hr,h⟩:=number_ev s hN s.size 0 Zo 0 Zo Zo
 exact ⟨r,Ev.same (g:=fun k=>Ym.l0 k s 10 0 (s.size:Int) ((0:Nat):Int)) (F:=fun k bt134=>some (bt134.1,bt134.2)) hr (fun k=>rfl) (.of _),h⟩
def dig (a:Nat):List UInt8:=if h:a<10 then [UInt8.ofNat (48+a)] else dig (a / 10)++[UInt8.ofNat (48+a % 10)]
 termination_by a
 decreasing_by omega
theorem qu {a:Nat} (h:a<10):dig a=[UInt8.ofNat (48+a)]:=by rw [dig,dif_pos h]
theorem ybM {a:Nat} (h:¬ a<10):dig a=dig (a / 10)++[UInt8.ofNat (48+a % 10)]:=by rw [dig,dif_neg h]
theorem dig_len:∀ (n a:Nat),a<10 ^ (n+1)→(dig a).length≤n+1:=by
 intro n
 induction n with
 | zero=>intro a h;rw [qu Zo];simp
 | succ n ih=>
  intro a h
  by_cases h10:a<10
  · rw [qu h10];simp
  · rw [ybM h10,List.length_append]
    have:10 ^ (n+1+1)=10 ^ (n+1) * 10:=by rw [Nat.pow_succ]
    have:=ih (a / 10) Zo
    simp only [List.length_cons,List.length_nil]
    omega
theorem yca {a:Nat} (h:a<18446744073709551616):(dig a).length≤20:=dig_len 19 a Zo
theorem dig_range:∀ (n a:Nat),a<10 ^ (n+1)→∀ b ∈ dig a,48≤b.toNat∧b.toNat≤57:=by
 intro n
 induction n with
 | zero=>
  intro a h b hb
  rw [qu Zo] at hb
  obtain rfl:=List.mem_singleton.1 hb
  have:(UInt8.ofNat (48+a)).toNat=48+a:=by simp;omega
  omega
 | succ n ih=>
  intro a h b hb
  by_cases h10:a<10
  · rw [qu h10] at hb
    obtain rfl:=List.mem_singleton.1 hb
    have:(UInt8.ofNat (48+a)).toNat=48+a:=by simp;omega
    omega
  · rw [ybM h10] at hb
    have:10 ^ (n+1+1)=10 ^ (n+1) * 10:=by rw [Nat.pow_succ]
    rcases List.mem_append.1 hb with hb|hb
    · exact ih (a / 10) Zo b hb
    · obtain rfl:=List.mem_singleton.1 hb
      have:(UInt8.ofNat (48+a % 10)).toNat=48+a % 10:=by simp;omega
      omega
theorem dig_range20 {a:Nat} (h:a<18446744073709551616):∀ b ∈ dig a,48≤b.toNat∧b.toNat≤57:=dig_range 19 a Zo
theorem yc0 (r:Nat) (h:r<10):UInt8.ofNat (bt (⟨#[48,49,50,51,52,53,54,55,56,57,97,98,99,100,101,102]⟩:ByteArray) (r:Int)).toNat=UInt8.ofNat (48+r):=by
 match r,h with
 | 0,_|1,_|2,_|3,_|4,_|5,_|6,_|7,_|8,_|9,_=>rfl
theorem digits_ev:∀ (n a:Nat),a<10 ^ (n+1)→a<18446744073709551616→Ev (fun k=>Yh.f k (a:Int) 10) ⟨(dig a).toArray⟩:=by
 intro n
 induction n with
 | zero=>
  intro a h h2
  refine .succ (h:=fun _=>some ⟨(dig a).toArray⟩) (fun k=>?_) (.of _)
  simp only [Yh.f]
  have hm:Int.tmod (a:Int) 10=((a % 10:Nat):Int):=rfl
  rw [if_neg Zd,hm,if_pos Zo,if_pos Zo,if_pos Zo,qu Zo]
  have:=yc0 (a % 10) Zo
  simp only [strOfNums,List.map_cons,List.map_nil,this]
  rw [Nat.mod_eq_of_lt Zo]
 | succ n ih=>
  intro a h h2
  have hm:Int.tmod (a:Int) 10=((a % 10:Nat):Int):=rfl
  by_cases h10:a<10
  · refine .succ (h:=fun _=>some ⟨(dig a).toArray⟩) (fun k=>?_) (.of _)
    simp only [Yh.f]
    rw [if_neg Zd,hm,if_pos Zo,if_pos Zo,if_pos Zo,qu Zo]
    have:=yc0 (a % 10) Zo
    simp only [strOfNums,List.map_cons,List.map_nil,this]
    rw [Nat.mod_eq_of_lt Zo]
  · have hp:10 ^ (n+1+1)=10 ^ (n+1) * 10:=by rw [Nat.pow_succ]
    have hih:=ih (a / 10) Zo Zo
    have hd:IntKind.u64.wrap (Int.tdiv (a:Int) 10)=((a / 10:Nat):Int):=by
     have h1:Int.tdiv (a:Int) 10=((a / 10:Nat):Int):=rfl
     rw [h1];exact u64_id Zo Zo
    have hl:=yca (a:=a / 10) Zo
    apply Ev.step hih
    · intro k
      simp only [Yh.f]
      rw [if_neg Zd,hm,if_pos Zo,if_pos Zo,if_neg Zo,hd]
    · have hb:=yc0 (a % 10) Zo
      refine .congr (fun k=>?_) (.of _)
      simp only [strOfNums,List.map_cons,List.map_nil,hb,Option.bind_some]
      rw [if_pos (by simp [ByteArray.size];omega),ybM h10]
      congr 1
def decT (a:Nat):ByteArray:=⟨(dig a).toArray⟩
theorem text_ev (a:Nat) (h:a<18446744073709551616):Ev (fun k=>Jx.f k (a:Int)) (decT a):=
 Ev.same (F:=fun k t143=>some t143) (digits_ev 19 a Zo h) (fun k=>rfl) (.of _)
end Go.Proofs.YtlmennkeggmdbaaGreatDoor
namespace Go.Proofs.YtlmennkeggmdbaaGreatDoor
open Go.RowKit Go.Proofs.YtlmennkeggmdbaaGreatDoorW.PrintWords Go.Proofs.YtlmennkeggmdbaaGreatDoorW.PrintLast Go.Proofs.YtlmennkeggmdbaaGreatDoorW.PrintMore
attribute [local go_sem] Yt Yp YE YB Yj Yk Yu Yv
def Yc.l0:Nat→ByteArray→ByteArray→Int→Option (Int)
 | 0,_,_,_=>none
 | k+1,x0,x1,x5=>if (wrap64 (x5+(x1.size:Int)))≤(x0.size:Int) then (if 0≤x5 then (if x5≤(wrap64 (x5+(x1.size:Int))) then (if (x0.extract (x5:Int).toNat ((wrap64 (x5+(x1.size:Int))):Int).toNat).toList=x1.toList then (some x5) else (Yc.l0 k x0 x1 (wrap64 (x5+1)))) else (none)) else (none)) else (some (-1))
def Yc.f (k:Nat) (a0:ByteArray) (a1:ByteArray):Option (Int):=Yc.l0 k a0 a1 0
theorem Yc.YY:∀ k,(∀ y0 y1 y2,LeO (Yc.l0 k y0 y1 y2) (Yc.l0 (k+1) y0 y1 y2))
 | 0=>fun _ _ _ r h=>by simp [Yc.l0] at h
 | k+1=>by
  have ih0:=Yc.YY k
  · intro y0 y1 y2
    unfold Yc.l0
    repeat' first
    | (with_reducible exact ih0 _ _ _)
    | (with_reducible exact LeO.refl _)
    | (with_reducible exact LeO.none _)
    | (with_reducible refine LeO.ite ?_ ?_)
    | (with_reducible refine LeO.bind ?_ (fun _=>?_))
    | exact ih0 _ _ _
    | exact LeO.none _
    | refine LeO.ite ?_ ?_
    | refine LeO.bind ?_ (fun _=>?_)
theorem Yc.mono:∀ a0 a1 k,LeO (Yc.f k a0 a1) (Yc.f (k+1) a0 a1):=by
 intro a0 a1 k
 have ih0:=Yc.YY k
 unfold Yc.f
 repeat' first
  | (with_reducible exact ih0 _ _ _)
  | (with_reducible exact LeO.refl _)
  | (with_reducible exact LeO.none _)
  | (with_reducible refine LeO.ite ?_ ?_)
  | (with_reducible refine LeO.bind ?_ (fun _=>?_))
  | exact ih0 _ _ _
  | exact LeO.none _
  | refine LeO.ite ?_ ?_
  | refine LeO.bind ?_ (fun _=>?_)
set_option maxHeartbeats 8000000 in
set_option maxRecDepth 100000 in
theorem Yc.calls (k:Nat) (a0:ByteArray) (a1:ByteArray) (r:Int) (w:World) (h:Yc.f k a0 a1=some r) :
 Calls Tryz.prog 208 #[.string a0,.string a1] w fun e w'=>e=.returned (.int .i64 r)∧yD w w':=by
 have H:(Yc.l0 k a0 a1 0)=some r:=h
 clear h
 have H':=yc.mk H
 clear H
 go_enter Tryz.func208,Tryz.ntmps208
 go_wp2
 go_loopg [5] k (fun kq v5 w'=>∃ (x5_1:Int),v5=.int .i64 x5_1∧yc (Yc.l0 kq a0 a1 x5_1=some r)∧yc (kq≤k)∧yD w w')
 case atStart=>exact ⟨(0),(by first|rfl|(simp;done)|(simp [*];done)|(simp [yn];done)),H',⟨Nat.le_refl _⟩,by repeat (first|exact yD.refl _|apply yD.step)⟩
 case round=>
  clear H'
  try clear c2
  try clear p2
  obtain ⟨x5_1,rfl,HA,HK1,⟨m1,rfl⟩⟩:=hrel
  cases gk with
  | zero=>exact absurd HA.out (by simp [Yc.l0])
  | succ k1=>
   have H:=HA.out
   clear HA
   simp only [Yc.l0] at H
   by_cases c3:(wrap64 (x5_1+(a1.size:Int)))≤(a0.size:Int)
   · rw [if_pos c3] at H
     have c3b0:decide ((wrap64 (x5_1+(a1.size:Int)))≤(a0.size:Int))=true:=decide_eq_true c3
     clear c3
     by_cases c4:0≤x5_1
     · rw [if_pos c4] at H
       have c4b0:=eq_true c4
       have c4b1:decide (0≤x5_1)=true:=decide_eq_true c4
       clear c4
       by_cases c5:x5_1≤(wrap64 (x5_1+(a1.size:Int)))
       · rw [if_pos c5] at H
         have c5b0:=eq_true c5
         have c5b1:decide (x5_1≤(wrap64 (x5_1+(a1.size:Int))))=true:=decide_eq_true c5
         have c6b0:=eq_true (of_decide_eq_true (by first|(with_reducible assumption)|assumption):(wrap64 (x5_1+(a1.size:Int)))≤(a0.size:Int))
         by_cases c7:(a0.extract (x5_1:Int).toNat ((wrap64 (x5_1+(a1.size:Int))):Int).toNat).toList=a1.toList
         · rw [if_pos c7] at H
           have c7b0:((a0.extract (x5_1:Int).toNat ((wrap64 (x5_1+(a1.size:Int))):Int).toNat).toList == a1.toList)=true:=beq_iff_eq.mpr c7
           have c7b1:((a0.extract (x5_1:Int).toNat ((wrap64 (x5_1+(a1.size:Int))):Int).toNat).toList != a1.toList)=false:=bne_eq_false_iff_eq.mpr c7
           clear c7
           obtain rfl:=Option.some.inj H
           go_wp2
           go_ret
           exact ⟨by first|rfl|(simp;done)|(simp [*];done)|(simp [yn];done),by repeat (first|exact yD.refl _|apply yD.step)⟩
         · rw [if_neg c7] at H
           have c7b0:((a0.extract (x5_1:Int).toNat ((wrap64 (x5_1+(a1.size:Int))):Int).toNat).toList == a1.toList)=false:=beq_eq_false_iff_ne.mpr c7
           have c7b1:((a0.extract (x5_1:Int).toNat ((wrap64 (x5_1+(a1.size:Int))):Int).toNat).toList != a1.toList)=true:=bne_iff_ne.mpr c7
           have H':=yc.mk H
           clear H
           go_wp2
           go_roundg k1
           case measure=>have:=HK1.out;omega
           case rel=>exact ⟨(wrap64 (x5_1+1)),(by first|rfl|(simp;done)|(simp [*];done)|(simp [yn];done)),H',⟨by have:=HK1.out;omega⟩,by repeat (first|exact yD.refl _|apply yD.step)⟩
       · rw [if_neg c5] at H
         exact absurd H (by simp)
     · rw [if_neg c4] at H
       exact absurd H (by simp)
   · rw [if_neg c3] at H
     have c3b0:decide ((wrap64 (x5_1+(a1.size:Int)))≤(a0.size:Int))=false:=decide_eq_false c3
     clear c3
     obtain rfl:=Option.some.inj H
     go_wp2
     go_ret
     exact ⟨by first|rfl|(simp;done)|(simp [*];done)|(simp [yn];done),by repeat (first|exact yD.refl _|apply yD.step)⟩
end Go.Proofs.YtlmennkeggmdbaaGreatDoor
namespace Go.Proofs.YtlmennkeggmdbaaGreatDoor
open Go.RowKit Go.Proofs.YtlmennkeggmdbaaGreatDoorW.PrintWords Go.Proofs.YtlmennkeggmdbaaGreatDoorW.PrintLast Go.Proofs.YtlmennkeggmdbaaGreatDoorW.PrintMore
abbrev mkB (l:List UInt8):ByteArray:=⟨l.toArray⟩
def Ju:List (List UInt8)→List UInt8
 | []=>[]
 | x::r=>match r with
  | []=>x
  | _::_=>x++32::Ju r
theorem Qh (x y:List UInt8) (r:List (List UInt8)):Ju (x::y::r)=x++32::Ju (y::r):=rfl
theorem size_mk (l:List UInt8):(mkB l).size=l.length:=rfl
theorem extract_mk (l:List UInt8) (i j:Nat):(mkB l).extract i j=mkB ((l.take j).drop i):=by
 apply ByteArray.ext
 rw [ByteArray.data_extract]
 apply Array.toList_inj.1
 simp [List.extract_eq_take_drop,List.drop_take]
theorem yaD (l:List UInt8):(mkB l).toList=l:=by rw [ByteArray.toList_eq]
theorem one_at (l:List UInt8) (j:Nat) (h:j<l.length):((mkB l).extract j (j+1)).toList=[l[j]]:=by
 rw [extract_mk,yaD,List.drop_take,List.drop_eq_getElem_cons h,Nat.add_sub_cancel_left]
 rfl
theorem index_ev (L R:List UInt8) (hL:∀ x ∈ L,x≠32) (hs:(L++32::R).length≤1000000):∀ (m j:Nat),j+m=L.length→Ev (fun k=>Yc.l0 k (mkB (L++32::R)) (⟨#[32]⟩:ByteArray) (j:Int)) (L.length:Int):=by
 intro m
 have h1:((⟨#[32]⟩:ByteArray).size:Int)=1:=rfl
 have h2:(⟨#[32]⟩:ByteArray).toList=[32]:=yaD [32]
 induction m with
 | zero=>
  intro j hj
  have hjl:j<(L++32::R).length:=by simp;omega
  refine .succ (h:=fun _=>some (L.length:Int)) (fun k=>?_) (.of _)
  simp only [Yc.l0]
  rw [h1,Yi Zo,if_pos (by rw [size_mk];omega),if_pos Zo,if_pos Zo,Int.toNat_natCast,Int.toNat_natCast,one_at _ j hjl,h2,if_pos]
  · congr 1;omega
  · have:j=L.length:=by omega
    subst this
    simp
 | succ m ih=>
  intro j hj
  have hjl:j<(L++32::R).length:=by simp;omega
  refine .succ (fun k=>?_) (ih (j+1) Zo)
  simp only [Yc.l0]
  rw [h1,Yi Zo,if_pos (by rw [size_mk];omega),if_pos Zo,if_pos Zo,Int.toNat_natCast,Int.toNat_natCast,one_at _ j hjl,h2,if_neg]
  intro e
  have e':(L++32::R)[j]=32:=List.cons.inj e |>.1
  rw [List.getElem_append_left Zo] at e'
  exact hL _ (List.getElem_mem _) e'
theorem index_no (L:List UInt8) (hL:∀ x ∈ L,x≠32) (hs:L.length≤1000000):∀ (m j:Nat),j+m=L.length→Ev (fun k=>Yc.l0 k (mkB L) (⟨#[32]⟩:ByteArray) (j:Int)) (-1):=by
 intro m
 have h1:((⟨#[32]⟩:ByteArray).size:Int)=1:=rfl
 have h2:(⟨#[32]⟩:ByteArray).toList=[32]:=yaD [32]
 induction m with
 | zero=>
  intro j hj
  refine .succ (h:=fun _=>some (-1)) (fun k=>?_) (.of _)
  simp only [Yc.l0]
  rw [h1,Yi Zo,if_neg (by rw [size_mk];omega)]
 | succ m ih=>
  intro j hj
  have hjl:j<L.length:=by omega
  refine .succ (fun k=>?_) (ih (j+1) Zo)
  simp only [Yc.l0]
  rw [h1,Yi Zo,if_pos (by rw [size_mk];omega),if_pos Zo,if_pos Zo,Int.toNat_natCast,Int.toNat_natCast,one_at _ j hjl,h2,if_neg]
  intro e
  exact hL _ (List.getElem_mem _) (List.cons.inj e |>.1)
theorem lit_word (w:World) (s:ByteArray):(Instr.buildSlice 46 1 #[(0,.string s)]).run Tryz.prog w=.ok (.slice (some ⟨w.heap.size,0,none⟩) 1 1) (w.alloc (.cells #[.string s] 9)):=by kernel_rfl
section
variable {sz:Nat} {D:List Deferred} {L:Kn} {w:World} {ops:Array Oper} {K:Kn→World→Prop} {r:List Oper} {d:Nat} {ty:TypeId} {pos:String} {aft:Array Edge} {x y:Operand}
theorem r_lit {s:ByteArray} (hx:kv L x=some (.string s)) (h:yZ Tryz.prog sz D ops K r ((d,.slice (some ⟨w.heap.size,0,none⟩) 1 1)::L) (w.alloc (.cells #[.string s] 9))) (hd:d<sz:=by decide):yZ Tryz.prog sz D ops K (⟨some d,.buildSlice 46 1 #[(0,x)],ty,pos,aft,none⟩ :: r) L w:=
 YR (fun a ha=>run_litv (ha.kv hx) (lit_word w s)) h hd
theorem yaj {i n:Int} (hx:kv L x=some (.int .i64 i)) (hy:kv L y=some (.int .i64 n)) (b:Bool) (hb:decide (i<n)=b) (h:yZ Tryz.prog sz D ops K r ((d,.bool b)::L) w) (hd:d<sz:=by decide):yZ Tryz.prog sz D ops K (⟨some d,.binOp .lss 3 x y 3,ty,pos,aft,none⟩ :: r) L w:=by
 subst hb;exact YR (fun a ha=>ya9 (ha.kv hx) (ha.kv hy)) h hd
theorem r_eqi {i n:Int} (hx:kv L x=some (.int .i64 i)) (hy:kv L y=some (.int .i64 n)) (b:Bool) (hb:(i == n)=b) (h:yZ Tryz.prog sz D ops K r ((d,.bool b)::L) w) (hd:d<sz:=by decide):yZ Tryz.prog sz D ops K (⟨some d,.binOp .eql 3 x y 3,ty,pos,aft,none⟩ :: r) L w:=by
 subst hb;exact YR (fun a ha=>Y0 (ha.kv hx) (ha.kv hy) Zk) h hd
theorem r_neqi {i n:Int} (hx:kv L x=some (.int .i64 i)) (hy:kv L y=some (.int .i64 n)) (b:Bool) (hb:(!(i == n))=b) (h:yZ Tryz.prog sz D ops K r ((d,.bool b)::L) w) (hd:d<sz:=by decide):yZ Tryz.prog sz D ops K (⟨some d,.binOp .neq 3 x y 3,ty,pos,aft,none⟩ :: r) L w:=by
 subst hb;exact YR (fun a ha=>Y0 (ha.kv hx) (ha.kv hy) Zk) h hd
theorem r_gtr {i n:Int} (hx:kv L x=some (.int .i64 i)) (hy:kv L y=some (.int .i64 n)) (b:Bool) (hb:decide (n<i)=b) (h:yZ Tryz.prog sz D ops K r ((d,.bool b)::L) w) (hd:d<sz:=by decide):yZ Tryz.prog sz D ops K (⟨some d,.binOp .gtr 3 x y 3,ty,pos,aft,none⟩ :: r) L w:=by
 subst hb;exact YR (fun a ha=>Y0 (ha.kv hx) (ha.kv hy) Zk) h hd
theorem r_geq {i n:Int} (hx:kv L x=some (.int .i64 i)) (hy:kv L y=some (.int .i64 n)) (b:Bool) (hb:decide (n≤i)=b) (h:yZ Tryz.prog sz D ops K r ((d,.bool b)::L) w) (hd:d<sz:=by decide):yZ Tryz.prog sz D ops K (⟨some d,.binOp .geq 3 x y 3,ty,pos,aft,none⟩ :: r) L w:=by
 subst hb;exact YR (fun a ha=>Y0 (ha.kv hx) (ha.kv hy) Zk) h hd
theorem ybV {i n m:Int} (hx:kv L x=some (.int .i64 i)) (hy:kv L y=some (.int .i64 n)) (hm:IntKind.i64.wrap (i - n)=m) (h:yZ Tryz.prog sz D ops K r ((d,.int .i64 m)::L) w) (hd:d<sz:=by decide):yZ Tryz.prog sz D ops K (⟨some d,.binOp .sub 3 x y 3,ty,pos,aft,none⟩ :: r) L w:=by
 subst hm;exact YR (fun a ha=>Y0 (ha.kv hx) (ha.kv hy) Zk) h hd
theorem QY {i n m:Int} (hx:kv L x=some (.int .i64 i)) (hy:kv L y=some (.int .i64 n)) (hm:IntKind.i64.wrap (i+n)=m) (h:yZ Tryz.prog sz D ops K r ((d,.int .i64 m)::L) w) (hd:d<sz:=by decide):yZ Tryz.prog sz D ops K (⟨some d,.binOp .add 3 x y 3,ty,pos,aft,none⟩ :: r) L w:=by
 subst hm;exact YR (fun a ha=>ybZ (ha.kv hx) (ha.kv hy)) h hd
theorem r_to {s t:ByteArray} {n:Nat} (hx:kv L x=some (.string s)) (hy:kv L y=some (.int .i64 n)) (hn:n≤s.size) (ht:s.extract 0 n=t) (h:yZ Tryz.prog sz D ops K r ((d,.string t)::L) w) (hd:d<sz:=by decide):yZ Tryz.prog sz D ops K (⟨some d,.slice 9 x none (some y) none,ty,pos,aft,none⟩ :: r) L w:=by
 subst ht;exact YR (fun a ha=>run_sto (ha.kv hx) (ha.kv hy) hn) h hd
theorem r_from {s t:ByteArray} {n:Nat} (hx:kv L x=some (.string s)) (hy:kv L y=some (.int .i64 n)) (hn:n≤s.size) (ht:s.extract n s.size=t) (h:yZ Tryz.prog sz D ops K r ((d,.string t)::L) w) (hd:d<sz:=by decide):yZ Tryz.prog sz D ops K (⟨some d,.slice 9 x (some y) none none,ty,pos,aft,none⟩ :: r) L w:=by
 subst ht;exact YR (fun a ha=>run_sfrom (ha.kv hx) (ha.kv hy) hn) h hd
end
theorem joinB_suf:∀ (a b:List (List UInt8)),(Ju b).length≤(Ju (a++b)).length
 | [],b=>Nat.le_refl _
 | x::a,b=>by
  have ih:=joinB_suf a b
  cases hd:a++b with
  | nil=>simp at hd;simp [hd.2,Ju]
  | cons y q=>rw [List.cons_append,hd,Qh,List.length_append,List.length_cons,← hd];omega
set_option maxRecDepth 100000 in
theorem ydu (ws:List (List UInt8)) (hne:ws≠[]) (hsp:∀ x ∈ ws,∀ b ∈ x,b≠32) (hlen:(Ju ws).length≤1000000) (hn:ws.length≤1000000) (w:World) :
 Calls Tryz.prog 55 #[.string (mkB (Ju ws)),.string ⟨#[32]⟩] w fun e w'=>∃ v,e=.returned v∧Kd.R Kd.string 9 w' w.heap.size (fun _=>True) v (ws.map mkB)∧Below w.heap.size w w':=by
 refine YS 58 Tryz.func55 rfl Zk (by simp) ?_
 refine yF (Yb (v:=.slice none 0 0) rfl (yx ?_))
 refine yF (Yb (v:=.slice none 0 0) rfl (yx ?_))
 refine Yg (yF (yR (v:=.string ⟨#[32]⟩) rfl (qX rfl (r_eqi rfl rfl false rfl (yx (Jt rfl (Jg ?_)))))))
 refine YU (ybG (fun n L w'=>∃ done rest v,L=[(0,.string (mkB (Ju rest))),(1,.string ⟨#[32]⟩),(5,v)]∧rest≠[]∧done++rest=ws∧n=rest.length∧Kd.R Kd.string 9 w' w.heap.size (fun _=>True) v (done.map mkB)∧Below w.heap.size w w') ws.length (M:=[(0,.string (mkB (Ju ws))),(1,.string ⟨#[32]⟩),(5,.slice none 0 0)]) ⟨rfl,rfl,rfl,trivial⟩ ⟨[],ws,_,rfl,hne,rfl,rfl,Kd.qm _ _ _ _ _,Below.refl _ _⟩ ?_)
 rintro n L w' ⟨done,rest,v,rfl,hr,hdr,rfl,hR,hB⟩
 refine YU ?_
 have hlr:(Ju rest).length≤1000000:=by have:=joinB_suf done rest;rw [hdr] at this;omega
 have hdl:done.length+rest.length≤1000000:=by rw [← List.length_append,hdr];exact hn
 cases rest with
 | nil=>exact absurd rfl hr
 | cons x rest=>
  have hx32:∀ b ∈ x,b≠32:=hsp x (by rw [← hdr];simp)
  cases rest with
  | nil=>
   obtain ⟨k,hk⟩:=(index_no x hx32 hlr x.length 0 Zo).ex
   refine yF (yR rfl (yR rfl (YJ Tryz.func208 Zk rfl rfl ((Yc.calls k _ _ (-1) _ hk).mono ?_))))
   rintro e w1 ⟨rfl,hD⟩
   refine ⟨_,rfl,Yb rfl (yx ?_)⟩
   refine Yg (yF (yR rfl (yaj rfl rfl true rfl (yx (QI rfl ?_)))))
   refine yF (yR rfl (yR rfl (r_lit rfl ?_)))
   refine rl_append Kd.string (w0:=w) w.heap.size (.string ⟨#[]⟩) 16 Tryz.underlying46 ybP rfl Zd Zd (v:=v) (xs:=done.map mkB) (mkB x) [.string (mkB x)] (fun _=>False) rfl rfl rfl (fun _ h=>h.elim) (fun _ _=>trivial) (Kd.Y1 hR hD.below) (yw hB hD.below) (yt (yw hB hD.below)) ?_ ?_
   · simp at hdl ⊢;omega
   intro v1 w2 hR2 hB2 _ _
   refine Yb rfl (yx (JA fun a ha=>?_))
   simp only [Exit.then,Exit.inBlock]
   refine J2 (fn:=Tryz.f55) (vs:=[v1]) rfl ⟨_,rfl,?_,hB2⟩ ha
   rw [← hdr,List.map_append]
   exact hR2
  | cons y rest=>
   have hj:=Qh x y rest
   rw [hj] at hlr ⊢
   obtain ⟨k,hk⟩:=(index_ev x (Ju (y::rest)) hx32 hlr x.length 0 Zo).ex
   refine yF (yR rfl (yR rfl (YJ Tryz.func208 Zk rfl rfl ((Yc.calls k _ _ (x.length:Int) _ hk).mono ?_))))
   rintro e w1 ⟨rfl,hD⟩
   refine ⟨_,rfl,Yb rfl (yx ?_)⟩
   refine Yg (yF (yR rfl (yaj rfl rfl false (decide_eq_false Zo) (yx (Jt rfl (Jg ?_))))))
   refine yF (yR rfl (yR rfl (yR rfl (r_to (t:=mkB x) rfl rfl (by rw [size_mk];simp) (by rw [extract_mk];simp) (r_lit rfl ?_)))))
   refine rl_append Kd.string (w0:=w) w.heap.size (.string ⟨#[]⟩) 16 Tryz.underlying46 ybP rfl Zd Zd (v:=v) (xs:=done.map mkB) (mkB x) [.string (mkB x)] (fun _=>False) rfl rfl rfl (fun _ h=>h.elim) (fun _ _=>trivial) (Kd.Y1 hR hD.below) (yw hB hD.below) (yt (yw hB hD.below)) ?_ ?_
   · simp at hdl ⊢;omega
   intro v1 w2 hR2 hB2 _ _
   refine Yb rfl (yx ?_)
   have hxl:x.length≤1000000:=by simp at hlr;omega
   refine at_r (yR rfl (yR rfl (yR (v:=.string ⟨#[32]⟩) rfl (qX (s:=⟨#[32]⟩) rfl (QY (m:=((x.length+1:Nat):Int)) rfl rfl ?_ (r_from (t:=mkB (Ju (y::rest))) rfl rfl (by rw [size_mk];simp) ?_ (Yb rfl (yx fun a ha=>?_))))))))
   · show IntKind.i64.wrap ((x.length:Int)+((1:Nat):Int))=_
     rw [wrap_i64 Zo Zo];omega
   · rw [extract_mk,size_mk,List.take_length,show x++32::Ju (y::rest)=(x++[32])++Ju (y::rest) by simp,List.drop_left' (by simp)]
   simp only [Exit.inBlock,Exit.then]
   refine ⟨rest.length+1,[(0,.string (mkB (Ju (y::rest)))),(1,.string ⟨#[32]⟩),(5,v1)],by simp,ha.sub ⟨rfl,rfl,rfl,trivial⟩,done++[x],y::rest,v1,rfl,by simp,by rw [← hdr];simp,rfl,?_,hB2⟩
   rw [List.map_append]
   exact hR2
end Go.Proofs.YtlmennkeggmdbaaGreatDoor
namespace Go.Proofs.YtlmennkeggmdbaaGreatDoor
open Go.RowKit Go.Proofs.YtlmennkeggmdbaaGreatDoorW.PrintWords Go.Proofs.YtlmennkeggmdbaaGreatDoorW.PrintLast Go.Proofs.YtlmennkeggmdbaaGreatDoorW.PrintMore
theorem ybF {P:Program} {Q:Exit→Act→World→Prop} {sz:Nat} {D:List Deferred} {L:Kn} {w:World} {c:Code} {a:Act} (ha:Has sz D L a) (h:At P Q sz D L w c):c.wp P Q a w:=h a ha
section
variable {sz:Nat} {D:List Deferred} {L:Kn} {w:World} {ops:Array Oper} {K:Kn→World→Prop} {r:List Oper} {d:Nat} {ty:TypeId} {pos:String} {aft:Array Edge} {gd:Option (Nat × Bool)} {x y:Operand}
theorem g_mv {v:Value} (hw:QG ops L ⟨some d,.move x,ty,pos,aft,gd⟩=some true) (hx:kv L x=some v) (h:yZ Tryz.prog sz D ops K r ((d,v)::L) w) (hd:d<sz:=by decide):yZ Tryz.prog sz D ops K (⟨some d,.move x,ty,pos,aft,gd⟩ :: r) L w:=rl_gof hw (fun a ha=>yV (ha.kv hx)) h hd
theorem QF {T T':Nat} {op:BinOp} {u v res:Value} (hw:QG ops L ⟨some d,.binOp op T x y T',ty,pos,aft,gd⟩=some true) (hx:kv L x=some u) (hy:kv L y=some v) (hl:(do eqGuard op T x y u v;binOp op T u v:Sem Value).run Tryz.prog w=.ok res w) (h:yZ Tryz.prog sz D ops K r ((d,res)::L) w) (hd:d<sz:=by decide) :
 yZ Tryz.prog sz D ops K (⟨some d,.binOp op T x y T',ty,pos,aft,gd⟩ :: r) L w:=rl_gof hw (fun a ha=>Y0 (ha.kv hx) (ha.kv hy) hl) h hd
theorem g_eq8 {i n:Int} (hw:QG ops L ⟨some d,.binOp .eql 5 x y 5,ty,pos,aft,gd⟩=some true) (hx:kv L x=some (.int .u8 i)) (hy:kv L y=some (.int .u8 n)) (b:Bool) (hb:(i == n)=b) (h:yZ Tryz.prog sz D ops K r ((d,.bool b)::L) w) (hd:d<sz:=by decide):yZ Tryz.prog sz D ops K (⟨some d,.binOp .eql 5 x y 5,ty,pos,aft,gd⟩ :: r) L w:=by
 subst hb;exact QF hw hx hy Zk h hd
theorem Qs {i n:Int} (hx:kv L x=some (.int .u8 i)) (hy:kv L y=some (.int .u8 n)) (b:Bool) (hb:(i == n)=b) (h:yZ Tryz.prog sz D ops K r ((d,.bool b)::L) w) (hd:d<sz:=by decide):yZ Tryz.prog sz D ops K (⟨some d,.binOp .eql 5 x y 5,ty,pos,aft,none⟩ :: r) L w:=g_eq8 rfl hx hy b hb h hd
theorem r_neq8 {i n:Int} (hx:kv L x=some (.int .u8 i)) (hy:kv L y=some (.int .u8 n)) (b:Bool) (hb:(!(i == n))=b) (h:yZ Tryz.prog sz D ops K r ((d,.bool b)::L) w) (hd:d<sz:=by decide):yZ Tryz.prog sz D ops K (⟨some d,.binOp .neq 5 x y 5,ty,pos,aft,none⟩ :: r) L w:=by
 subst hb;exact QF rfl hx hy Zk h hd
theorem g_leq8 {i n:Int} (hw:QG ops L ⟨some d,.binOp .leq 5 x y 5,ty,pos,aft,gd⟩=some true) (hx:kv L x=some (.int .u8 i)) (hy:kv L y=some (.int .u8 n)) (b:Bool) (hb:decide (i≤n)=b) (h:yZ Tryz.prog sz D ops K r ((d,.bool b)::L) w) (hd:d<sz:=by decide):yZ Tryz.prog sz D ops K (⟨some d,.binOp .leq 5 x y 5,ty,pos,aft,gd⟩ :: r) L w:=by
 subst hb;exact QF hw hx hy Zk h hd
theorem g_eqi {i n:Int} (hw:QG ops L ⟨some d,.binOp .eql 3 x y 3,ty,pos,aft,gd⟩=some true) (hx:kv L x=some (.int .i64 i)) (hy:kv L y=some (.int .i64 n)) (b:Bool) (hb:(i == n)=b) (h:yZ Tryz.prog sz D ops K r ((d,.bool b)::L) w) (hd:d<sz:=by decide):yZ Tryz.prog sz D ops K (⟨some d,.binOp .eql 3 x y 3,ty,pos,aft,gd⟩ :: r) L w:=by
 subst hb;exact QF hw hx hy Zk h hd
theorem r_eqb {i n:Bool} (hx:kv L x=some (.bool i)) (hy:kv L y=some (.bool n)) (h:yZ Tryz.prog sz D ops K r ((d,.bool (i == n))::L) w) (hd:d<sz:=by decide):yZ Tryz.prog sz D ops K (⟨some d,.binOp .eql 4 x y 4,ty,pos,aft,none⟩ :: r) L w:=QF rfl hx hy Zk h hd
theorem g_pick {c:Operand} {b:Bool} {v:Value} (hw:QG ops L ⟨some d,.pick c x y,ty,pos,aft,gd⟩=some true) (hc:kv L c=some (.bool b)) (hv:kv L (if b then x else y)=some v) (h:yZ Tryz.prog sz D ops K r ((d,v)::L) w) (hd:d<sz:=by decide):yZ Tryz.prog sz D ops K (⟨some d,.pick c x y,ty,pos,aft,gd⟩ :: r) L w:=
 rl_gof hw (fun a ha=>by
  have h1:=Jv (P:=Tryz.prog) (w:=w) (d:=some d) (ty:=ty) (pos:=pos) (aft:=aft) (gd:=gd) (x:=x) (y:=y) (ha.kv hc)
  rw [h1]
  cases b with
  | true=>have hv':kv L x=some v:=hv;rw [if_pos rfl,ha.kv hv']
  | false=>have hv':kv L y=some v:=hv;rw [if_neg Zd,ha.kv hv']) h hd
theorem QB {c:Operand} {b:Bool} {v:Value} (hc:kv L c=some (.bool b)) (hv:kv L (if b then x else y)=some v) (h:yZ Tryz.prog sz D ops K r ((d,v)::L) w) (hd:d<sz:=by decide):yZ Tryz.prog sz D ops K (⟨some d,.pick c x y,ty,pos,aft,none⟩ :: r) L w:=g_pick rfl hc hv h hd
theorem g_idx {l:List UInt8} {i:Nat} {b:UInt8} (hw:QG ops L ⟨some d,.index 9 x y,ty,pos,aft,gd⟩=some true) (hx:kv L x=some (.string (mkB l))) (hy:kv L y=some (.int .i64 i)) (hb:l[i]?=some b) (h:yZ Tryz.prog sz D ops K r ((d,.int .u8 b.toNat)::L) w) (hd:d<sz:=by decide):yZ Tryz.prog sz D ops K (⟨some d,.index 9 x y,ty,pos,aft,gd⟩ :: r) L w:=by
 obtain ⟨hi,hv⟩:=List.getElem?_eq_some_iff.1 hb
 refine rl_gof hw (fun a ha=>(ydp (s:=mkB l) (i:=i) (ha.kv hx) (ha.kv hy) hi).trans ?_) h hd
 subst hv
 rfl
theorem r_idx {l:List UInt8} {i:Nat} {b:UInt8} (hx:kv L x=some (.string (mkB l))) (hy:kv L y=some (.int .i64 i)) (hb:l[i]?=some b) (h:yZ Tryz.prog sz D ops K r ((d,.int .u8 b.toNat)::L) w) (hd:d<sz:=by decide):yZ Tryz.prog sz D ops K (⟨some d,.index 9 x y,ty,pos,aft,none⟩ :: r) L w:=g_idx rfl hx hy hb h hd
theorem r_not {b:Bool} {T:TypeId} (hx:kv L x=some (.bool b)) (h:yZ Tryz.prog sz D ops K r ((d,.bool (!b))::L) w) (hd:d<sz:=by decide):yZ Tryz.prog sz D ops K (⟨some d,.unOp .not T x,ty,pos,aft,none⟩ :: r) L w:=
 YR (fun a ha=>by
  unfold execOp
  simp only [ha.kv hx]
  rfl) h hd
theorem r_min {i j:Nat} {u v:Int} {ts:Array TypeId} (hx:lkv L i=some (.int .i64 u)) (hy:lkv L j=some (.int .i64 v)) (h:yZ Tryz.prog sz D ops K r ((d,.int .i64 (if v<u then v else u))::L) w) (hd:d<sz:=by decide):yZ Tryz.prog sz D ops K (⟨some d,.call { callee:=.builtin .min,args:=#[.tmp i,.tmp j],argTypes:=ts },ty,pos,aft,none⟩ :: r) L w:=
 YR (fun a ha=>by
  have h1:=ha.at_ i _ hx
  have h2:=ha.at_ j _ hy
  have h1':a.tmps[i]?.getD undef=.int .i64 u:=by simpa [Act.eval] using h1
  have h2':a.tmps[j]?.getD undef=.int .i64 v:=by simpa [Act.eval] using h2
  unfold execOp
  simp [go_sem,h1',h2',YB,Yp]) h hd
end
def Dig (b:UInt8):Prop:=48≤b.toNat∧b.toNat≤57
set_option maxRecDepth 100000 in
theorem prefix_walk (b:UInt8) (l:List UInt8) (hb:Dig b) (hl:l.length≤1000000) (w:World) :
 Calls Tryz.prog 243 #[.string (mkB (b::l)),.string ⟨#[105,110,102,105,110,105,116,121]⟩] w fun e w'=>e=.returned (.int .i64 0)∧w'=w:=by
 have hb1:=hb.1
 have hb2:=hb.2
 have hs:(mkB (b::l)).size=l.length+1:=rfl
 refine YS 36 Tryz.func243 rfl Zk (by simp) ?_
 refine yF (Yb rfl (yx ?_))
 refine yF (yR rfl (qX (s:=⟨#[105,110,102,105,110,105,116,121]⟩) rfl (yR rfl (qX (s:=mkB (b::l)) rfl (r_min rfl rfl (Yb rfl (yx ?_)))))))
 have hm:∀ n:Int,n=(if ((mkB (b::l)).size:Int)<((⟨#[105,110,102,105,110,105,116,121]⟩:ByteArray).size:Int) then ((mkB (b::l)).size:Int) else ((⟨#[105,110,102,105,110,105,116,121]⟩:ByteArray).size:Int))→0<n:=by
  intro n hn
  have h8:((⟨#[105,110,102,105,110,105,116,121]⟩:ByteArray).size:Int)=8:=rfl
  rw [h8] at hn
  split at hn <;> omega
 generalize hnn:(if ((mkB (b::l)).size:Int)<((⟨#[105,110,102,105,110,105,116,121]⟩:ByteArray).size:Int) then ((mkB (b::l)).size:Int) else ((⟨#[105,110,102,105,110,105,116,121]⟩:ByteArray).size:Int))=n at hm ⊢
 have hn0:=hm n rfl
 refine Yg (yF (Yb rfl (yx (YU (ybG (fun m L w'=>m=0∧L=[(0,.string (mkB (b::l))),(1,.string ⟨#[105,110,102,105,110,105,116,121]⟩),(5,.int .i64 n),(6,.int .i64 0)]∧w'=w) 0 (M:=[(0,.string (mkB (b::l))),(1,.string ⟨#[105,110,102,105,110,105,116,121]⟩),(5,.int .i64 n),(6,.int .i64 0)]) ⟨rfl,rfl,rfl,rfl,trivial⟩ ⟨rfl,rfl,rfl⟩ ?_)))))
 rintro m L w' ⟨rfl,rfl,rfl⟩
 refine Yg (yF (yR rfl (yR rfl (yaj rfl rfl true (decide_eq_true hn0) (yx (QI rfl (Jg ?_)))))))
 refine Yg (YU ?_)
 refine yF (yR rfl (yR rfl (r_idx (i:=0) (b:=b) rfl rfl rfl (Yb rfl (yx ?_)))))
 refine Yg (yF (yR rfl (g_leq8 rfl rfl rfl false (decide_eq_false Zo) (yR rfl (Ja rfl (Ja rfl (QB rfl rfl (yx (Jt rfl (Jg ?_))))))))))
 refine yF (yR rfl (yR rfl (yR rfl (r_idx (l:=[105,110,102,105,110,105,116,121]) (i:=0) (b:=105) rfl rfl rfl (r_neq8 rfl rfl true ?_ (yx (QI rfl ?_)))))))
 · have h2:(105:UInt8).toNat=105:=rfl
   rw [h2];simp;omega
 refine yF (yR rfl (Yb rfl (yx (JA fun a ha=>?_))))
 simp only [Exit.then,Exit.inBlock]
 exact J2 (fn:=Tryz.f243) (vs:=[.int .i64 0]) rfl ⟨rfl,rfl⟩ ha
end Go.Proofs.YtlmennkeggmdbaaGreatDoor
