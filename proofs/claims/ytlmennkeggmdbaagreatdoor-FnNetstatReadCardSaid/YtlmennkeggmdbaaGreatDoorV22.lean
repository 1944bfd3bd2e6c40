/- Part 22 of 34 of the proof of the tied card of FnNetstatRead. -/
import Derived.Test.YtlmennkeggmdbaaGreatDoorVz
import Derived.Test.YtlmennkeggmdbaaGreatDoorV18
import Derived.Test.YtlmennkeggmdbaaGreatDoorV21
set_option linter.unusedVariables false
set_option linter.unusedSimpArgs false
namespace Go.Proofs.YtlmennkeggmdbaaGreatDoor
open Go.RowKit Go.Proofs.YtlmennkeggmdbaaGreatDoorW.PrintWords Go.Proofs.YtlmennkeggmdbaaGreatDoorW.PrintLast Go.Proofs.YtlmennkeggmdbaaGreatDoorW.PrintMore
section
variable {a:Act} {d:Option Tmp} {ty:TypeId} {pos:String} {aft:Array Edge} {gd:Option (Nat × Bool)} {w w1:World} {x y:Operand}
theorem neq_str {s:ByteArray} (hx:a.eval x=.string s) (hy:a.eval y=.string s):(execOp a.eval ⟨d,.binOp .neq 9 x y 9,ty,pos,aft,gd⟩).run Tryz.prog w=.ok (.value (.bool false)) w:=
 (Y0 (r:=.bool (!(s.toList == s.toList))) hx hy Zk).trans (by simp)
theorem neq_int {n:Int} (hx:a.eval x=.int .i64 n) (hy:a.eval y=.int .i64 n):(execOp a.eval ⟨d,.binOp .neq 3 x y 3,ty,pos,aft,gd⟩).run Tryz.prog w=.ok (.value (.bool false)) w:=
 (Y0 (r:=.bool (!(n == n))) hx hy Zk).trans (by simp)
theorem neq_i64 {n:Int} (hx:a.eval x=.int .i64 n) (hy:a.eval y=.int .i64 n):(execOp a.eval ⟨d,.binOp .neq 2 x y 2,ty,pos,aft,gd⟩).run Tryz.prog w=.ok (.value (.bool false)) w:=
 (Y0 (r:=.bool (!(n == n))) hx hy Zk).trans (by simp)
theorem neq_u64 {n:Int} (hx:a.eval x=.int .u64 n) (hy:a.eval y=.int .u64 n):(execOp a.eval ⟨d,.binOp .neq 30 x y 30,ty,pos,aft,gd⟩).run Tryz.prog w=.ok (.value (.bool false)) w:=
 (Y0 (r:=.bool (!(n == n))) hx hy Zk).trans (by simp)
theorem neq_bool {n:Bool} (hx:a.eval x=.bool n) (hy:a.eval y=.bool n):(execOp a.eval ⟨d,.binOp .neq 4 x y 4,ty,pos,aft,gd⟩).run Tryz.prog w=.ok (.value (.bool false)) w:=
 (Y0 (r:=.bool (!(n == n))) hx hy Zk).trans (by simp)
set_option maxRecDepth 100000 in
theorem run_bits {t:Nat} {f:Nat} {ts:Array TypeId} (hx:a.eval (.tmp t)=.float .f64 f):(execOp a.eval ⟨d,.call { callee:=.value (.func 22),args:=#[.tmp t],argTypes:=ts },ty,pos,aft,gd⟩).run Tryz.prog w=.ok (.value (.int .u64 f)) w:=by
 have h1:(callFunc 22 #[.float .f64 f]).run Tryz.prog w=.ok (.value (.int .u64 f)) w:=by kernel_rfl
 have h2:(execOp a.eval ⟨d,.call { callee:=.value (.func 22),args:=#[.tmp t],argTypes:=ts },ty,pos,aft,gd⟩).run Tryz.prog w=(callFunc 22 #[a.eval (.tmp t)]).run Tryz.prog w:=by
  unfold execOp
  simp [resolve,Deferred.ofValue,invoke,Act.eval]
 rw [h2,hx];exact h1
theorem run_not {t:Nat} {b:Bool} {T:TypeId} (hx:a.eval (.tmp t)=.bool b):(execOp a.eval ⟨d,.unOp .not T (.tmp t),ty,pos,aft,gd⟩).run Tryz.prog w=.ok (.value (.bool (!b))) w:=by
 unfold execOp
 simp only [hx]
 rfl
end
theorem load_any {w:World} {p:Addr} {ty:TypeId} {cs:List Value} {d:TypeDesc} (hc:∀ j v,cs[j]?=some v→w.cell? (p.add j)=some v)
 (hu:Tryz.prog.underlying ty=some d) (hd:d.isRow=true) (hi:(Tryz.prog.info? ty).map (·.size)=some cs.length) :
 (Instr.loadAt ty (.pointer (some p))).run Tryz.prog w=.ok (.agg cs.toArray) w:=by
 have hl:(loadCells p cs.length).run Tryz.prog w=.ok cs.toArray w:=run_loadCells_list (P:=Tryz.prog) w p cs hc
 cases hq:Tryz.prog.info? ty with
 | none=>simp [hq] at hi
 | some i=>
  have hs:i.size=cs.length:=by simpa [hq] using hi
  have hagg:(isAgg ty).run Tryz.prog w=.ok true w:=by
   unfold isAgg
   rw [Sem.run_bind,run_underlying hu w]
   cases d <;> simp_all
  simp [Instr.loadAt,Instr.sureAddr,loadVar,Sem.run_bind,hagg,sizeOf,typeInfo,hq,hs,hl]
set_option maxRecDepth 100000 in
theorem idx38 {ad:Addr} {n c:Nat} {i:Nat} (hi:i<n) (W:World):(Instr.indexAt 36 (.slice (some ad) n c) (.int .i64 i)).run Tryz.prog W=.ok (.pointer (some (ad.add (i * 8)))) W:=by
 have hu:Tryz.prog.underlying 36=some (.slice (Tryz.prog.elem 36)):=Tryz.underlying36
 have h1:(Tryz.prog.info? (Tryz.prog.elem 36)).map (·.size)=some 8:=by kernel_rfl
 rw [run_indexAt_slice (h:=hu),if_pos ⟨by omega,by omega⟩]
 cases hq:Tryz.prog.info? (Tryz.prog.elem 36) with
 | none=>rw [hq] at h1;cases h1
 | some i'=>
  rw [hq] at h1
  have h1:i'.size=8:=by simpa using h1
  simp [sizeOf,typeInfo,hq,h1]
theorem run_box38 {a:Act} {d:Option Tmp} {ty:TypeId} {pos:String} {aft:Array Edge} {gd:Option (Nat × Bool)} (w:World) (t:Nat) (x0 x1 x2 x3 x4 x5 x6 x7:Value) (h:a.eval (.tmp t)=.agg #[x0,x1,x2,x3,x4,x5,x6,x7]) :
 (execOp a.eval ⟨d,.box 38 (.tmp t),ty,pos,aft,gd⟩).run Tryz.prog w=.ok (.value (.pointer (some ⟨w.heap.size,0,none⟩))) (w.alloc (.cells #[x0,x1,x2,x3,x4,x5,x6,x7] 38)):=
 yaC h (show _=Result.ok (Value.pointer (some ⟨w.heap.size,0,none⟩)) (w.alloc (.cells #[x0,x1,x2,x3,x4,x5,x6,x7] 38)) by kernel_rfl)
theorem fa38_0 (w:World) (g:Nat):(Instr.fieldAt 38 (Value.pointer (some ⟨g,0,none⟩)) 0).run Tryz.prog w=.ok (.pointer (some ⟨g,0,none⟩)) w:=by kernel_rfl
theorem fa38_1 (w:World) (g:Nat):(Instr.fieldAt 38 (Value.pointer (some ⟨g,0,none⟩)) 1).run Tryz.prog w=.ok (.pointer (some ⟨g,1,none⟩)) w:=by kernel_rfl
theorem fa38_2 (w:World) (g:Nat):(Instr.fieldAt 38 (Value.pointer (some ⟨g,0,none⟩)) 2).run Tryz.prog w=.ok (.pointer (some ⟨g,2,none⟩)) w:=by kernel_rfl
theorem fa38_3 (w:World) (g:Nat):(Instr.fieldAt 38 (Value.pointer (some ⟨g,0,none⟩)) 3).run Tryz.prog w=.ok (.pointer (some ⟨g,3,none⟩)) w:=by kernel_rfl
theorem fa38_4 (w:World) (g:Nat):(Instr.fieldAt 38 (Value.pointer (some ⟨g,0,none⟩)) 4).run Tryz.prog w=.ok (.pointer (some ⟨g,4,none⟩)) w:=by kernel_rfl
theorem fa38_5 (w:World) (g:Nat):(Instr.fieldAt 38 (Value.pointer (some ⟨g,0,none⟩)) 5).run Tryz.prog w=.ok (.pointer (some ⟨g,5,none⟩)) w:=by kernel_rfl
theorem fa38_6 (w:World) (g:Nat):(Instr.fieldAt 38 (Value.pointer (some ⟨g,0,none⟩)) 6).run Tryz.prog w=.ok (.pointer (some ⟨g,6,none⟩)) w:=by kernel_rfl
theorem fa38_7 (w:World) (g:Nat):(Instr.fieldAt 38 (Value.pointer (some ⟨g,0,none⟩)) 7).run Tryz.prog w=.ok (.pointer (some ⟨g,7,none⟩)) w:=by kernel_rfl
theorem add_add (ad:Addr) (m j:Nat):(ad.add m).add j=ad.add (m+j):=by
 unfold Addr.add
 by_cases hm:m=0 <;> by_cases hj:j=0 <;> simp [hm,hj,Nat.add_assoc]
theorem yav (w:World) (g i:Nat) (hi:i<8):(Instr.fieldAt 38 (Value.pointer (some ⟨g,0,none⟩)) i).run Tryz.prog w=.ok (.pointer (some ⟨g,i,none⟩)) w:=by
 match i,hi with
 | 0,_=>exact fa38_0 w g
 | 1,_=>exact fa38_1 w g
 | 2,_=>exact fa38_2 w g
 | 3,_=>exact fa38_3 w g
 | 4,_=>exact fa38_4 w g
 | 5,_=>exact fa38_5 w g
 | 6,_=>exact fa38_6 w g
 | 7,_=>exact fa38_7 w g
structure SF (b0 b1 n i:Nat) (a:Act):Prop where
 size:a.tmps.size=83
 defers:a.defers=[]
 e2:a.eval (.tmp 2)=.pointer (some ⟨b0,0,none⟩)
 e3:a.eval (.tmp 3)=.pointer (some ⟨b1,0,none⟩)
 e66:a.eval (.tmp 66)=.int .i64 n
 e67:a.eval (.tmp 67)=.int .i64 i
set_option maxRecDepth 100000 in
set_option maxHeartbeats 4000000 in
theorem same_walk:∀ (m:Nat) (x:S38) (cs ds:List Value) (w:World),SizeOf.sizeOf x≤m→k38.K w x cs→k38.K w x ds →
 Calls Tryz.prog 9 #[.agg cs.toArray,.agg ds.toArray] w fun e w'=>e=.returned (.bool true)∧Below w.heap.size w w':=by
 intro m
 induction m with
 | zero=>intro x cs ds w hx;cases x;simp at hx
 | succ m ih=>
 intro x cs ds w hx hcs hds
 obtain ⟨A,c,rfl,hl,hC⟩:=k38_open hcs
 obtain ⟨A',c',rfl,hl',hC'⟩:=k38_open hds
 clear hcs hds
 have hlen:x.f7.length≤9223372036854775807:=hC.2.1
 go_enter Tryz.func9,Tryz.ntmps9
 generalize ha0:(Act.mk _ _)=a0
 have hsz:a0.tmps.size=Tryz.f9.ntmps:=by rw [← ha0];rfl
 replace hsz:a0.tmps.size=83:=hsz.trans Zk
 have hdf:a0.defers=[]:=by rw [← ha0]
 have e0:a0.eval (.tmp 0)=.agg #[.string x.f0,.int .i64 x.f1,.bool x.f2,.int .i64 x.f3,.int .u64 x.f4,.float .f64 x.f5,.string x.f6,.slice A x.f7.length c]:=by rw [← ha0];rfl
 have e1:a0.eval (.tmp 1)=.agg #[.string x.f0,.int .i64 x.f1,.bool x.f2,.int .i64 x.f3,.int .u64 x.f4,.float .f64 x.f5,.string x.f6,.slice A' x.f7.length c']:=by rw [← ha0];rfl
 clear ha0
 refine yY ?_
 refine yq rfl (run_box38 w 0 _ _ _ _ _ _ _ _ e0) ?_
 have hb0:=YP w (.cells #[.string x.f0,.int .i64 x.f1,.bool x.f2,.int .i64 x.f3,.int .u64 x.f4,.float .f64 x.f5,.string x.f6,.slice A x.f7.length c] 38 (0,0))
 have hB1:Below w.heap.size w (w.alloc (.cells #[.string x.f0,.int .i64 x.f1,.bool x.f2,.int .i64 x.f3,.int .u64 x.f4,.float .f64 x.f5,.string x.f6,.slice A x.f7.length c] 38 (0,0))):=yl (Below.refl _ _) _
 generalize (w.alloc (.cells #[.string x.f0,.int .i64 x.f1,.bool x.f2,.int .i64 x.f3,.int .u64 x.f4,.float .f64 x.f5,.string x.f6,.slice A x.f7.length c] 38 (0,0)))=w1 at hb0 hB1 ⊢
 refine yq rfl (run_box38 w1 1 _ _ _ _ _ _ _ _ ((yb _ Zd).trans e1)) ?_
 have hb0':=Yw hb0 (.cells #[.string x.f0,.int .i64 x.f1,.bool x.f2,.int .i64 x.f3,.int .u64 x.f4,.float .f64 x.f5,.string x.f6,.slice A' x.f7.length c'] 38 (0,0))
 have hb1:=YP w1 (.cells #[.string x.f0,.int .i64 x.f1,.bool x.f2,.int .i64 x.f3,.int .u64 x.f4,.float .f64 x.f5,.string x.f6,.slice A' x.f7.length c'] 38 (0,0))
 have hB2:Below w.heap.size w (w1.alloc (.cells #[.string x.f0,.int .i64 x.f1,.bool x.f2,.int .i64 x.f3,.int .u64 x.f4,.float .f64 x.f5,.string x.f6,.slice A' x.f7.length c'] 38 (0,0))):=yl hB1 _
 generalize (w1.alloc (.cells #[.string x.f0,.int .i64 x.f1,.bool x.f2,.int .i64 x.f3,.int .u64 x.f4,.float .f64 x.f5,.string x.f6,.slice A' x.f7.length c'] 38 (0,0)))=w2 at hb0' hb1 hB2 ⊢
 generalize hq0:w.heap.size=b0 at hb0'
 generalize hq1:w1.heap.size=b1 at hb1
 have hs1:=yt hB1
 simp only [hq0,hq1]
 refine yq rfl (YL (v:=.bool false) rfl) ?_
 refine Yd ?_
 generalize hz0:(Act.put _ (some 4) _)=z0
 have zs:z0.tmps.size=83:=by rw [← hz0];simp only [size_put];exact hsz
 have zd:z0.defers=[]:=by rw [← hz0];simp only [yJ];exact hdf
 have z2:z0.eval (.tmp 2)=.pointer (some ⟨b0,0,none⟩):=by rw [← hz0];simp (disch:=exact Zq hsz) only [ya,yb]
 have z3:z0.eval (.tmp 3)=.pointer (some ⟨b1,0,none⟩):=by rw [← hz0];simp (disch:=exact Zq hsz) only [ya,yb]
 clear hz0
 refine wp_seq ?_
 refine early_all (k:=6) (n:=58) (B:=[0,1,0,4,15,31,63,127,63,319,1023,2047,4095,8191,16383,8191,40959,131071,262143,524287,1048575,2097151,1048575,5242879,16777215,33554431,67108863,134217727,268435455,134217727,671088639,2147483647,4294967295,8589934591,17179869183,34359738367,68719476735,17179869183,154618822655,549755813887,1099511627775,2199023255551,4398046511103,8796093022207,17592186044415,8796093022207,43980465111039,140737488355327,281474976710655,562949953421311,1125899906842623,2251799813685247,4503599627370495,1125899906842623,10133099161583615,28147497671065599,72057594037927935,144115188075855871])
  (Y:=fun i=>([.pointer (some ⟨b0,0,none⟩),.string x.f0,.pointer (some ⟨b1,0,none⟩),.string x.f0,.bool false,.bool false,.pointer (some ⟨b0,1,none⟩),.int .i64 x.f1,.pointer (some ⟨b1,1,none⟩),.int .i64 x.f1,.bool false,.bool false,.bool false,.pointer (some ⟨b0,2,none⟩),.bool x.f2,.pointer (some ⟨b1,2,none⟩),.bool x.f2,.bool false,.bool false,.bool false,.pointer (some ⟨b0,3,none⟩),.int .i64 x.f3,.pointer (some ⟨b1,3,none⟩),.int .i64 x.f3,.bool false,.bool false,.bool false,.pointer (some ⟨b0,4,none⟩),.int .u64 x.f4,.pointer (some ⟨b1,4,none⟩),.int .u64 x.f4,.bool false,.bool false,.bool false,.pointer (some ⟨b0,5,none⟩),.float .f64 x.f5,.int .u64 (x.f5:Int),.pointer (some ⟨b1,5,none⟩),.float .f64 x.f5,.int .u64 (x.f5:Int),.bool false,.bool false,.bool false,.pointer (some ⟨b0,6,none⟩),.string x.f6,.pointer (some ⟨b1,6,none⟩),.string x.f6,.bool false,.bool false,.bool false,.pointer (some ⟨b0,7,none⟩),.slice A x.f7.length c,.int .i64 x.f7.length,.pointer (some ⟨b1,7,none⟩),.slice A' x.f7.length c',.int .i64 x.f7.length,.bool false,.bool false]:List Value).getD i undef) Zk rfl Zk Zk Zd Zk ?_ ?_ Zo ?_
 · intro i o hi ho
   match i,hi with
   | 0,_|1,_|2,_|3,_|4,_|5,_|11,_|12,_|18,_|19,_|25,_|26,_|32,_|33,_|41,_|42,_|48,_|49,_|57,_=>obtain rfl:=Option.some.inj ho;exact .inl rfl
   | 6,_|7,_|8,_|9,_|10,_=>obtain rfl:=Option.some.inj ho;exact .inr ⟨5,false,rfl,by decide,rfl⟩
   | 13,_|14,_|15,_|16,_|17,_=>obtain rfl:=Option.some.inj ho;exact .inr ⟨12,false,rfl,by decide,rfl⟩
   | 20,_|21,_|22,_|23,_|24,_=>obtain rfl:=Option.some.inj ho;exact .inr ⟨19,false,rfl,by decide,rfl⟩
   | 27,_|28,_|29,_|30,_|31,_=>obtain rfl:=Option.some.inj ho;exact .inr ⟨26,false,rfl,by decide,rfl⟩
   | 34,_|35,_|36,_|37,_|38,_|39,_|40,_=>obtain rfl:=Option.some.inj ho;exact .inr ⟨33,false,rfl,by decide,rfl⟩
   | 43,_|44,_|45,_|46,_|47,_=>obtain rfl:=Option.some.inj ho;exact .inr ⟨42,false,rfl,by decide,rfl⟩
   | 50,_|51,_|52,_|53,_|54,_|55,_|56,_=>obtain rfl:=Option.some.inj ho;exact .inr ⟨49,false,rfl,by decide,rfl⟩
 · intro i o hi ho a' hgot hold W hW
   have hw0:W.heap[b0]?=some (.cells #[.string x.f0,.int .i64 x.f1,.bool x.f2,.int .i64 x.f3,.int .u64 x.f4,.float .f64 x.f5,.string x.f6,.slice A x.f7.length c] 38 (0,0)):=by rw [hW];exact hb0'
   have hw1:W.heap[b1]?=some (.cells #[.string x.f0,.int .i64 x.f1,.bool x.f2,.int .i64 x.f3,.int .u64 x.f4,.float .f64 x.f5,.string x.f6,.slice A' x.f7.length c'] 38 (0,0)):=by rw [hW];exact hb1
   match i,hi with
   | 0,_=>obtain rfl:=Option.some.inj ho;exact yG ((hold 2 Zd).trans z2) (yav _ _ 0 Zd)
   | 1,_=>obtain rfl:=Option.some.inj ho;exact run_load (hgot 0 Zd) (Jz (fun _=>by kernel_rfl) hw0 rfl)
   | 2,_=>obtain rfl:=Option.some.inj ho;exact yG ((hold 3 Zd).trans z3) (yav _ _ 0 Zd)
   | 3,_=>obtain rfl:=Option.some.inj ho;exact run_load (hgot 2 Zd) (Jz (fun _=>by kernel_rfl) hw1 rfl)
   | 4,_=>obtain rfl:=Option.some.inj ho;exact neq_str (hgot 1 Zd) (hgot 3 Zd)
   | 5,_=>obtain rfl:=Option.some.inj ho;exact yV (hgot 4 Zd)
   | 6,_=>obtain rfl:=Option.some.inj ho;exact yG ((hold 2 Zd).trans z2) (yav _ _ 1 Zd)
   | 7,_=>obtain rfl:=Option.some.inj ho;exact run_load (hgot 6 Zd) (Jz (fun _=>by kernel_rfl) hw0 rfl)
   | 8,_=>obtain rfl:=Option.some.inj ho;exact yG ((hold 3 Zd).trans z3) (yav _ _ 1 Zd)
   | 9,_=>obtain rfl:=Option.some.inj ho;exact run_load (hgot 8 Zd) (Jz (fun _=>by kernel_rfl) hw1 rfl)
   | 10,_=>obtain rfl:=Option.some.inj ho;exact neq_int (hgot 7 Zd) (hgot 9 Zd)
   | 11,_=>obtain rfl:=Option.some.inj ho;exact (Jv (b:=false) (hgot 5 Zd)).trans (by rw [if_neg Zd];exact congrArg (fun v=>Result.ok (Next.value v) W) (hgot 10 Zd))
   | 12,_=>obtain rfl:=Option.some.inj ho;exact yV (hgot 11 Zd)
   | 13,_=>obtain rfl:=Option.some.inj ho;exact yG ((hold 2 Zd).trans z2) (yav _ _ 2 Zd)
   | 14,_=>obtain rfl:=Option.some.inj ho;exact run_load (hgot 13 Zd) (Jz (fun _=>by kernel_rfl) hw0 rfl)
   | 15,_=>obtain rfl:=Option.some.inj ho;exact yG ((hold 3 Zd).trans z3) (yav _ _ 2 Zd)
   | 16,_=>obtain rfl:=Option.some.inj ho;exact run_load (hgot 15 Zd) (Jz (fun _=>by kernel_rfl) hw1 rfl)
   | 17,_=>obtain rfl:=Option.some.inj ho;exact neq_bool (hgot 14 Zd) (hgot 16 Zd)
   | 18,_=>obtain rfl:=Option.some.inj ho;exact (Jv (b:=false) (hgot 12 Zd)).trans (by rw [if_neg Zd];exact congrArg (fun v=>Result.ok (Next.value v) W) (hgot 17 Zd))
   | 19,_=>obtain rfl:=Option.some.inj ho;exact yV (hgot 18 Zd)
   | 20,_=>obtain rfl:=Option.some.inj ho;exact yG ((hold 2 Zd).trans z2) (yav _ _ 3 Zd)
   | 21,_=>obtain rfl:=Option.some.inj ho;exact run_load (hgot 20 Zd) (Jz (fun _=>by kernel_rfl) hw0 rfl)
   | 22,_=>obtain rfl:=Option.some.inj ho;exact yG ((hold 3 Zd).trans z3) (yav _ _ 3 Zd)
   | 23,_=>obtain rfl:=Option.some.inj ho;exact run_load (hgot 22 Zd) (Jz (fun _=>by kernel_rfl) hw1 rfl)
   | 24,_=>obtain rfl:=Option.some.inj ho;exact neq_i64 (hgot 21 Zd) (hgot 23 Zd)
   | 25,_=>obtain rfl:=Option.some.inj ho;exact (Jv (b:=false) (hgot 19 Zd)).trans (by rw [if_neg Zd];exact congrArg (fun v=>Result.ok (Next.value v) W) (hgot 24 Zd))
   | 26,_=>obtain rfl:=Option.some.inj ho;exact yV (hgot 25 Zd)
   | 27,_=>obtain rfl:=Option.some.inj ho;exact yG ((hold 2 Zd).trans z2) (yav _ _ 4 Zd)
   | 28,_=>obtain rfl:=Option.some.inj ho;exact run_load (hgot 27 Zd) (Jz (fun _=>by kernel_rfl) hw0 rfl)
   | 29,_=>obtain rfl:=Option.some.inj ho;exact yG ((hold 3 Zd).trans z3) (yav _ _ 4 Zd)
   | 30,_=>obtain rfl:=Option.some.inj ho;exact run_load (hgot 29 Zd) (Jz (fun _=>by kernel_rfl) hw1 rfl)
   | 31,_=>obtain rfl:=Option.some.inj ho;exact neq_u64 (hgot 28 Zd) (hgot 30 Zd)
   | 32,_=>obtain rfl:=Option.some.inj ho;exact (Jv (b:=false) (hgot 26 Zd)).trans (by rw [if_neg Zd];exact congrArg (fun v=>Result.ok (Next.value v) W) (hgot 31 Zd))
   | 33,_=>obtain rfl:=Option.some.inj ho;exact yV (hgot 32 Zd)
   | 34,_=>obtain rfl:=Option.some.inj ho;exact yG ((hold 2 Zd).trans z2) (yav _ _ 5 Zd)
   | 35,_=>obtain rfl:=Option.some.inj ho;exact run_load (hgot 34 Zd) (Jz (fun _=>by kernel_rfl) hw0 rfl)
   | 36,_=>obtain rfl:=Option.some.inj ho;exact run_bits (hgot 35 Zd)
   | 37,_=>obtain rfl:=Option.some.inj ho;exact yG ((hold 3 Zd).trans z3) (yav _ _ 5 Zd)
   | 38,_=>obtain rfl:=Option.some.inj ho;exact run_load (hgot 37 Zd) (Jz (fun _=>by kernel_rfl) hw1 rfl)
   | 39,_=>obtain rfl:=Option.some.inj ho;exact run_bits (hgot 38 Zd)
   | 40,_=>obtain rfl:=Option.some.inj ho;exact neq_u64 (hgot 36 Zd) (hgot 39 Zd)
   | 41,_=>obtain rfl:=Option.some.inj ho;exact (Jv (b:=false) (hgot 33 Zd)).trans (by rw [if_neg Zd];exact congrArg (fun v=>Result.ok (Next.value v) W) (hgot 40 Zd))
   | 42,_=>obtain rfl:=Option.some.inj ho;exact yV (hgot 41 Zd)
   | 43,_=>obtain rfl:=Option.some.inj ho;exact yG ((hold 2 Zd).trans z2) (yav _ _ 6 Zd)
   | 44,_=>obtain rfl:=Option.some.inj ho;exact run_load (hgot 43 Zd) (Jz (fun _=>by kernel_rfl) hw0 rfl)
   | 45,_=>obtain rfl:=Option.some.inj ho;exact yG ((hold 3 Zd).trans z3) (yav _ _ 6 Zd)
   | 46,_=>obtain rfl:=Option.some.inj ho;exact run_load (hgot 45 Zd) (Jz (fun _=>by kernel_rfl) hw1 rfl)
   | 47,_=>obtain rfl:=Option.some.inj ho;exact neq_str (hgot 44 Zd) (hgot 46 Zd)
   | 48,_=>obtain rfl:=Option.some.inj ho;exact (Jv (b:=false) (hgot 42 Zd)).trans (by rw [if_neg Zd];exact congrArg (fun v=>Result.ok (Next.value v) W) (hgot 47 Zd))
   | 49,_=>obtain rfl:=Option.some.inj ho;exact yV (hgot 48 Zd)
   | 50,_=>obtain rfl:=Option.some.inj ho;exact yG ((hold 2 Zd).trans z2) (yav _ _ 7 Zd)
   | 51,_=>obtain rfl:=Option.some.inj ho;exact run_load (hgot 50 Zd) (Jz (fun _=>by kernel_rfl) hw0 rfl)
   | 52,_=>obtain rfl:=Option.some.inj ho;exact Qm Tryz.underlying36 (hgot 51 Zd) W
   | 53,_=>obtain rfl:=Option.some.inj ho;exact yG ((hold 3 Zd).trans z3) (yav _ _ 7 Zd)
   | 54,_=>obtain rfl:=Option.some.inj ho;exact run_load (hgot 53 Zd) (Jz (fun _=>by kernel_rfl) hw1 rfl)
   | 55,_=>obtain rfl:=Option.some.inj ho;exact Qm Tryz.underlying36 (hgot 54 Zd) W
   | 56,_=>obtain rfl:=Option.some.inj ho;exact neq_int (hgot 52 Zd) (hgot 55 Zd)
   | 57,_=>obtain rfl:=Option.some.inj ho;exact (Jv (b:=false) (hgot 49 Zd)).trans (by rw [if_neg Zd];exact congrArg (fun v=>Result.ok (Next.value v) W) (hgot 56 Zd))
 intro a1 hs1' hd1 hold1 hgot1
 have hw0:w2.drew.heap[b0]?=_:=hb0'
 have hw1:w2.drew.heap[b1]?=_:=hb1
 have hBd:Below w.heap.size w w2.drew:=hB2.drew
 generalize w2.drew=w3 at hw0 hw1 hBd ⊢
 refine wp_cond_false (hgot1 57 Zd) ?_
 refine wp_skip ?_
 simp only [Exit.then]
 have y2:a1.eval (.tmp 2)=.pointer (some ⟨b0,0,none⟩):=(hold1 2 Zd).trans z2
 have y3:a1.eval (.tmp 3)=.pointer (some ⟨b1,0,none⟩):=(hold1 3 Zd).trans z3
 have ys:a1.tmps.size=83:=hs1'.trans zs
 have yd:a1.defers=[]:=hd1.trans zd
 clear hgot1 hold1
 refine wp_seq ?_
 refine yY ?_
 refine yq rfl (yG y2 (yav _ _ 7 Zd)) ?_
 refine yq rfl (run_load (ya _ Zo) (Jz (v:=.slice A x.f7.length c) (fun _=>by kernel_rfl) hw0 rfl)) ?_
 refine yq rfl (Qm Tryz.underlying36 (ya _ Zs) _) ?_
 refine yq rfl (yV (v:=.int .i64 ((0:Nat):Int)) rfl) ?_
 refine Yd ?_
 generalize hy0:(Act.put _ (some 67) _)=c0
 have hS:SF b0 b1 x.f7.length 0 c0:=⟨by rw [← hy0];simp only [size_put];exact ys,by rw [← hy0];simp only [yJ];exact yd,by rw [← hy0];simp (disch:=decide) only [yb,y2],by rw [← hy0];simp (disch:=decide) only [yb,y3],
  by rw [← hy0];simp (disch:=exact Zq ys) only [ya,yb],by rw [← hy0];simp (disch:=exact Zq ys) only [ya,yb]⟩
 clear hy0
 refine wp_block ?_
 refine wp_loop_ghost (fun r a w'=>∃ i,r+i=x.f7.length∧SF b0 b1 x.f7.length i a∧w'.heap[b0]?=some (.cells #[.string x.f0,.int .i64 x.f1,.bool x.f2,.int .i64 x.f3,.int .u64 x.f4,.float .f64 x.f5,.string x.f6,.slice A x.f7.length c] 38 (0,0))∧w'.heap[b1]?=some (.cells #[.string x.f0,.int .i64 x.f1,.bool x.f2,.int .i64 x.f3,.int .u64 x.f4,.float .f64 x.f5,.string x.f6,.slice A' x.f7.length c'] 38 (0,0))∧Below w.heap.size w w') x.f7.length ⟨0,by omega,hS,hw0,hw1,hBd⟩ ?_
 clear hS hw0 hw1 hBd
 rintro r a wr ⟨i,hri,hS,hw0,hw1,hBr⟩
 have hsa:=hS.size
 refine yY ?_
 refine yq rfl (ya9 hS.e67 hS.e66) ?_
 refine Yd ?_
 by_cases hin:i<x.f7.length
 · refine wp_seq ?_
   refine wp_cond_true (?_:_=Value.bool true) ?_
   · rw [ya _ Zo,decide_eq_true Zo]
   refine wp_skip ?_
   simp only [Exit.then]
   generalize hq:(a.put (some 68) _)=a2
   have hS2:SF b0 b1 x.f7.length i a2:=⟨by rw [← hq,size_put];exact hsa,by rw [← hq,yJ];exact hS.defers,by rw [← hq];exact (yb _ Zd).trans hS.e2,by rw [← hq];exact (yb _ Zd).trans hS.e3,by rw [← hq];exact (yb _ Zd).trans hS.e66,by rw [← hq];exact (yb _ Zd).trans hS.e67⟩
   clear hq hS hsa
   have hsa:=hS2.size
   refine wp_seq ?_
   refine wp_block ?_
   refine yY ?_
   refine yq rfl (yV hS2.e67) ?_
   refine yq rfl (YL (ya _ Zo)) ?_
   refine Yd ?_
   generalize hq:(Act.put _ (some 5) _)=a3
   have hS3:SF b0 b1 x.f7.length i a3:=⟨by rw [← hq];simp only [size_put];exact hsa,by rw [← hq];simp only [yJ];exact hS2.defers,by rw [← hq];simp (disch:=decide) only [yb,hS2.e2],by rw [← hq];simp (disch:=decide) only [yb,hS2.e3],by rw [← hq];simp (disch:=decide) only [yb,hS2.e66],by rw [← hq];simp (disch:=decide) only [yb,hS2.e67]⟩
   have h5:a3.eval (.tmp 5)=.int .i64 i:=by rw [← hq,ya _ Zs]
   clear hq hsa hS2
   obtain ⟨ad,ce,rfl,hcl,hK,hcell⟩:=Kd.C_get hC z38 (i:Int) Zo Zo
   obtain ⟨ad',ce',rfl,hcl',hK',hcell'⟩:=Kd.C_get hC' z38 (i:Int) Zo Zo
   have hz:k38.sz=8:=rfl
   rw [hz,Int.toNat_natCast] at hcell hcell'
   rw [hz] at hcl hcl'
   rw [Int.toNat_natCast] at hK hK'
   have hmem:x.f7.getD i z38 ∈ x.f7:=by
    rw [List.getD_eq_getElem?_getD,List.getElem?_eq_getElem hin];exact List.getElem_mem hin
   have hsm:SizeOf.sizeOf (x.f7.getD i z38)≤m:=by
    have h1:=List.sizeOf_lt_of_mem hmem
    have h2:SizeOf.sizeOf x.f7<SizeOf.sizeOf x:=by cases x;simp;omega
    omega
   let J:Nat→Act→World→Prop:=fun p a' w'=>SF b0 b1 x.f7.length i a'∧a'.eval (.tmp 5)=.int .i64 i∧(w'.heap[b0]?=some (.cells #[.string x.f0,.int .i64 x.f1,.bool x.f2,.int .i64 x.f3,.int .u64 x.f4,.float .f64 x.f5,.string x.f6,.slice (some ad) x.f7.length c] 38 (0,0))∧w'.heap[b1]?=some (.cells #[.string x.f0,.int .i64 x.f1,.bool x.f2,.int .i64 x.f3,.int .u64 x.f4,.float .f64 x.f5,.string x.f6,.slice (some ad') x.f7.length c'] 38 (0,0))∧Below w.heap.size w w')∧(1≤p→a'.eval (.tmp 80)=.bool true)∧(2≤p→a'.eval (.tmp 81)=.bool false)
   have hcb:∀ W,Below w.heap.size w W→(∀ j v,ce[j]?=some v→W.cell? ((ad.add (i * 8)).add j)=some v)∧(∀ j v,ce'[j]?=some v→W.cell? ((ad'.add (i * 8)).add j)=some v):=fun W hW=>⟨fun j v hv=>by
    have h1:=hcell j v hv
    rw [add_add]
    exact (hW.cell (World.block_lt_of_cell? w _ h1)).trans h1,fun j v hv=>by
    have h1:=hcell' j v hv
    rw [add_add]
    exact (hW.cell (World.block_lt_of_cell? w _ h1)).trans h1⟩
   refine wp_seq ?_
   refine yai (k:=70) (n:=12) (B:=[0,1,0,7,15,0,32,0,224,480,1023,2047]) (E:=[0,1,2,3,4,5,6,7,8,9]) (L:=[10,11])
    (Y:=fun j=>([.pointer (some ⟨b0,7,none⟩),.slice (some ad) x.f7.length c,.int .i64 i,.pointer (some (ad.add (i * 8))),.agg ce.toArray,.pointer (some ⟨b1,7,none⟩),.slice (some ad') x.f7.length c',.int .i64 i,.pointer (some (ad'.add (i * 8))),.agg ce'.toArray]:List Value).getD j undef)
    J (fun a' w'=>(SF b0 b1 x.f7.length i a'∧a'.eval (.tmp 5)=.int .i64 i)∧(w'.heap[b0]?=some (.cells #[.string x.f0,.int .i64 x.f1,.bool x.f2,.int .i64 x.f3,.int .u64 x.f4,.float .f64 x.f5,.string x.f6,.slice (some ad) x.f7.length c] 38 (0,0))∧w'.heap[b1]?=some (.cells #[.string x.f0,.int .i64 x.f1,.bool x.f2,.int .i64 x.f3,.int .u64 x.f4,.float .f64 x.f5,.string x.f6,.slice (some ad') x.f7.length c'] 38 (0,0))∧Below w.heap.size w w'))
    Zk rfl Zk Zk Zd Zd Zd Zd Zd Zd Zk ?_ ?_ ?_ ?_ ?_ ?_ ?_
   · intro j o hj ho
     left
     simp only [List.mem_cons,List.not_mem_nil,or_false] at hj
     rcases hj with rfl|rfl|rfl|rfl|rfl|rfl|rfl|rfl|rfl|rfl <;> (obtain rfl:=Option.some.inj ho; rfl)
   · rintro p a' w' hp ⟨hF,h5',hw,_,_⟩
     exact ⟨⟨⟨hF,h5'⟩,hw⟩,fun j hj=>by
      simp only [List.mem_cons,List.not_mem_nil,or_false] at hj
      rw [hF.size];omega⟩
   · rintro j o hj ho a' W hgot ⟨⟨hF,h5'⟩,hw0',hw1',hBW⟩
     simp only [List.mem_cons,List.not_mem_nil,or_false] at hj
     rcases hj with rfl|rfl|rfl|rfl|rfl|rfl|rfl|rfl|rfl|rfl
     · obtain rfl:=Option.some.inj ho;exact yG hF.e2 (yav _ _ 7 Zd)
     · obtain rfl:=Option.some.inj ho;exact run_load (hgot 0 Zd) (Jz (fun _=>by kernel_rfl) hw0' rfl)
     · obtain rfl:=Option.some.inj ho;exact yV h5'
     · obtain rfl:=Option.some.inj ho;exact qv (hgot 1 Zd) (hgot 2 Zd) (idx38 hin W)
     · obtain rfl:=Option.some.inj ho;exact run_load (hgot 3 Zd) (load_any (hcb W hBW).1 Tryz.underlying38 rfl (by rw [hcl];kernel_rfl))
     · obtain rfl:=Option.some.inj ho;exact yG hF.e3 (yav _ _ 7 Zd)
     · obtain rfl:=Option.some.inj ho;exact run_load (hgot 5 Zd) (Jz (fun _=>by kernel_rfl) hw1' rfl)
     · obtain rfl:=Option.some.inj ho;exact yV h5'
     · obtain rfl:=Option.some.inj ho;exact qv (hgot 6 Zd) (hgot 7 Zd) (idx38 hin W)
     · obtain rfl:=Option.some.inj ho;exact run_load (hgot 8 Zd) (load_any (hcb W hBW).2 Tryz.underlying38 rfl (by rw [hcl'];kernel_rfl))
   · rintro p j a' w' hp hj ⟨hF,h5',hw,h80,h81⟩
     have hj10:j<10:=by
      simp only [List.mem_cons,List.not_mem_nil,or_false] at hj
      omega
     exact ⟨⟨by rw [size_put];exact hF.size,by rw [yJ];exact hF.defers,(yb _ Zo).trans hF.e2,(yb _ Zo).trans hF.e3,(yb _ Zo).trans hF.e66,(yb _ Zo).trans hF.e67⟩,(yb _ Zo).trans h5',hw,fun h=>(yb _ Zo).trans (h80 h),fun h=>(yb _ Zo).trans (h81 h)⟩
   · intro p hp
     have hp2:p<2:=hp
     match p,hp2 with
     | 0,_=>
      refine ⟨_,rfl,?_⟩
      rintro a' w' ⟨hF,h5',⟨hw0',hw1',hBW⟩,_,_⟩ hgot
      refine ⟨YZ rfl,fun K hKf=>?_⟩
      refine ya0 Tryz.func9 Zk rfl #[.agg ce.toArray,.agg ce'.toArray] rfl (ycH (hgot 4 Zd Zd) (hgot 9 Zd Zd)) ?_
      refine (ih (x.f7.getD i z38) ce ce' w' hsm (Kd.JD _ hBW hK) (Kd.JD _ hBW hK')).mono ?_
      rintro e w4 ⟨rfl,hB4⟩
      refine ⟨_,rfl,hKf _ _ ⟨⟨by rw [size_put];exact hF.size,by rw [yJ];exact hF.defers,(yb _ Zd).trans hF.e2,(yb _ Zd).trans hF.e3,(yb _ Zd).trans hF.e66,(yb _ Zd).trans hF.e67⟩,(yb _ Zd).trans h5',⟨yI hw0' hB4,yI hw1' hB4,yw hBW hB4⟩,fun _=>ya _ (by rw [hF.size];decide),fun h=>by omega⟩ (fun j hj=>yb _ ?_)⟩
      simp only [List.mem_cons,List.not_mem_nil,or_false] at hj
      omega
     | 1,_=>
      refine ⟨_,rfl,?_⟩
      rintro a' w' ⟨hF,h5',hw,h80,_⟩ hgot
      refine ⟨YZ rfl,fun K hKf=>?_⟩
      refine J4 (run_not (b:=true) (h80 Zd)) (hKf _ _ ⟨⟨by rw [size_put];exact hF.size,by rw [yJ];exact hF.defers,(yb _ Zd).trans hF.e2,(yb _ Zd).trans hF.e3,(yb _ Zd).trans hF.e66,(yb _ Zd).trans hF.e67⟩,(yb _ Zd).trans h5',hw,fun _=>(yb _ Zd).trans (h80 Zd),fun _=>ya _ (by rw [hF.size];decide)⟩ (fun j hj=>yb _ ?_))
      simp only [List.mem_cons,List.not_mem_nil,or_false] at hj
      omega
   · exact ⟨hS3,h5,⟨hw0,hw1,hBr.drew⟩,fun h=>by omega,fun h=>by omega⟩
   rintro a4 w4 ⟨hF,h5',⟨hw0',hw1',hBW⟩,h80,h81⟩ _
   simp only [Exit.then]
   refine wp_cond_false (h81 Zd) ?_
   refine wp_skip ?_
   simp only [Exit.then,Exit.inBlock]
   have hs4:=hF.size
   refine wp_region_list (qO ?_)
   refine yq rfl (ybZ (i:=(i:Int)) (n:=1) hF.e67 rfl) ?_
   refine yq rfl (yV (v:=.int .i64 ((i+1:Nat):Int)) ?_) ?_
   · rw [ya _ Zo,wrap_i64 Zo Zo];rfl
   refine Yd ?_
   simp only [Exit.then]
   refine ⟨r - 1,by omega,i+1,by omega,⟨by simp only [size_put];exact hs4,by simp only [yJ];exact hF.defers,by simp (disch:=decide) only [yb,hF.e2],by simp (disch:=decide) only [yb,hF.e3],by simp (disch:=decide) only [yb,hF.e66],ya _ Zs⟩,hw0',hw1',hBW⟩
 · refine wp_seq ?_
   refine wp_cond_false (?_:_=Value.bool false) ?_
   · rw [ya _ Zo,decide_eq_false Zo]
   refine wp_exit ?_
   simp only [Exit.then,Exit.inBlock,if_true]
   refine yY ?_
   refine yq rfl (YL (v:=.bool true) rfl) ?_
   refine Yd ?_
   refine wp_ret ?_
   exact Jd rfl (by simp only [yJ];exact hS.defers) (ya _ Zs) ⟨rfl,by rw [← hq0];exact hBr⟩
end Go.Proofs.YtlmennkeggmdbaaGreatDoor
namespace Go.Proofs.YtlmennkeggmdbaaGreatDoor
open Go.RowKit Go.Proofs.YtlmennkeggmdbaaGreatDoorW.PrintWords Go.Proofs.YtlmennkeggmdbaaGreatDoorW.PrintLast Go.Proofs.YtlmennkeggmdbaaGreatDoorW.PrintMore
structure yaH (w:World) (tb:Addr) (c:Nat):Prop where
 tab:∀ W,Below w.heap.size w W→Lib.TabIs Tryz.prog W "strings.asciiSpace" .u8 Lib.asciiSpaceTab
 fv:∀ W,Below w.heap.size w W→qs W tb c
theorem yaH.step {w w1:World} {tb:Addr} {c:Nat} (h:yaH w tb c) (hB:Below w.heap.size w w1):yaH w1 tb c:=⟨fun W hW=>h.tab W (yw hB hW),fun W hW=>h.fv W (yw hB hW)⟩
theorem run_lit1s {a:Act} {d ty pos aft gd} {w w1:World} {T:TypeId} {c v:Value} (hl:(Instr.buildSlice T 1 #[(0,c)]).run Tryz.prog w=.ok v w1):(execOp a.eval ⟨d,.buildSlice T 1 #[(0,.const c)],ty,pos,aft,gd⟩).run Tryz.prog w=.ok (.value v) w1:=by
 have:(execOp a.eval ⟨d,.buildSlice T 1 #[(0,.const c)],ty,pos,aft,gd⟩)=(do pure (Next.value (← Instr.buildSlice T 1 #[(0,c)])):Sem Next):=by simp [execOp,Act.eval]
 rw [this];exact Y8 hl
set_option maxRecDepth 100000 in
theorem loadAvg_walk (w:World) (tb:Addr) (c:Nat) (hl:yaH w tb c):Calls Tryz.prog 45 #[.agg #[.string Y2]] w fun e w'=>∃ gs,e=.returned (.tuple #[.pointer (some ⟨gs,0,none⟩),.nilIface])∧Below w.heap.size w w'∧w'.heap[gs]?=some (.cells #[.float .f64 (Yy 0),.float .f64 (Yy 1),.float .f64 (Yy 2)] 97 (0,0)):=by
 go_enter Tryz.func45,Tryz.ntmps45
 generalize ha0:(Act.mk _ _)=a0
 have hsz:a0.tmps.size=23:=by rw [← ha0];rfl
 have hdf:a0.defers=[]:=by rw [← ha0]
 have e0:a0.eval (.tmp 0)=.agg #[.string Y2]:=by rw [← ha0];rfl
 clear ha0
 refine yY ?_
 refine yq rfl (yaC (v:=.pointer (some ⟨w.heap.size,0,none⟩)) e0 (show _=Result.ok _ (w.alloc (.cells #[.string Y2] 60)) by kernel_rfl)) ?_
 have hb1:=YP w (.cells #[.string Y2] 60 (0,0))
 have hB1:Below w.heap.size w (w.alloc (.cells #[.string Y2] 60 (0,0))):=yl (Below.refl _ _) _
 generalize (w.alloc (.cells #[.string Y2] 60 (0,0)))=w1 at hb1 hB1 ⊢
 refine yq rfl (YL (v:=.pointer none) rfl) ?_
 refine yq rfl (YL (v:=.nilIface) rfl) ?_
 refine Yd ?_
 refine wp_seq ?_
 refine wp_region_list ?_
 refine Kd.yB rfl (yG (p:=.pointer (some ⟨w.heap.size,0,none⟩)) (by simp (disch:=exact Zq hsz) only [ya,yb]) (show _=Result.ok (Value.pointer (some ⟨w.heap.size,0,none⟩)) _ by kernel_rfl)) ?_
 refine Kd.yB rfl (run_load (p:=.pointer (some ⟨w.heap.size,0,none⟩)) (v:=.string Y2) (ya _ Zs) (Jz (fun _=>by kernel_rfl) hb1 rfl)) ?_
 refine Kd.yB rfl (run_lit1s (show _=Result.ok (Value.slice (some ⟨w1.heap.size,0,none⟩) 1 1) (w1.alloc (.cells #[.string ⟨#[108,111,97,100,97,118,103]⟩] 9)) by kernel_rfl)) ?_
 have hB2:Below w.heap.size w (w1.alloc (.cells #[.string ⟨#[108,111,97,100,97,118,103]⟩] 9)):=yl hB1 _
 generalize (w1.alloc (.cells #[.string ⟨#[108,111,97,100,97,118,103]⟩] 9))=w2 at hB2 ⊢
 refine YD (some 10) rfl rfl Tryz.func204 Zk rfl #[.string Y2,.slice (some ⟨w1.heap.size,0,none⟩) 1 1] rfl (ycH ((yb _ Zd).trans (ya _ Zs)) (ya _ Zs)) ?_
 refine (path_walk Y2 _ w2).mono ?_
 rintro e w3 ⟨rfl,rfl⟩
 refine ⟨_,rfl,?_⟩
 refine Kd.yB rfl (YL (ya _ Zs)) ?_
 refine wpList_nil ?_
 simp only [Exit.then]
 refine wp_seq ?_
 refine wp_region_list ?_
 refine Kd.yB rfl (yV (ya _ Zs)) ?_
 refine YD (some 13) rfl rfl Tryz.func40 Zk rfl #[.string Y2] rfl (yas (ya _ Zs)) ?_
 refine (yaV Y2 Zd w3).mono ?_
 rintro e w4 ⟨cap,rfl,rfl⟩
 refine ⟨_,rfl,?_⟩
 have hcell:∀ j (hj:j<qL.length),(Lib.bytesWorld w3 5 Y2).cell? ((⟨w3.heap.size,0,none⟩:Addr).add j)=some (.int .u8 (qL[j].toNat:Int)):=fun j hj=>by
  have hls:Y2.size=qL.length:=by simp [ByteArray.size]
  rw [Addr.add_mid,Nat.zero_add,Lib.bytesWorld_cell _ _ _ _ (by rw [hls];exact hj)]
  simp [List.getD_eq_getElem?_getD,hj]
 have hlt:w3.heap.size<(Lib.bytesWorld w3 5 Y2).heap.size:=by
  have:=hcell 0 Zd
  exact World.block_lt_of_cell? _ _ this
 have hB4:=yw hB2 (Lib.bytesWorld_below w3 5 Y2)
 generalize (Lib.bytesWorld w3 5 Y2)=w4 at hcell hlt hB4 ⊢
 have hl4:=hl.step hB4
 refine Kd.yB rfl (yV (v:=.tuple #[.slice (some ⟨w3.heap.size,0,none⟩) Y2.size cap,.nilIface]) (ya _ Zs)) ?_
 refine Kd.yB rfl (JF (u:=.tuple #[.slice (some ⟨w3.heap.size,0,none⟩) Y2.size cap,.nilIface]) (v:=.slice (some ⟨w3.heap.size,0,none⟩) Y2.size cap) (ya _ Zs) (J8 _ _ _)) ?_
 refine Kd.yB rfl (JF (u:=.tuple #[.slice (some ⟨w3.heap.size,0,none⟩) Y2.size cap,.nilIface]) (v:=.nilIface) ((yb _ Zd).trans (ya _ Zs)) (J9 _ _ _)) ?_
 refine Kd.yB rfl (YL (v:=.slice (some ⟨w3.heap.size,0,none⟩) Y2.size cap) (by simp (disch:=exact Zq hsz) only [ya,yb])) ?_
 refine Kd.yB rfl (YL (v:=.nilIface) (by simp (disch:=exact Zq hsz) only [ya,yb])) ?_
 refine wpList_nil ?_
 simp only [Exit.then]
 refine err_skip (k:=16) (sz:=23) (er:=6) (by simp only [size_put];exact hsz) Zd (ya _ Zs) ?_
 intro c0 csz cdf cev
 have c5:c0.eval (.tmp 5)=.slice (some ⟨w3.heap.size,0,none⟩) qL.length cap:=by
  rw [cev 5 Zd Zd,yb _ Zd,ya _ Zs]
  simp [ByteArray.size]
 replace cdf:c0.defers=[]:=by rw [cdf];simp only [yJ];exact hdf
 clear cev
 refine wp_seq ?_
 refine wp_region_list ?_
 refine Kd.yB rfl (yV c5) ?_
 refine YD (some 20) rfl rfl Tryz.func205 Zk rfl #[.slice (some ⟨w3.heap.size,0,none⟩) qL.length cap] rfl (yas (ya _ Zo)) ?_
 refine (yde w4 w3.heap.size cap tb c hcell hl4.tab hl4.fv hlt).mono ?_
 rintro e w5 ⟨gs,rfl,hgs,hB5⟩
 refine ⟨_,rfl,?_⟩
 refine Kd.yB rfl (JF (u:=.tuple #[.pointer (some ⟨gs,0,none⟩),.nilIface]) (v:=.pointer (some ⟨gs,0,none⟩)) (ya _ Zs) (J8 _ _ _)) ?_
 refine Kd.yB rfl (JF (u:=.tuple #[.pointer (some ⟨gs,0,none⟩),.nilIface]) (v:=.nilIface) ((yb _ Zd).trans (ya _ Zs)) (J9 _ _ _)) ?_
 refine Kd.yB rfl (YL (v:=.pointer (some ⟨gs,0,none⟩)) (by simp (disch:=exact Zq csz) only [ya,yb])) ?_
 refine Kd.yB rfl (YL (v:=.nilIface) (by simp (disch:=exact Zq csz) only [ya,yb])) ?_
 refine wpList_nil ?_
 simp only [Exit.then]
 refine wp_ret ?_
 have p2:∀ b:Act,b.tmps.getD 2 undef=b.eval (.tmp 2):=fun _=>rfl
 have p3:∀ b:Act,b.tmps.getD 3 undef=b.eval (.tmp 3):=fun _=>rfl
 refine bodyPost_ret (results_tmp2 rfl _ _ _) (by simp only [yJ];exact cdf) ⟨gs,?_,yw hB4 hB5,hgs⟩
 rw [p2,p3,yb _ Zd,ya _ Zs,ya _ Zs]
set_option maxRecDepth 100000 in
theorem loadavg_walk (w:World) (tb:Addr) (c:Nat) (hl:yaH w tb c):Calls Tryz.prog 21 #[.string Y2] w fun e w'=>∃ v,e=.returned (.tuple #[.agg (Yl ⟨#[]⟩ v),.int .i64 0])∧Kd.R k34 34 w' w.heap.size (fun _=>True) v (Qi (Yy 0) (Yy 1) (Yy 2))∧Below w.heap.size w w':=by
 go_enter Tryz.func21,Tryz.ntmps21
 generalize ha0:(Act.mk _ _)=a0
 have hsz:a0.tmps.size=10:=by rw [← ha0];rfl
 have hdf:a0.defers=[]:=by rw [← ha0]
 have e0:a0.eval (.tmp 0)=.string Y2:=by rw [← ha0];rfl
 clear ha0
 refine yY ?_
 refine yq rfl (YT (Jh w)) ?_
 refine yq rfl (YL (v:=.int .i64 0) rfl) ?_
 refine Yd ?_
 have hgr:=YP w (.cells #[.string ⟨#[]⟩,.int .i64 0,.bool false,.int .i64 0,.int .u64 0,.float .f64 0,.string ⟨#[]⟩,.slice none 0 0] 34 (0,0))
 have hB1:Below w.heap.size w (w.alloc (.cells #[.string ⟨#[]⟩,.int .i64 0,.bool false,.int .i64 0,.int .u64 0,.float .f64 0,.string ⟨#[]⟩,.slice none 0 0] 34 (0,0))):=yl (Below.refl _ _) _
 generalize (w.alloc (.cells #[.string ⟨#[]⟩,.int .i64 0,.bool false,.int .i64 0,.int .u64 0,.float .f64 0,.string ⟨#[]⟩,.slice none 0 0] 34 (0,0)))=w1 at hgr hB1 ⊢
 refine wp_seq ?_
 refine wp_region_list ?_
 refine Kd.yB rfl (yV (v:=.string Y2) (by simp (disch:=exact Zq hsz) only [ya,yb,e0])) ?_
 refine YD (some 5) rfl rfl Tryz.func38 Zk rfl #[.string Y2] rfl (yas (ya _ Zs)) ?_
 refine (textFS_walk Y2 w1).mono ?_
 rintro e w2 ⟨rfl,hB2⟩
 refine ⟨_,rfl,?_⟩
 have hgr2:=yI hgr hB2
 have hB2w:=yw hB1 hB2
 refine Kd.yB rfl (run_mff (v:=.agg #[.string Y2]) (ya _ Zs)) ?_
 refine YD (some 7) rfl rfl Tryz.func44 Zk rfl #[.func (.func 45) #[.agg #[.string Y2]] #[],.func (.func 46) #[] #[]] rfl (args_tf (ya _ Zs)) ?_
 refine (treeLa_walk Tryz.func45 Zk rfl Tryz.func46 Zk rfl (fun gs W=>W.heap[gs]?=some (.cells #[.float .f64 (Yy 0),.float .f64 (Yy 1),.float .f64 (Yy 2)] 97 (0,0))) (Qi (Yy 0) (Yy 1) (Yy 2)) w2 ?_ ?_).mono ?_
 · intro W hW
   exact loadAvg_walk W tb c (hl.step (yw hB2w hW))
 · intro gs W hst
   exact la1_walk (Yy 0) (Yy 1) (Yy 2) gs W hst
 rintro e w3 ⟨v,rfl,hR,hB⟩
 refine ⟨_,rfl,?_⟩
 refine Kd.yB rfl (JF (u:=.tuple #[.agg (Yl ⟨#[]⟩ v),.int .i64 0]) (v:=.agg (Yl ⟨#[]⟩ v)) (ya _ Zs) (J8 _ _ _)) ?_
 refine Kd.yB rfl (JF (u:=.tuple #[.agg (Yl ⟨#[]⟩ v),.int .i64 0]) (v:=.int .i64 0) ((yb _ Zd).trans (ya _ Zs)) (J9 _ _ _)) ?_
 have hR':=Kd.ybm hR hgr2
 obtain ⟨A,c',hv1⟩:=Kd.YF hR'
 subst hv1
 obtain ⟨w4,hrun4,hb4,hoth4,hbel4⟩:=J3 (s1:=⟨#[]⟩) (k:=8) (b:=false) (i:=0) (u:=0) (f:=0) (s2:=⟨#[]⟩) (A:=A) (n:=(Qi (Yy 0) (Yy 1) (Yy 2)).length) (c:=c') (yI hgr2 hB) rfl
 refine JH rfl rfl (run_store (p:=.pointer (some ⟨w.heap.size,0,none⟩)) (v:=.agg (Yl ⟨#[]⟩ (.slice A (Qi (Yy 0) (Yy 1) (Yy 2)).length c'))) (by simp (disch:=exact Zq hsz) only [ya,yb]) (by simp (disch:=exact Zq hsz) only [ya,yb]) hrun4) ?_
 refine Kd.yB rfl (YL (v:=.int .i64 0) (ya _ Zs)) ?_
 refine wpList_nil ?_
 simp only [Exit.then]
 refine wp_ret ?_
 have hp2:∀ b:Act,b.tmps.getD 2 undef=b.eval (.tmp 2):=fun _=>rfl
 have hp3:∀ b:Act,b.tmps.getD 3 undef=b.eval (.tmp 3):=fun _=>rfl
 refine bodyPost_ret (yby rfl _ _ w.heap.size 34 (Yl ⟨#[]⟩ (.slice A (Qi (Yy 0) (Yy 1) (Yy 2)).length c')) (0,0) _ ?_ hb4 Tryz.underlying34 rfl Zk) (by simp only [yJ];exact hdf) ⟨_,?_,Kd.Ji (Kd.Yr (Kd.qn hR' (fun j hj _=>hoth4 j hj.2)) (fun _ _=>trivial)) (yt hB2w),hbel4 _ _ (Nat.le_refl _) (yw hB2w hB)⟩
 · rw [hp2];simp (disch:=exact Zq hsz) only [ya,yb]
 · rw [hp3,ya _ Zs]
end Go.Proofs.YtlmennkeggmdbaaGreatDoor
