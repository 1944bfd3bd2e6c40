/- Part 32 of 44 of the proof of the tied card of FnXfsRead. -/
import Derived.Test.YtdcaggoicdfehaaGreatDoorVz
import Derived.Test.YtdcaggoicdfehaaGreatDoorV25
set_option linter.unusedVariables false
set_option linter.unusedSimpArgs false
namespace Go.Proofs.YtdcaggoicdfehaaGreatDoor
open Go.RowKit Go.Proofs.YtdcaggoicdfehaaGreatDoorW.PrintWords Go.Proofs.YtdcaggoicdfehaaGreatDoorW.PrintLast Go.Proofs.YtdcaggoicdfehaaGreatDoorW.PrintMore
set_option maxRecDepth 100000 in
theorem idx34 {ad:Addr} {n c:Nat} {i:Nat} (hi:i<n) (W:World):(Instr.indexAt 32 (.slice (some ad) n c) (.int .i64 i)).run Tryz.prog W=.ok (.pointer (some (ad.add (i * 8)))) W:=by
 have hu:Tryz.prog.underlying 32=some (.slice (Tryz.prog.elem 32)):=Tryz.underlying32
 have h1:(Tryz.prog.info? (Tryz.prog.elem 32)).map (·.size)=some 8:=by kernel_rfl
 rw [run_indexAt_slice (h:=hu),if_pos ⟨by omega,by omega⟩]
 cases hq:Tryz.prog.info? (Tryz.prog.elem 32) with
 | none=>rw [hq] at h1;cases h1
 | some i'=>
  rw [hq] at h1
  have h1:i'.size=8:=by simpa using h1
  simp [sizeOf,typeInfo,hq,h1]
theorem args_c {a:Act} {c:Value}:#[Operand.const c].map a.eval=#[c]:=by
 have:a.eval (.const c)=c:=rfl
 simp [this]
theorem ld_any {T:TypeId} {v:Value} {W:World} {p:Addr} (hT:(isAgg T).run Tryz.prog W=.ok false W) (hc:W.cell? p=some v):(Instr.loadAt T (.pointer (some p))).run Tryz.prog W=.ok v W:=by
 simp [Instr.loadAt,Instr.sureAddr,go_sem,hc,hT]
theorem fa34_5 (p:Addr) (W:World):(Instr.fieldAt 34 (Value.pointer (some p)) 5).run Tryz.prog W=.ok (.pointer (some (p.add 5))) W:=by kernel_rfl
theorem eqF (x:Nat) (hx:x=Yx 0∨x=Yx 1∨x=Yx 2) (a b:Operand) (w:World):(do eqGuard .eql 31 a b (.float .f64 x) (.float .f64 x);binOp .eql 31 (.float .f64 x) (.float .f64 x):Sem Value).run Tryz.prog w=.ok (.bool true) w:=by
 rcases hx with rfl|rfl|rfl <;> kernel_rfl
set_option maxRecDepth 100000 in
set_option maxHeartbeats 2000000 in
theorem yde (w:World) (tb:Addr) (c:Nat) (hl:ybL w tb c):Calls Tryz.prog 8 #[] w fun e w'=>e=.returned (.bool true)∧Below w.heap.size w w':=by
 go_enter Tryz.func8,Tryz.ntmps8
 generalize ha0:(Act.mk _ _)=a0
 have hsz:a0.tmps.size=39:=by rw [← ha0];rfl
 have hdf:a0.defers=[]:=by rw [← ha0]
 clear ha0
 refine yB ?_
 refine yf rfl (yX (v:=.bool false) rfl) ?_
 refine yG ?_
 refine wp_seq ?_
 refine wp_region_list ?_
 refine Yp (some 4) rfl rfl Tryz.func27 Zk rfl #[.string Je] rfl (args_c (c:=.string Je)) ?_
 refine (loadavg_walk w tb c hl).mono ?_
 rintro e w1 ⟨v,rfl,hR,hB⟩
 refine ⟨_,rfl,?_⟩
 refine Kd.yh rfl (yJ (v:=.tuple #[.agg (yK ⟨#[]⟩ v),.int .i64 0]) (ya _ Zs)) ?_
 refine Kd.yh rfl (YI (u:=.tuple #[.agg (yK ⟨#[]⟩ v),.int .i64 0]) (v:=.agg (yK ⟨#[]⟩ v)) (ya _ Zs) (qh _ _ _)) ?_
 refine Kd.yh rfl (YI (u:=.tuple #[.agg (yK ⟨#[]⟩ v),.int .i64 0]) (v:=.int .i64 0) ((yb _ Zd).trans (ya _ Zs)) (qi _ _ _)) ?_
 refine Kd.yh rfl (Y9 (JC w1)) ?_
 have hgr:=Y2 w1 (.cells #[.string ⟨#[]⟩,.int .i64 0,.bool false,.int .i64 0,.int .u64 0,.float .f64 0,.string ⟨#[]⟩,.slice none 0 0] 34 (0,0))
 have hB2:Below w.heap.size w (w1.alloc (.cells #[.string ⟨#[]⟩,.int .i64 0,.bool false,.int .i64 0,.int .u64 0,.float .f64 0,.string ⟨#[]⟩,.slice none 0 0] 34 (0,0))):=ym hB _
 have hR2:=Kd.R_elderB (Kd.qH hR (w1:=w1.alloc (.cells #[.string ⟨#[]⟩,.int .i64 0,.bool false,.int .i64 0,.int .u64 0,.float .f64 0,.string ⟨#[]⟩,.slice none 0 0] 34 (0,0))) (fun k _ hk=>Below.heap_alloc w1 _ k hk)) 0
 have hRn:Kd.R k34 34 (w1.alloc (.cells #[.string ⟨#[]⟩,.int .i64 0,.bool false,.int .i64 0,.int .u64 0,.float .f64 0,.string ⟨#[]⟩,.slice none 0 0] 34 (0,0))) w.heap.size (fun k=>k≠w1.heap.size) v (Qa (Yx 0) (Yx 1) (Yx 2)):=Kd.YM (Kd.qH (Kd.JZ hR) (w1:=w1.alloc (.cells #[.string ⟨#[]⟩,.int .i64 0,.bool false,.int .i64 0,.int .u64 0,.float .f64 0,.string ⟨#[]⟩,.slice none 0 0] 34 (0,0))) (fun k _ hk=>Below.heap_alloc w1 _ k hk)) (fun k hk=>by have:=hk.2.2.1;omega)
 clear hR2
 obtain ⟨A,c',hv1⟩:=Kd.Y7 hRn
 subst hv1
 have hge:=yt hB
 generalize hgk:w1.heap.size=gk at hgr hRn ⊢
 generalize (w1.alloc (.cells #[.string ⟨#[]⟩,.int .i64 0,.bool false,.int .i64 0,.int .u64 0,.float .f64 0,.string ⟨#[]⟩,.slice none 0 0] 34 (0,0)))=w2 at hgr hB2 hRn ⊢
 obtain ⟨w3,hrun3,hb3,hoth3,hbel3⟩:=qL (s1:=⟨#[]⟩) (k:=8) (b:=false) (i:=0) (u:=0) (f:=0) (s2:=⟨#[]⟩) (A:=A) (n:=(Qa (Yx 0) (Yx 1) (Yx 2)).length) (c:=c') hgr rfl
 refine Jk rfl rfl (run_store (p:=.pointer (some ⟨gk,0,none⟩)) (v:=.agg (yK ⟨#[]⟩ (.slice A (Qa (Yx 0) (Yx 1) (Yx 2)).length c'))) (ya _ Zs) (by simp (disch:=exact Zq hsz) only [ya,yb]) hrun3) ?_
 refine Kd.yh rfl (yX (v:=.int .i64 0) (by simp (disch:=exact Zq hsz) only [ya,yb])) ?_
 refine wpList_nil ?_
 simp only [Exit.then]
 have hR3:=Kd.qH (w1:=w3) hRn (fun j hj _=>hoth3 j hj)
 have hB3:=hbel3 _ _ Zo hB2
 have hC:=(Kd.Jt hR3).2.2
 obtain ⟨ad,rfl⟩:∃ ad,A=some ad:=by
  obtain ⟨ad,hA,_⟩:=hC.2.2 Zd
  exact ⟨ad,hA⟩
 have hcell:∀ i:Nat,i<3→w3.cell? ((ad.add (i * 8)).add 5)=some (.float .f64 (Yx i)):=fun i hi=>by
  obtain ⟨ad',ce,hA,hcl,hK,hce⟩:=Kd.ybX hC z34 (i:Int) Zo (by show (i:Int)<((3:Nat):Int);omega)
  obtain rfl:=Option.some.inj hA
  have hz:k34.sz=8:=rfl
  rw [hz,Int.toNat_natCast] at hce
  rw [Int.toNat_natCast] at hK
  obtain ⟨A7,c7,rfl,l7,g7⟩:=k34_open hK
  rw [add_add]
  refine (hce 5 _ rfl).trans ?_
  match i,hi with
  | 0,_=>rfl
  | 1,_=>rfl
  | 2,_=>rfl
 generalize hq:(Act.put _ (some 2) _)=b0
 have bsz:b0.tmps.size=39:=by rw [← hq];simp only [size_put];exact hsz
 have bdf:b0.defers=[]:=by rw [← hq];simp only [yq];exact hdf
 have b1:b0.eval (.tmp 1)=.pointer (some ⟨gk,0,none⟩):=by rw [← hq];simp (disch:=exact Zq hsz) only [ya,yb]
 have b2:b0.eval (.tmp 2)=.int .i64 0:=by rw [← hq,ya _ Zs]
 clear hq
 refine wp_seq ?_
 refine wp_region_list (Q5 ?_)
 refine Yh rfl (yJ (v:=.int .i64 0) (by simp (disch:=exact Zq bsz) only [ya,yb,b1,b2])) ?_
 refine Yh rfl (Jg (u:=.int .i64 0) (v:=.int .i64 0) (r:=.bool true) (by simp (disch:=exact Zq bsz) only [ya,yb,b1,b2]) rfl Zk) ?_
 refine Yh rfl (yJ (v:=.bool true) (by simp (disch:=exact Zq bsz) only [ya,yb,b1,b2])) ?_
 refine Yo (Yc (d:=9) rfl rfl rfl (by simp only [size_put,bsz];decide) (by simp (disch:=exact Zq bsz) only [ya,yb,b1,b2])) (yF (p:=.pointer (some ⟨gk,0,none⟩)) (by simp (disch:=exact Zq bsz) only [ya,yb,b1,b2]) (Qf ..)) ?_
 refine Yo (Yc (d:=9) rfl rfl rfl (by simp only [size_put,bsz];decide) (by simp (disch:=exact Zq bsz) only [ya,yb,b1,b2])) (run_load (p:=.pointer (some ⟨gk,7,none⟩)) (v:=.slice (some ad) 3 c') (by simp (disch:=exact Zq bsz) only [ya,yb,b1,b2]) (Q3 hb3 rfl)) ?_
 refine Yo (Yc (d:=9) rfl rfl rfl (by simp only [size_put,bsz];decide) (by simp (disch:=exact Zq bsz) only [ya,yb,b1,b2])) (JE Tryz.underlying32 (n:=3) (cap:=c') (A:=some ad) (by simp (disch:=exact Zq bsz) only [ya,yb,b1,b2]) _) ?_
 refine Yo (Yc (d:=9) rfl rfl rfl (by simp only [size_put,bsz];decide) (by simp (disch:=exact Zq bsz) only [ya,yb,b1,b2])) (Jg (u:=.int .i64 ((3:Nat):Int)) (v:=.int .i64 3) (r:=.bool true) (by simp (disch:=exact Zq bsz) only [ya,yb,b1,b2]) rfl Zk) ?_
 refine Yh rfl ((Jr (b:=true) (by simp (disch:=exact Zq bsz) only [ya,yb,b1,b2])).trans (show _=Result.ok (Next.value (.bool true)) _ by rw [if_pos rfl];exact congrArg (fun v=>Result.ok (Next.value v) _) (show _=Value.bool true from (by simp (disch:=exact Zq bsz) only [ya,yb,b1,b2])))) ?_
 refine Yh rfl (yJ (v:=.bool true) (by simp (disch:=exact Zq bsz) only [ya,yb,b1,b2])) ?_
 refine Yo (Yc (d:=15) rfl rfl rfl (by simp only [size_put,bsz];decide) (by simp (disch:=exact Zq bsz) only [ya,yb,b1,b2])) (yF (p:=.pointer (some ⟨gk,0,none⟩)) (by simp (disch:=exact Zq bsz) only [ya,yb,b1,b2]) (Qf ..)) ?_
 refine Yo (Yc (d:=15) rfl rfl rfl (by simp only [size_put,bsz];decide) (by simp (disch:=exact Zq bsz) only [ya,yb,b1,b2])) (run_load (p:=.pointer (some ⟨gk,7,none⟩)) (v:=.slice (some ad) 3 c') (by simp (disch:=exact Zq bsz) only [ya,yb,b1,b2]) (Q3 hb3 rfl)) ?_
 refine Yo (Yc (d:=15) rfl rfl rfl (by simp only [size_put,bsz];decide) (by simp (disch:=exact Zq bsz) only [ya,yb,b1,b2])) (qa (u:=.slice (some ad) 3 c') (i:=.int .i64 ((0:Nat):Int)) (by simp (disch:=exact Zq bsz) only [ya,yb,b1,b2]) rfl (idx34 (i:=0) Zd _)) ?_
 refine Yo (Yc (d:=15) rfl rfl rfl (by simp only [size_put,bsz];decide) (by simp (disch:=exact Zq bsz) only [ya,yb,b1,b2])) (yF (p:=.pointer (some (ad.add (0 * 8)))) (by simp (disch:=exact Zq bsz) only [ya,yb,b1,b2]) (fa34_5 _ _)) ?_
 refine Yo (Yc (d:=15) rfl rfl rfl (by simp only [size_put,bsz];decide) (by simp (disch:=exact Zq bsz) only [ya,yb,b1,b2])) (run_load (p:=.pointer (some ((ad.add (0 * 8)).add 5))) (v:=.float .f64 (Yx 0)) (by simp (disch:=exact Zq bsz) only [ya,yb,b1,b2]) (ld_any Zk (hcell 0 Zd))) ?_
 refine Yo (Yc (d:=15) rfl rfl rfl (by simp only [size_put,bsz];decide) (by simp (disch:=exact Zq bsz) only [ya,yb,b1,b2])) (Jg (u:=.float .f64 (Yx 0)) (v:=.float .f64 (Yx 0)) (r:=.bool true) (by simp (disch:=exact Zq bsz) only [ya,yb,b1,b2]) rfl (eqF _ (by simp) _ _ _)) ?_
 refine Yh rfl ((Jr (b:=true) (by simp (disch:=exact Zq bsz) only [ya,yb,b1,b2])).trans (show _=Result.ok (Next.value (.bool true)) _ by rw [if_pos rfl];exact congrArg (fun v=>Result.ok (Next.value v) _) (show _=Value.bool true from (by simp (disch:=exact Zq bsz) only [ya,yb,b1,b2])))) ?_
 refine Yh rfl (yJ (v:=.bool true) (by simp (disch:=exact Zq bsz) only [ya,yb,b1,b2])) ?_
 refine Yo (Yc (d:=23) rfl rfl rfl (by simp only [size_put,bsz];decide) (by simp (disch:=exact Zq bsz) only [ya,yb,b1,b2])) (yF (p:=.pointer (some ⟨gk,0,none⟩)) (by simp (disch:=exact Zq bsz) only [ya,yb,b1,b2]) (Qf ..)) ?_
 refine Yo (Yc (d:=23) rfl rfl rfl (by simp only [size_put,bsz];decide) (by simp (disch:=exact Zq bsz) only [ya,yb,b1,b2])) (run_load (p:=.pointer (some ⟨gk,7,none⟩)) (v:=.slice (some ad) 3 c') (by simp (disch:=exact Zq bsz) only [ya,yb,b1,b2]) (Q3 hb3 rfl)) ?_
 refine Yo (Yc (d:=23) rfl rfl rfl (by simp only [size_put,bsz];decide) (by simp (disch:=exact Zq bsz) only [ya,yb,b1,b2])) (qa (u:=.slice (some ad) 3 c') (i:=.int .i64 ((1:Nat):Int)) (by simp (disch:=exact Zq bsz) only [ya,yb,b1,b2]) rfl (idx34 (i:=1) Zd _)) ?_
 refine Yo (Yc (d:=23) rfl rfl rfl (by simp only [size_put,bsz];decide) (by simp (disch:=exact Zq bsz) only [ya,yb,b1,b2])) (yF (p:=.pointer (some (ad.add (1 * 8)))) (by simp (disch:=exact Zq bsz) only [ya,yb,b1,b2]) (fa34_5 _ _)) ?_
 refine Yo (Yc (d:=23) rfl rfl rfl (by simp only [size_put,bsz];decide) (by simp (disch:=exact Zq bsz) only [ya,yb,b1,b2])) (run_load (p:=.pointer (some ((ad.add (1 * 8)).add 5))) (v:=.float .f64 (Yx 1)) (by simp (disch:=exact Zq bsz) only [ya,yb,b1,b2]) (ld_any Zk (hcell 1 Zd))) ?_
 refine Yo (Yc (d:=23) rfl rfl rfl (by simp only [size_put,bsz];decide) (by simp (disch:=exact Zq bsz) only [ya,yb,b1,b2])) (Jg (u:=.float .f64 (Yx 1)) (v:=.float .f64 (Yx 1)) (r:=.bool true) (by simp (disch:=exact Zq bsz) only [ya,yb,b1,b2]) rfl (eqF _ (by simp) _ _ _)) ?_
 refine Yh rfl ((Jr (b:=true) (by simp (disch:=exact Zq bsz) only [ya,yb,b1,b2])).trans (show _=Result.ok (Next.value (.bool true)) _ by rw [if_pos rfl];exact congrArg (fun v=>Result.ok (Next.value v) _) (show _=Value.bool true from (by simp (disch:=exact Zq bsz) only [ya,yb,b1,b2])))) ?_
 refine Yh rfl (yJ (v:=.bool true) (by simp (disch:=exact Zq bsz) only [ya,yb,b1,b2])) ?_
 refine Yo (Yc (d:=31) rfl rfl rfl (by simp only [size_put,bsz];decide) (by simp (disch:=exact Zq bsz) only [ya,yb,b1,b2])) (yF (p:=.pointer (some ⟨gk,0,none⟩)) (by simp (disch:=exact Zq bsz) only [ya,yb,b1,b2]) (Qf ..)) ?_
 refine Yo (Yc (d:=31) rfl rfl rfl (by simp only [size_put,bsz];decide) (by simp (disch:=exact Zq bsz) only [ya,yb,b1,b2])) (run_load (p:=.pointer (some ⟨gk,7,none⟩)) (v:=.slice (some ad) 3 c') (by simp (disch:=exact Zq bsz) only [ya,yb,b1,b2]) (Q3 hb3 rfl)) ?_
 refine Yo (Yc (d:=31) rfl rfl rfl (by simp only [size_put,bsz];decide) (by simp (disch:=exact Zq bsz) only [ya,yb,b1,b2])) (qa (u:=.slice (some ad) 3 c') (i:=.int .i64 ((2:Nat):Int)) (by simp (disch:=exact Zq bsz) only [ya,yb,b1,b2]) rfl (idx34 (i:=2) Zd _)) ?_
 refine Yo (Yc (d:=31) rfl rfl rfl (by simp only [size_put,bsz];decide) (by simp (disch:=exact Zq bsz) only [ya,yb,b1,b2])) (yF (p:=.pointer (some (ad.add (2 * 8)))) (by simp (disch:=exact Zq bsz) only [ya,yb,b1,b2]) (fa34_5 _ _)) ?_
 refine Yo (Yc (d:=31) rfl rfl rfl (by simp only [size_put,bsz];decide) (by simp (disch:=exact Zq bsz) only [ya,yb,b1,b2])) (run_load (p:=.pointer (some ((ad.add (2 * 8)).add 5))) (v:=.float .f64 (Yx 2)) (by simp (disch:=exact Zq bsz) only [ya,yb,b1,b2]) (ld_any Zk (hcell 2 Zd))) ?_
 refine Yo (Yc (d:=31) rfl rfl rfl (by simp only [size_put,bsz];decide) (by simp (disch:=exact Zq bsz) only [ya,yb,b1,b2])) (Jg (u:=.float .f64 (Yx 2)) (v:=.float .f64 (Yx 2)) (r:=.bool true) (by simp (disch:=exact Zq bsz) only [ya,yb,b1,b2]) rfl (eqF _ (by simp) _ _ _)) ?_
 refine Yh rfl ((Jr (b:=true) (by simp (disch:=exact Zq bsz) only [ya,yb,b1,b2])).trans (show _=Result.ok (Next.value (.bool true)) _ by rw [if_pos rfl];exact congrArg (fun v=>Result.ok (Next.value v) _) (show _=Value.bool true from (by simp (disch:=exact Zq bsz) only [ya,yb,b1,b2])))) ?_
 refine Yh rfl (yX (v:=.bool true) (by simp (disch:=exact Zq bsz) only [ya,yb,b1,b2])) ?_
 refine yaV ?_
 simp only [Exit.then]
 refine wp_ret ?_
 exact Y8 rfl (by simp only [yq];exact bdf) (ya _ Zs) ⟨rfl,hB3⟩
end Go.Proofs.YtdcaggoicdfehaaGreatDoor
