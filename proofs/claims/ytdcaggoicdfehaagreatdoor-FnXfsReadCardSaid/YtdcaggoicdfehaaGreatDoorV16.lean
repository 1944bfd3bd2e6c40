/- Part 16 of 44 of the proof of the tied card of FnXfsRead. -/
import Derived.Test.YtdcaggoicdfehaaGreatDoorVz
import Derived.Test.YtdcaggoicdfehaaGreatDoorV7
import Derived.Test.YtdcaggoicdfehaaGreatDoorV15
import Derived.Lib.AtoiErrMem
import Derived.OwnWalk
import Derived.Test.YtdcaggoicdfehaaGreatDoorV13
import Derived.Test.YtdcaggoicdfehaaGreatDoorV14
set_option linter.unusedVariables false
set_option linter.unusedSimpArgs false
namespace Go.Proofs.YtdcaggoicdfehaaGreatDoor
open Go.RowKit Go.Proofs.YtdcaggoicdfehaaGreatDoorW.PrintWords Go.Proofs.YtdcaggoicdfehaaGreatDoorW.PrintLast Go.Proofs.YtdcaggoicdfehaaGreatDoorW.PrintMore
structure PI (k:IntKind) (e sz:Nat) (w0:World) (g off n cap:Nat) (u:Nat→Nat) (m:Nat) (a:Act) (w:World):Prop where
 size:a.tmps.size=sz
 defers:a.defers=[]
 e12:a.eval (.tmp 12)=.slice (some ⟨g,off,none⟩) n cap
 e13:a.eval (.tmp 13)=.int .i64 n
 e14:a.eval (.tmp 14)=.int .i64 m
 own:(Kd.int k).R e w w0.heap.size (fun _=>True) (a.eval (.tmp 4)) ((List.range m).map fun j=>((u j:Nat):Int))
 below:Below w0.heap.size w0 w
 le:m≤n
set_option maxRecDepth 100000 in
set_option maxHeartbeats 1000000 in
theorem parse32_walk (g off n cap:Nat) (s:Nat→ByteArray) (u:Nat→Nat) (w:World) (h0:0<n) (hn:n≤1000000) (hs:∀ j:Nat,j<n→(s j).size≤9223372036854775806) (hu:∀ j:Nat,j<n→Lib.parseUintB 32 (s j).data.toList=.ok (u j)) (hlt:∀ j:Nat,j<n→u j<4294967296)
 (hg:g<w.heap.size) (hc:∀ j:Nat,j<n→w.cell? ⟨g,off+j,none⟩=some (.string (s j))) :
 Calls Tryz.prog 50 #[.slice (some ⟨g,off,none⟩) n cap] w fun e w'=>∃ g' c',e=.returned (.tuple #[.slice (some ⟨g',0,none⟩) n c',.nilIface])∧w.heap.size≤g'∧g'<w'.heap.size∧(∀ j:Nat,j<n→w'.cell? ⟨g',j,none⟩=some (.int .u32 (u j)))∧Below w.heap.size w w':=by
 go_enter Tryz.func50,Tryz.ntmps50
 generalize ha0:(Act.mk _ _)=a0
 have hsz:a0.tmps.size=Tryz.f50.ntmps:=by rw [← ha0];rfl
 replace hsz:a0.tmps.size=33:=hsz.trans Zk
 have hdf:a0.defers=[]:=by rw [← ha0]
 have e0:a0.eval (.tmp 0)=.slice (some ⟨g,off,none⟩) n cap:=by rw [← ha0];rfl
 clear ha0
 refine yB ?_
 refine yf rfl run_assign ?_
 refine yf rfl run_assign ?_
 refine yG ?_
 simp only
 generalize hb:(Act.put _ _ _)=b
 have bs:b.tmps.size=33:=by rw [← hb];simp only [size_put];exact hsz
 have bd:b.defers=[]:=by rw [← hb];simp only [yq];exact hdf
 have b0:b.eval (.tmp 0)=.slice (some ⟨g,off,none⟩) n cap:=by rw [← hb,yb _ Zd,yb _ Zd];exact e0
 clear hb
 refine wp_seq ?_
 refine wp_region_list ?_
 refine Kd.yh rfl run_move ?_
 refine Kd.yh rfl (JE Tryz.underlying44 (n:=n) (A:=some ⟨g,off,none⟩) (cap:=cap) ?_ _) ?_
 · rw [ya _ Zo];exact b0
 refine wpList_make_own w rfl _ _ 154 rfl w.heap.size 70 _ (.int .u32 0) 1 Tryz.underlying154 rfl rfl rfl .i64 .i64 n n rfl (ya _ Zs) rfl (by show 4 * n≤_;omega) (by unfold maxLen;omega) (Nat.le_refl _) ?_
 intro w1 hown hgr
 have hB1:Below w.heap.size w w1:=yaT (Below.refl _ _) none (Nat.le_refl _) hgr (by intro k h;cases h)
 refine Kd.yh rfl run_assign ?_
 refine wpList_nil ?_
 simp only [Exit.then]
 generalize hb1:(Act.put _ (some 4) _)=b1
 have bs1:b1.tmps.size=33:=by rw [← hb1];simp only [size_put];exact bs
 have bd1:b1.defers=[]:=by rw [← hb1];simp only [yq];exact bd
 have b10:b1.eval (.tmp 0)=.slice (some ⟨g,off,none⟩) n cap:=by rw [← hb1,yb _ Zd,yb _ Zd,yb _ Zd,yb _ Zd];exact b0
 have b14:b1.eval (.tmp 4)=.slice (some ⟨w.heap.size,0,none⟩) 0 n:=by rw [← hb1,ya _ Zs,ya _ Zs]
 clear hb1
 refine wp_seq ?_
 refine yB ?_
 refine yf rfl run_move ?_
 refine yf rfl (JE Tryz.underlying44 (n:=n) (A:=some ⟨g,off,none⟩) (cap:=cap) ?_ _) ?_
 · rw [ya _ Zo];exact b10
 refine yf rfl run_move ?_
 refine yG ?_
 have hI0:PI .u32 70 33 w g off n cap u 0 (((b1.put (some 12) (b1.eval (.tmp 0))).put (some 13) (.int .i64 n)).put (some 14) (.int .i64 0)) w1:=by
  refine ⟨by simp only [size_put];exact bs1,by simp only [yq];exact bd1,?_,?_,?_,?_,hB1,Nat.zero_le _⟩
  · rw [yb _ Zd,yb _ Zd,ya _ Zo];exact b10
  · rw [yb _ Zd,ya _ Zs]
  · rw [ya _ Zs];rfl
  · rw [yb _ Zd,yb _ Zd,yb _ Zd,b14];exact R_fresh hown
 refine wp_block ?_
 refine wp_loop_ghost (fun r a w'=>∃ m,r=n - m∧PI .u32 70 33 w g off n cap u m a w') n ⟨0,rfl,hI0⟩ ?_
 rintro r a wr ⟨m,rfl,hI⟩
 refine yB ?_
 refine yf rfl (Q4 hI.e14 hI.e13) ?_
 refine yG ?_
 refine wp_seq ?_
 refine wp_cond (ya _ (by rw [hI.size];decide)) ?_
 by_cases hm:m<n
 · rw [decide_eq_true Zo,if_pos rfl]
   refine wp_skip ?_
   simp only [Exit.then]
   generalize hc0:(Act.put _ (some 15) _)=c0
   have cs:c0.tmps.size=33:=by rw [← hc0];simp only [size_put];exact hI.size
   have cd:c0.defers=[]:=by rw [← hc0];simp only [yq];exact hI.defers
   have c12:c0.eval (.tmp 12)=.slice (some ⟨g,off,none⟩) n cap:=by rw [← hc0,yb _ Zd];exact hI.e12
   have c13:c0.eval (.tmp 13)=.int .i64 n:=by rw [← hc0,yb _ Zd];exact hI.e13
   have c14:c0.eval (.tmp 14)=.int .i64 m:=by rw [← hc0,yb _ Zd];exact hI.e14
   have hR:=hI.own
   have c4:c0.eval (.tmp 4)=a.eval (.tmp 4):=by rw [← hc0,yb _ Zd]
   rw [← c4] at hR
   clear hc0
   have hcell:wr.cell? ⟨g,off+m,none⟩=some (.string (s m)):=by
    rw [← hc m hm];simp only [World.cell?];rw [hI.below.block g hg]
   refine wp_seq ?_
   refine wp_block ?_
   refine yB ?_
   refine yf rfl (qa c12 c14 (idx_off Tryz.underlying44 Zk hm _)) ?_
   refine yf rfl (run_load (ya _ Zo) (qN Zk hcell)) ?_
   refine yf rfl run_assign ?_
   refine yG ?_
   simp only
   generalize hd0:(Act.put _ (some 6) _)=d0
   have ds:d0.tmps.size=33:=by rw [← hd0];simp only [size_put];exact cs
   have dd:d0.defers=[]:=by rw [← hd0];simp only [yq];exact cd
   have dk:∀ j:Nat,j≠16→j≠17→j≠6→d0.eval (.tmp j)=c0.eval (.tmp j):=fun j h1 h2 h3=>by rw [← hd0,yb _ h3,yb _ h2,yb _ h1]
   have d6:d0.eval (.tmp 6)=.string (s m):=by rw [← hd0,ya _ Zs,ya _ Zs]
   clear hd0
   refine wp_seq ?_
   refine wp_region_list ?_
   refine Kd.yh rfl run_move ?_
   refine Yp (some 20) rfl rfl Tryz.func128 Zk rfl #[.string (s m),.int .i64 10,.int .i64 32] rfl ?_ ?_
   · exact args_tcc ((ya _ Zo).trans d6)
   refine (Tryz.strconv_ParseUint_10_at32_ok (s m) (hs m hm) (u m) (hu m hm) wr).mono ?_
   rintro e w2 ⟨rfl,hw2⟩
   have hB2:Below wr.heap.size wr w2:=by
    rcases hw2 with rfl|rfl
    · exact Below.refl _ _
    · exact Lib.bytesWorld_below _ _ _
   refine ⟨_,rfl,?_⟩
   refine Kd.yh rfl run_move ?_
   refine Kd.yh rfl (YI (u:=.tuple #[.int .u64 (u m),.nilIface]) (v:=.int .u64 (u m)) ?_ (qh _ _ _)) ?_
   · rw [ya _ Zs,ya _ Zs]
   refine Kd.yh rfl (YI (u:=.tuple #[.int .u64 (u m),.nilIface]) (v:=.nilIface) ?_ (qi _ _ _)) ?_
   · rw [yb _ Zd,ya _ Zs,ya _ Zs]
   refine Kd.yh rfl run_assign ?_
   refine Kd.yh rfl run_assign ?_
   refine wpList_nil ?_
   simp only [Exit.then]
   generalize hf0:(Act.put _ (some 8) _)=f0
   have fs:f0.tmps.size=33:=by rw [← hf0];simp only [size_put];exact ds
   have fd:f0.defers=[]:=by rw [← hf0];simp only [yq];exact dd
   have fk:∀ j:Nat,j≠19→j≠20→j≠18→j≠21→j≠22→j≠7→j≠8→f0.eval (.tmp j)=d0.eval (.tmp j):=fun j h1 h2 h3 h4 h5 h6 h7=>by
    rw [← hf0,yb _ h7,yb _ h6,yb _ h5,yb _ h4,yb _ h3,yb _ h2,yb _ h1]
   have f7:f0.eval (.tmp 7)=.int .u64 (u m):=by
    rw [← hf0,yb _ Zd,ya _ Zs,yb _ Zd,ya _ Zs]
   have f8:f0.eval (.tmp 8)=.nilIface:=by
    rw [← hf0,ya _ Zs,yb _ Zd,ya _ Zs]
   clear hf0
   refine wp_seq ?_
   refine yB ?_
   refine yf rfl run_move ?_
   refine yf rfl (qU ?_ ZW) ?_
   · rw [ya _ Zo];exact f8
   refine yG ?_
   refine wp_cond_false (ya _ Zs) ?_
   refine wp_skip ?_
   simp only [Exit.then]
   generalize hq0:(Act.put _ (some 24) _)=q0
   have qs:q0.tmps.size=33:=by rw [← hq0];simp only [size_put];exact fs
   have qd:q0.defers=[]:=by rw [← hq0];simp only [yq];exact fd
   have qk:∀ j:Nat,j≠23→j≠24→q0.eval (.tmp j)=f0.eval (.tmp j):=fun j h1 h2=>by rw [← hq0,yb _ h2,yb _ h1]
   clear hq0
   have q4:q0.eval (.tmp 4)=c0.eval (.tmp 4):=by rw [qk 4 Zd Zd,fk 4 Zd Zd Zd Zd Zd Zd Zd,dk 4 Zd Zd Zd]
   have q7:q0.eval (.tmp 7)=.int .u64 (u m):=(qk 7 Zd Zd).trans f7
   have qold:∀ j:Nat,9≤j→j<15→q0.eval (.tmp j)=c0.eval (.tmp j):=fun j h1 h2=>by rw [qk j Zo Zo,fk j Zo Zo Zo Zo Zo Zo Zo,dk j Zo Zo Zo]
   refine wp_region_list ?_
   refine Kd.yh rfl run_move ?_
   refine Kd.yh rfl run_move ?_
   refine Kd.yh rfl (ycw (p:=.int .u64 (u m)) ?_ (v:=.int .u32 (u m)) ?_) ?_
   · rw [ya _ Zs,yb _ Zd];exact q7
   · have:(convert 30 70 (.int .u64 (u m))).run Tryz.prog w2=.ok (.int .u32 (IntKind.u32.wrap (u m))) w2:=by kernel_rfl
     rw [this,wrap_u32 Zo (by have:=hlt m hm;omega)]
   refine Kd.yh rfl (run_litv (ya _ Zs) (show _=Result.ok (.slice (some ⟨w2.heap.size,0,none⟩) 1 1) (w2.alloc (.cells [.int .u32 ((u m:Nat):Int)].toArray 70)) by kernel_rfl)) ?_
   have hR2:(Kd.int .u32).R 70 w2 w.heap.size (fun _=>True) (c0.eval (.tmp 4)) ((List.range m).map fun j=>((u j:Nat):Int)):=Kd.qb hR hB2
   have hBb:Below w.heap.size w w2:=yy hI.below hB2
   refine Kd.J2 (Kd.int .u32) (w0:=w) w.heap.size rfl (.tmp 26) (.tmp 29) 154 70 (.int .u32 0) 4 rfl Tryz.underlying154 Zk rfl Zd Zd (c0.eval (.tmp 4)) ((List.range m).map fun j=>((u j:Nat):Int)) ((u m:Nat):Int) [.int .u32 ((u m:Nat):Int)] (fun _=>True) (fun _=>False) ?_ ?_ (nums_M _ _ _ _ _) (fun _ h=>h.elim) (fun _ _=>trivial) hR2 hBb (yt hBb) (by simp only [List.length_map,List.length_range];omega) ?_
   · rw [yb _ Zd,yb _ Zd,yb _ Zd,ya _ Zo];exact q4
   · rw [ya _ Zs]
   intro v1 w3 hR3 hB3 hg3 hat3
   refine Kd.yh rfl run_assign ?_
   refine wpList_nil ?_
   simp only [Exit.then,Exit.inBlock]
   generalize hz0:(Act.put _ (some 4) _)=z0
   have zs:z0.tmps.size=33:=by rw [← hz0];simp only [size_put];exact qs
   have zd:z0.defers=[]:=by rw [← hz0];simp only [yq];exact qd
   have zk:∀ j:Nat,9≤j→j<15→z0.eval (.tmp j)=c0.eval (.tmp j):=fun j h1 h2=>by
    rw [← hz0,yb _ (show j≠4 by omega),yb _ (show j≠30 by omega),yb _ (show j≠29 by omega),yb _ (show j≠28 by omega),yb _ (show j≠27 by omega),yb _ (show j≠26 by omega)];exact qold j h1 h2
   have z4:z0.eval (.tmp 4)=v1:=by rw [← hz0,ya _ Zs,ya _ Zs]
   clear hz0
   refine wp_region_list (J5 ?_)
   refine yf rfl (ya9 ((zk 14 Zd Zd).trans c14) rfl) ?_
   refine yf rfl run_move ?_
   refine yG ?_
   refine ⟨n - (m+1),by omega,m+1,rfl,?_⟩
   refine ⟨by simp only [size_put];exact zs,by simp only [yq];exact zd,?_,?_,?_,?_,hB3,hm⟩
   · rw [yb _ Zd,yb _ Zd,zk 12 Zd Zd];exact c12
   · rw [yb _ Zd,yb _ Zd,zk 13 Zd Zd];exact c13
   · rw [ya _ Zs,ya _ Zo,wrap_i64 Zo Zo];rfl
   · rw [yb _ Zd,yb _ Zd,z4,List.range_succ,List.map_append];exact hR3
 · have hmn:m=n:=by have:=hI.le;omega
   subst hmn
   rw [decide_eq_false Zo]
   refine wp_exit ?_
   simp only [Exit.then,Exit.inBlock,if_true]
   have hR:=hI.own
   obtain ⟨g',c',hv,hge,hlt',hcells⟩:=R_nums hR (by simp;omega)
   refine yB ?_
   refine yf rfl run_move ?_
   refine yf rfl run_assign ?_
   refine yf rfl run_assign ?_
   refine yG ?_
   refine wp_ret ?_
   refine bodyPost_ret (results_tmp2 rfl _ _ _) (by simp only [yq];exact hI.defers) ?_
   refine ⟨g',c',?_,hge,hlt',fun j hj=>?_,hI.below⟩
   · have h2:∀ b:Act,b.tmps.getD 2 undef=b.eval (.tmp 2):=fun _=>rfl
     have h3:∀ b:Act,b.tmps.getD 3 undef=b.eval (.tmp 3):=fun _=>rfl
     rw [h2,h3,yb _ Zd,ya _ (by simp only [size_put,hI.size];decide),ya _ (by simp only [size_put,hI.size];decide),ya _ (by simp only [size_put,hI.size];decide),yb _ Zd,hv]
     simp only [List.length_map,List.length_range]
     rfl
   · have:=hcells j (by simpa using hj)
     rw [this]
     simp [List.getD_eq_getElem?_getD,List.getElem?_map,List.getElem?_range hj]
set_option maxRecDepth 100000 in
set_option maxHeartbeats 1000000 in
theorem ybZ (g off n cap:Nat) (s:Nat→ByteArray) (u:Nat→Nat) (w:World) (h0:0<n) (hn:n≤1000000) (hs:∀ j:Nat,j<n→(s j).size≤9223372036854775806) (hu:∀ j:Nat,j<n→Lib.parseUintB 64 (s j).data.toList=.ok (u j)) (hlt:∀ j:Nat,j<n→u j<18446744073709551616)
 (hg:g<w.heap.size) (hc:∀ j:Nat,j<n→w.cell? ⟨g,off+j,none⟩=some (.string (s j))) :
 Calls Tryz.prog 46 #[.slice (some ⟨g,off,none⟩) n cap] w fun e w'=>∃ g' c',e=.returned (.tuple #[.slice (some ⟨g',0,none⟩) n c',.nilIface])∧w.heap.size≤g'∧g'<w'.heap.size∧(∀ j:Nat,j<n→w'.cell? ⟨g',j,none⟩=some (.int .u64 (u j)))∧Below w.heap.size w w':=by
 go_enter Tryz.func46,Tryz.ntmps46
 generalize ha0:(Act.mk _ _)=a0
 have hsz:a0.tmps.size=Tryz.f46.ntmps:=by rw [← ha0];rfl
 replace hsz:a0.tmps.size=32:=hsz.trans Zk
 have hdf:a0.defers=[]:=by rw [← ha0]
 have e0:a0.eval (.tmp 0)=.slice (some ⟨g,off,none⟩) n cap:=by rw [← ha0];rfl
 clear ha0
 refine yB ?_
 refine yf rfl run_assign ?_
 refine yf rfl run_assign ?_
 refine yG ?_
 simp only
 generalize hb:(Act.put _ _ _)=b
 have bs:b.tmps.size=32:=by rw [← hb];simp only [size_put];exact hsz
 have bd:b.defers=[]:=by rw [← hb];simp only [yq];exact hdf
 have b0:b.eval (.tmp 0)=.slice (some ⟨g,off,none⟩) n cap:=by rw [← hb,yb _ Zd,yb _ Zd];exact e0
 clear hb
 refine wp_seq ?_
 refine wp_region_list ?_
 refine Kd.yh rfl run_move ?_
 refine Kd.yh rfl (JE Tryz.underlying44 (n:=n) (A:=some ⟨g,off,none⟩) (cap:=cap) ?_ _) ?_
 · rw [ya _ Zo];exact b0
 refine wpList_make_own w rfl _ _ 54 rfl w.heap.size 30 _ (.int .u64 0) 1 Tryz.underlying54 rfl rfl rfl .i64 .i64 n n rfl (ya _ Zs) rfl (by show 8 * n≤_;omega) (by unfold maxLen;omega) (Nat.le_refl _) ?_
 intro w1 hown hgr
 have hB1:Below w.heap.size w w1:=yaT (Below.refl _ _) none (Nat.le_refl _) hgr (by intro k h;cases h)
 refine Kd.yh rfl run_assign ?_
 refine wpList_nil ?_
 simp only [Exit.then]
 generalize hb1:(Act.put _ (some 4) _)=b1
 have bs1:b1.tmps.size=32:=by rw [← hb1];simp only [size_put];exact bs
 have bd1:b1.defers=[]:=by rw [← hb1];simp only [yq];exact bd
 have b10:b1.eval (.tmp 0)=.slice (some ⟨g,off,none⟩) n cap:=by rw [← hb1,yb _ Zd,yb _ Zd,yb _ Zd,yb _ Zd];exact b0
 have b14:b1.eval (.tmp 4)=.slice (some ⟨w.heap.size,0,none⟩) 0 n:=by rw [← hb1,ya _ Zs,ya _ Zs]
 clear hb1
 refine wp_seq ?_
 refine yB ?_
 refine yf rfl run_move ?_
 refine yf rfl (JE Tryz.underlying44 (n:=n) (A:=some ⟨g,off,none⟩) (cap:=cap) ?_ _) ?_
 · rw [ya _ Zo];exact b10
 refine yf rfl run_move ?_
 refine yG ?_
 have hI0:PI .u64 30 32 w g off n cap u 0 (((b1.put (some 12) (b1.eval (.tmp 0))).put (some 13) (.int .i64 n)).put (some 14) (.int .i64 0)) w1:=by
  refine ⟨by simp only [size_put];exact bs1,by simp only [yq];exact bd1,?_,?_,?_,?_,hB1,Nat.zero_le _⟩
  · rw [yb _ Zd,yb _ Zd,ya _ Zo];exact b10
  · rw [yb _ Zd,ya _ Zs]
  · rw [ya _ Zs];rfl
  · rw [yb _ Zd,yb _ Zd,yb _ Zd,b14];exact R_fresh hown
 refine wp_block ?_
 refine wp_loop_ghost (fun r a w'=>∃ m,r=n - m∧PI .u64 30 32 w g off n cap u m a w') n ⟨0,rfl,hI0⟩ ?_
 rintro r a wr ⟨m,rfl,hI⟩
 refine yB ?_
 refine yf rfl (Q4 hI.e14 hI.e13) ?_
 refine yG ?_
 refine wp_seq ?_
 refine wp_cond (ya _ (by rw [hI.size];decide)) ?_
 by_cases hm:m<n
 · rw [decide_eq_true Zo,if_pos rfl]
   refine wp_skip ?_
   simp only [Exit.then]
   generalize hc0:(Act.put _ (some 15) _)=c0
   have cs:c0.tmps.size=32:=by rw [← hc0];simp only [size_put];exact hI.size
   have cd:c0.defers=[]:=by rw [← hc0];simp only [yq];exact hI.defers
   have c12:c0.eval (.tmp 12)=.slice (some ⟨g,off,none⟩) n cap:=by rw [← hc0,yb _ Zd];exact hI.e12
   have c13:c0.eval (.tmp 13)=.int .i64 n:=by rw [← hc0,yb _ Zd];exact hI.e13
   have c14:c0.eval (.tmp 14)=.int .i64 m:=by rw [← hc0,yb _ Zd];exact hI.e14
   have hR:=hI.own
   have c4:c0.eval (.tmp 4)=a.eval (.tmp 4):=by rw [← hc0,yb _ Zd]
   rw [← c4] at hR
   clear hc0
   have hcell:wr.cell? ⟨g,off+m,none⟩=some (.string (s m)):=by
    rw [← hc m hm];simp only [World.cell?];rw [hI.below.block g hg]
   refine wp_seq ?_
   refine wp_block ?_
   refine yB ?_
   refine yf rfl (qa c12 c14 (idx_off Tryz.underlying44 Zk hm _)) ?_
   refine yf rfl (run_load (ya _ Zo) (qN Zk hcell)) ?_
   refine yf rfl run_assign ?_
   refine yG ?_
   simp only
   generalize hd0:(Act.put _ (some 6) _)=d0
   have ds:d0.tmps.size=32:=by rw [← hd0];simp only [size_put];exact cs
   have dd:d0.defers=[]:=by rw [← hd0];simp only [yq];exact cd
   have dk:∀ j:Nat,j≠16→j≠17→j≠6→d0.eval (.tmp j)=c0.eval (.tmp j):=fun j h1 h2 h3=>by rw [← hd0,yb _ h3,yb _ h2,yb _ h1]
   have d6:d0.eval (.tmp 6)=.string (s m):=by rw [← hd0,ya _ Zs,ya _ Zs]
   clear hd0
   refine wp_seq ?_
   refine wp_region_list ?_
   refine Kd.yh rfl run_move ?_
   refine Yp (some 20) rfl rfl Tryz.func128 Zk rfl #[.string (s m),.int .i64 10,.int .i64 64] rfl ?_ ?_
   · exact args_tcc ((ya _ Zo).trans d6)
   refine (Tryz.strconv_ParseUint_10_at64_ok (s m) (hs m hm) (u m) (hu m hm) wr).mono ?_
   rintro e w2 ⟨rfl,hw2⟩
   have hB2:Below wr.heap.size wr w2:=by
    rcases hw2 with rfl|rfl
    · exact Below.refl _ _
    · exact Lib.bytesWorld_below _ _ _
   refine ⟨_,rfl,?_⟩
   refine Kd.yh rfl run_move ?_
   refine Kd.yh rfl (YI (u:=.tuple #[.int .u64 (u m),.nilIface]) (v:=.int .u64 (u m)) ?_ (qh _ _ _)) ?_
   · rw [ya _ Zs,ya _ Zs]
   refine Kd.yh rfl (YI (u:=.tuple #[.int .u64 (u m),.nilIface]) (v:=.nilIface) ?_ (qi _ _ _)) ?_
   · rw [yb _ Zd,ya _ Zs,ya _ Zs]
   refine Kd.yh rfl run_assign ?_
   refine Kd.yh rfl run_assign ?_
   refine wpList_nil ?_
   simp only [Exit.then]
   generalize hf0:(Act.put _ (some 8) _)=f0
   have fs:f0.tmps.size=32:=by rw [← hf0];simp only [size_put];exact ds
   have fd:f0.defers=[]:=by rw [← hf0];simp only [yq];exact dd
   have fk:∀ j:Nat,j≠19→j≠20→j≠18→j≠21→j≠22→j≠7→j≠8→f0.eval (.tmp j)=d0.eval (.tmp j):=fun j h1 h2 h3 h4 h5 h6 h7=>by
    rw [← hf0,yb _ h7,yb _ h6,yb _ h5,yb _ h4,yb _ h3,yb _ h2,yb _ h1]
   have f7:f0.eval (.tmp 7)=.int .u64 (u m):=by
    rw [← hf0,yb _ Zd,ya _ Zs,yb _ Zd,ya _ Zs]
   have f8:f0.eval (.tmp 8)=.nilIface:=by
    rw [← hf0,ya _ Zs,yb _ Zd,ya _ Zs]
   clear hf0
   refine wp_seq ?_
   refine yB ?_
   refine yf rfl run_move ?_
   refine yf rfl (qU ?_ ZW) ?_
   · rw [ya _ Zo];exact f8
   refine yG ?_
   refine wp_cond_false (ya _ Zs) ?_
   refine wp_skip ?_
   simp only [Exit.then]
   generalize hq0:(Act.put _ (some 24) _)=q0
   have qs:q0.tmps.size=32:=by rw [← hq0];simp only [size_put];exact fs
   have qd:q0.defers=[]:=by rw [← hq0];simp only [yq];exact fd
   have qk:∀ j:Nat,j≠23→j≠24→q0.eval (.tmp j)=f0.eval (.tmp j):=fun j h1 h2=>by rw [← hq0,yb _ h2,yb _ h1]
   clear hq0
   have q4:q0.eval (.tmp 4)=c0.eval (.tmp 4):=by rw [qk 4 Zd Zd,fk 4 Zd Zd Zd Zd Zd Zd Zd,dk 4 Zd Zd Zd]
   have q7:q0.eval (.tmp 7)=.int .u64 (u m):=(qk 7 Zd Zd).trans f7
   have qold:∀ j:Nat,9≤j→j<15→q0.eval (.tmp j)=c0.eval (.tmp j):=fun j h1 h2=>by rw [qk j Zo Zo,fk j Zo Zo Zo Zo Zo Zo Zo,dk j Zo Zo Zo]
   refine wp_region_list ?_
   refine Kd.yh rfl run_move ?_
   refine Kd.yh rfl run_move ?_
   refine Kd.yh rfl (run_litv (u:=.int .u64 (u m)) ?_ (show _=Result.ok (.slice (some ⟨w2.heap.size,0,none⟩) 1 1) (w2.alloc (.cells [.int .u64 ((u m:Nat):Int)].toArray 30)) by kernel_rfl)) ?_
   · rw [ya _ Zs,yb _ Zd];exact q7
   have hR2:(Kd.int .u64).R 30 w2 w.heap.size (fun _=>True) (c0.eval (.tmp 4)) ((List.range m).map fun j=>((u j:Nat):Int)):=Kd.qb hR hB2
   have hBb:Below w.heap.size w w2:=yy hI.below hB2
   refine Kd.J2 (Kd.int .u64) (w0:=w) w.heap.size rfl (.tmp 26) (.tmp 28) 54 30 (.int .u64 0) 8 rfl Tryz.underlying54 Zk rfl Zd Zd (c0.eval (.tmp 4)) ((List.range m).map fun j=>((u j:Nat):Int)) ((u m:Nat):Int) [.int .u64 ((u m:Nat):Int)] (fun _=>True) (fun _=>False) ?_ ?_ (nums_M _ _ _ _ _) (fun _ h=>h.elim) (fun _ _=>trivial) hR2 hBb (yt hBb) (by simp only [List.length_map,List.length_range];omega) ?_
   · rw [yb _ Zd,yb _ Zd,ya _ Zo];exact q4
   · rw [ya _ Zs]
   intro v1 w3 hR3 hB3 hg3 hat3
   refine Kd.yh rfl run_assign ?_
   refine wpList_nil ?_
   simp only [Exit.then,Exit.inBlock]
   generalize hz0:(Act.put _ (some 4) _)=z0
   have zs:z0.tmps.size=32:=by rw [← hz0];simp only [size_put];exact qs
   have zd:z0.defers=[]:=by rw [← hz0];simp only [yq];exact qd
   have zk:∀ j:Nat,9≤j→j<15→z0.eval (.tmp j)=c0.eval (.tmp j):=fun j h1 h2=>by
    rw [← hz0,yb _ (show j≠4 by omega),yb _ (show j≠29 by omega),yb _ (show j≠28 by omega),yb _ (show j≠27 by omega),yb _ (show j≠26 by omega)];exact qold j h1 h2
   have z4:z0.eval (.tmp 4)=v1:=by rw [← hz0,ya _ Zs,ya _ Zs]
   clear hz0
   refine wp_region_list (J5 ?_)
   refine yf rfl (ya9 ((zk 14 Zd Zd).trans c14) rfl) ?_
   refine yf rfl run_move ?_
   refine yG ?_
   refine ⟨n - (m+1),by omega,m+1,rfl,?_⟩
   refine ⟨by simp only [size_put];exact zs,by simp only [yq];exact zd,?_,?_,?_,?_,hB3,hm⟩
   · rw [yb _ Zd,yb _ Zd,zk 12 Zd Zd];exact c12
   · rw [yb _ Zd,yb _ Zd,zk 13 Zd Zd];exact c13
   · rw [ya _ Zs,ya _ Zo,wrap_i64 Zo Zo];rfl
   · rw [yb _ Zd,yb _ Zd,z4,List.range_succ,List.map_append];exact hR3
 · have hmn:m=n:=by have:=hI.le;omega
   subst hmn
   rw [decide_eq_false Zo]
   refine wp_exit ?_
   simp only [Exit.then,Exit.inBlock,if_true]
   have hR:=hI.own
   obtain ⟨g',c',hv,hge,hlt',hcells⟩:=R_nums hR (by simp;omega)
   refine yB ?_
   refine yf rfl run_move ?_
   refine yf rfl run_assign ?_
   refine yf rfl run_assign ?_
   refine yG ?_
   refine wp_ret ?_
   refine bodyPost_ret (results_tmp2 rfl _ _ _) (by simp only [yq];exact hI.defers) ?_
   refine ⟨g',c',?_,hge,hlt',fun j hj=>?_,hI.below⟩
   · have h2:∀ b:Act,b.tmps.getD 2 undef=b.eval (.tmp 2):=fun _=>rfl
     have h3:∀ b:Act,b.tmps.getD 3 undef=b.eval (.tmp 3):=fun _=>rfl
     rw [h2,h3,yb _ Zd,ya _ (by simp only [size_put,hI.size];decide),ya _ (by simp only [size_put,hI.size];decide),ya _ (by simp only [size_put,hI.size];decide),yb _ Zd,hv]
     simp only [List.length_map,List.length_range]
     rfl
   · have:=hcells j (by simpa using hj)
     rw [this]
     simp [List.getD_eq_getElem?_getD,List.getElem?_map,List.getElem?_range hj]
end Go.Proofs.YtdcaggoicdfehaaGreatDoor
namespace Go.Proofs.YtdcaggoicdfehaaGreatDoor
open Go.RowKit Go.Proofs.YtdcaggoicdfehaaGreatDoorW.PrintWords Go.Proofs.YtdcaggoicdfehaaGreatDoorW.PrintLast Go.Proofs.YtdcaggoicdfehaaGreatDoorW.PrintMore
set_option maxRecDepth 100000 in
theorem sl_from1 {gf m:Nat} (hm:0<m) (W:World):(Instr.sliceAt 44 (.slice (some ⟨gf,0,none⟩) (m+1) (m+1)) (some (.int .i64 1)) none none).run Tryz.prog W=.ok (.slice (some ⟨gf,1,none⟩) m m) W:=by
 have hu:Tryz.prog.underlying 44=some (.slice (Tryz.prog.elem 44)):=Tryz.underlying44
 have hi:(Tryz.prog.info? (Tryz.prog.elem 44)).map (·.size)=some 1:=by kernel_rfl
 rw [run_sliceAt_slice (h:=hu),run_slice_l (P:=Tryz.prog) W 44 (some ⟨gf,0,none⟩) (m+1) (m+1) hu .i64 1 Zd Zo]
 cases hq:Tryz.prog.info? (Tryz.prog.elem 44) with
 | none=>rw [hq] at hi;cases hi
 | some i=>
  rw [hq] at hi
  have hi:i.size=1:=by simpa using hi
  have h0:m≠0:=by omega
  simp [sizeOf,typeInfo,hq,hi,sliced,Addr.add,h0]
theorem run_slc {a:Act} {d ty pos aft gd} {w:World} {x:Operand} {T:TypeId} {u v c:Value} (hx:a.eval x=u) (hl:(Instr.sliceAt T u (some c) none none).run Tryz.prog w=.ok v w):(execOp a.eval ⟨d,.slice T x (some (.const c)) none none,ty,pos,aft,gd⟩).run Tryz.prog w=.ok (.value v) w:=by
 subst hx;exact Jc hl
theorem yb8 {id k ur er gf m sz:Nat} {K:IntKind} {x:Nat→Nat} {Q:Exit→Act→World→Prop} {rest:Code} {a:Act} {w:World} {f:FuncId} {fn:Func}
 {d0 d1 d2 d3 d4 d5 d6 d7:TypeId} {p0 p1 p2 p3 p4 p5 p6 p7:String} {a0 a1 a2 a3 a4 a5 a6 a7:Array Edge} {ts:Array TypeId}
 (hf:Tryz.prog.funcs[f]?=some fn) (hname:(fn.name == "runtime.NumGoroutine")=false) (hbody:fn.body.isSome=true)
 (hcall:Calls Tryz.prog f #[.slice (some ⟨gf,1,none⟩) m m] w fun e w'=>∃ g' c',e=.returned (.tuple #[.slice (some ⟨g',0,none⟩) m c',.nilIface])∧w.heap.size≤g'∧g'<w'.heap.size∧(∀ j:Nat,j<m→w'.cell? ⟨g',j,none⟩=some (.int K (x j)))∧Below w.heap.size w w')
 (hm:0<m) (hs:a.tmps.size=sz) (e6:a.eval (.tmp 6)=.slice (some ⟨gf,0,none⟩) (m+1) (m+1)) (hk:6<k) (hk2:k+5<sz) (hur:ur<k) (her:er<k) (hne:ur≠er)
 (h:∀ a' w' g' c',w.heap.size≤g'→g'<w'.heap.size→(∀ j:Nat,j<m→w'.cell? ⟨g',j,none⟩=some (.int K (x j)))→Below w.heap.size w w'→a'.tmps.size=sz→a'.defers=a.defers→(∀ j:Nat,(j<k∨k+5<j)→j≠ur→j≠er→a'.eval (.tmp j)=a.eval (.tmp j)) →
  a'.eval (.tmp ur)=.slice (some ⟨g',0,none⟩) m c'→a'.eval (.tmp er)=.nilIface→rest.wp Tryz.prog Q a' w') :
 (Code.seq (.region id #[⟨some (k+1),.move (.tmp 6),d0,p0,a0,none⟩,⟨some (k+2),.slice 44 (.tmp (k+1)) (some (.const (.int .i64 1))) none none,d1,p1,a1,none⟩,⟨some (k+3),.call { callee:=.value (.func f),args:=#[.tmp (k+2)],argTypes:=ts },d2,p2,a2,none⟩,⟨some k,.move (.tmp (k+3)),d3,p3,a3,none⟩,
  ⟨some (k+4),.extract (.tmp k) 0,d4,p4,a4,none⟩,⟨some (k+5),.extract (.tmp k) 1,d5,p5,a5,none⟩,⟨some ur,.assign (.tmp (k+4)),d6,p6,a6,none⟩,⟨some er,.assign (.tmp (k+5)),d7,p7,a7,none⟩] false) rest).wp Tryz.prog Q a w:=by
 refine wp_seq ?_
 refine wp_region_list ?_
 refine Kd.yh rfl (yJ e6) ?_
 refine Kd.yh rfl (run_slc (ya _ Zo) (sl_from1 hm _)) ?_
 refine Yp (some (k+3)) rfl rfl hf hname hbody #[.slice (some ⟨gf,1,none⟩) m m] rfl (JX (ya _ Zs)) ?_
 refine hcall.mono ?_
 rintro e w1 ⟨g',c',rfl,hge,hlt,hcell,hB⟩
 refine ⟨_,rfl,?_⟩
 refine Kd.yh rfl (yJ (v:=.tuple #[.slice (some ⟨g',0,none⟩) m c',.nilIface]) (ya _ Zs)) ?_
 refine Kd.yh rfl (YI (u:=.tuple #[.slice (some ⟨g',0,none⟩) m c',.nilIface]) (v:=.slice (some ⟨g',0,none⟩) m c') (ya _ Zs) (qh _ _ _)) ?_
 refine Kd.yh rfl (YI (u:=.tuple #[.slice (some ⟨g',0,none⟩) m c',.nilIface]) (v:=.nilIface) ((yb _ Zo).trans (ya _ Zs)) (qi _ _ _)) ?_
 refine Kd.yh rfl (yX (v:=.slice (some ⟨g',0,none⟩) m c') ?_) ?_
 · rw [yb _ Zo,ya _ Zs]
 refine Kd.yh rfl (yX (v:=.nilIface) ?_) ?_
 · rw [yb _ Zo,ya _ Zs]
 refine wpList_nil ?_
 simp only [Exit.then]
 refine h _ _ g' c' hge hlt hcell hB (by simp only [size_put];exact hs) (by simp only [yq]) (fun j hj hju hje=>?_) ?_ (ya _ Zs)
 · rw [yb _ hje,yb _ hju,yb _ Zo,yb _ Zo,yb _ Zo,yb _ Zo,yb _ Zo,yb _ Zo]
 · rw [yb _ hne,ya _ Zs]
theorem Ql {id k er:Nat} {sz:Nat} {X rest:Code} {Q:Exit→Act→World→Prop} {a:Act} {w:World} {d0 d1:TypeId} {p0 p1:String} {a0 a1:Array Edge}
 (hs:a.tmps.size=sz) (hk:k+1<sz) (he:a.eval (.tmp er)=.nilIface)
 (h:∀ a',a'.tmps.size=sz→a'.defers=a.defers→(∀ j:Nat,j≠k→j≠k+1→a'.eval (.tmp j)=a.eval (.tmp j))→rest.wp Tryz.prog Q a' w) :
 (Code.seq (Code.seq (.region id #[⟨some k,.move (.tmp er),d0,p0,a0,none⟩,⟨some (k+1),.binOp .neq 63 (.tmp k) (.const .nilIface) 63,d1,p1,a1,none⟩] false) (Code.cond (.tmp (k+1)) X .skip)) rest).wp Tryz.prog Q a w:=by
 refine wp_seq ?_
 refine yB ?_
 refine yf rfl (yJ he) ?_
 refine yf rfl (qU (ya _ Zo) ZW) ?_
 refine yG ?_
 refine wp_cond_false (ya _ Zs) ?_
 refine wp_skip ?_
 simp only [Exit.then]
 exact h _ (by simp only [size_put];exact hs) (by simp only [yq]) (fun j h1 h2=>by rw [yb _ h2,yb _ h1])
theorem lab_if {id k sz:Nat} {lab c:ByteArray} {A rest:Code} {Q:Exit→Act→World→Prop} {a:Act} {w:World} {d0 d1:TypeId} {p0 p1:String} {a0 a1:Array Edge}
 (hs:a.tmps.size=sz) (hk:7<k) (hk2:k+1<sz) (e7:a.eval (.tmp 7)=.string lab)
 (hyes:lab=c→∀ a',a'.tmps.size=sz→a'.defers=a.defers→(∀ j:Nat,j<k→a'.eval (.tmp j)=a.eval (.tmp j))→A.wp Tryz.prog (Exit.then (rest.wp Tryz.prog Q) Q) a' w)
 (hno:lab≠c→∀ a',a'.tmps.size=sz→a'.defers=a.defers→(∀ j:Nat,j<k→a'.eval (.tmp j)=a.eval (.tmp j))→rest.wp Tryz.prog Q a' w) :
 (Code.seq (Code.seq (.region id #[⟨some k,.move (.tmp 7),d0,p0,a0,none⟩,⟨some (k+1),.binOp .eql 9 (.tmp k) (.const (.string c)) 9,d1,p1,a1,none⟩] false) (Code.cond (.tmp (k+1)) A .skip)) rest).wp Tryz.prog Q a w:=by
 refine wp_seq ?_
 refine yB ?_
 refine yf rfl (yJ e7) ?_
 refine yf rfl (run_seq (ya _ Zo)) ?_
 refine yG ?_
 have hk3:∀ (v v':Value) (j:Nat),j<k→((a.put (some k) v).put (some (k+1)) v').eval (.tmp j)=a.eval (.tmp j):=fun v v' j hj=>by rw [yb _ Zo,yb _ Zo]
 by_cases h:lab=c
 · refine wp_cond_true (?_:_=Value.bool true) (hyes h _ (by simp only [size_put];exact hs) (by simp only [yq]) (hk3 _ _))
   rw [ya _ Zs,ya4,decide_eq_true h]
 · refine wp_cond_false (?_:_=Value.bool false) ?_
   · rw [ya _ Zs,ya4,decide_eq_false h]
   refine wp_skip ?_
   simp only [Exit.then]
   exact hno h _ (by simp only [size_put];exact hs) (by simp only [yq]) (hk3 _ _)
structure RowOk (L:List UInt8) (i:Nat) (u:Nat→Nat):Prop where
 noLF:∀ x ∈ L,x≠10
 ne:L≠[]
 last:∀ x,L.getLast?=some x→x≠13
 len:L.length<65536
 ascii:∀ x ∈ L,x.toNat<128
 idx:i<33
 flds:∃ gr toks,yZ[i]?=some gr∧Lib.fields L=gr.f0.data.toList::toks∧toks.length=gr.f2.length∧∀ (j:Nat) (t:List UInt8),toks[j]?=some t→t.length≤65536∧Lib.parseUintB (if i=13∨i=32 then 64 else 32) t=.ok (u j)
 lt:∀ j:Nat,u j<if i=13∨i=32 then 18446744073709551616 else 4294967296
def Y5 (rows:List (List UInt8 × Nat × (Nat→Nat))):List UInt8:=rows.flatMap fun r=>r.1++[10]
def YZ (n:Nat→Nat→Int):List (List UInt8 × Nat × (Nat→Nat))→Nat→Nat→Int
 | []=>n
 | r::rs=>YZ (upd n r.2.1 fun j=>(r.2.2 j:Int)) rs
end Go.Proofs.YtdcaggoicdfehaaGreatDoor
