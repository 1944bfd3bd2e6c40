/- Part 14 of 44 of the proof of the tied card of FnXfsRead. -/
import Derived.Test.YtdcaggoicdfehaaGreatDoorVz
import Derived.Test.YtdcaggoicdfehaaGreatDoorV6
set_option linter.unusedVariables false
set_option linter.unusedSimpArgs false
namespace Go.Proofs.YtdcaggoicdfehaaGreatDoor
open Go.RowKit Go.Proofs.YtdcaggoicdfehaaGreatDoorW.PrintWords Go.Proofs.YtdcaggoicdfehaaGreatDoorW.PrintLast Go.Proofs.YtdcaggoicdfehaaGreatDoorW.PrintMore
set_option maxRecDepth 100000 in
set_option maxHeartbeats 1000000 in
theorem QB (g cap:Nat) (x:Nat→Int) (w:World) (hg:g<w.heap.size) (hx:∀ j:Nat,j<3→w.cell? ⟨g,j,none⟩=some (.int .u64 (x j))):Calls Tryz.prog 48 #[.slice (some ⟨g,0,none⟩) 3 cap] w fun e w'=>e=.returned (.tuple #[.agg #[.int .u64 (x 0),.int .u64 (x 1),.int .u64 (x 2)],.nilIface])∧Below w.heap.size w w':=by
 go_enter Tryz.func48,Tryz.ntmps48
 generalize ha0:(Act.mk _ _)=a0
 have hsz:a0.tmps.size=Tryz.f48.ntmps:=by rw [← ha0];rfl
 replace hsz:a0.tmps.size=21:=hsz.trans Zk
 have hdf:a0.defers=[]:=by rw [← ha0]
 have e0:a0.eval (.tmp 0)=.slice (some ⟨g,0,none⟩) 3 cap:=by rw [← ha0];rfl
 clear ha0
 refine Yw (c:=3) (k:=11) (K:=.u64) (LT:=30) (x:=x) (cells:=#[.int .u64 (x 0),.int .u64 (x 1),.int .u64 (x 2)]) (zero:=#[.int .u64 0,.int .u64 0,.int .u64 0]) Tryz.underlying54 Zk ZW Tryz.underlying96 rfl Zk ZW rfl ZW rfl ?_ rfl Zk Zk Zk Zk rfl Zk rfl Zd Zo e0 hdf hg hx (fun w' hB=>⟨rfl,hB⟩)
 intro a' o ho h W
 obtain rfl:=Option.some.inj ho
 have h0:a'.eval (.tmp 13)=.int .u64 (x 0):=h 0 Zd
 have h1:a'.eval (.tmp 16)=.int .u64 (x 1):=h 1 Zd
 have h2:a'.eval (.tmp 19)=.int .u64 (x 2):=h 2 Zd
 exact YQ (vs:=#[(0,.int .u64 (x 0)),(1,.int .u64 (x 1)),(2,.int .u64 (x 2))]) (by simp [h0,h1,h2]) Zk
set_option maxRecDepth 100000 in
set_option maxHeartbeats 1000000 in
theorem yaR (g cap:Nat) (x:Nat→Int) (w:World) (hg:g<w.heap.size) (hx:∀ j:Nat,j<1→w.cell? ⟨g,j,none⟩=some (.int .u64 (x j))):Calls Tryz.prog 49 #[.slice (some ⟨g,0,none⟩) 1 cap] w fun e w'=>e=.returned (.tuple #[.agg #[.int .u64 (x 0)],.nilIface])∧Below w.heap.size w w':=by
 go_enter Tryz.func49,Tryz.ntmps49
 generalize ha0:(Act.mk _ _)=a0
 have hsz:a0.tmps.size=Tryz.f49.ntmps:=by rw [← ha0];rfl
 replace hsz:a0.tmps.size=15:=hsz.trans Zk
 have hdf:a0.defers=[]:=by rw [← ha0]
 have e0:a0.eval (.tmp 0)=.slice (some ⟨g,0,none⟩) 1 cap:=by rw [← ha0];rfl
 clear ha0
 refine Yw (c:=1) (k:=11) (K:=.u64) (LT:=30) (x:=x) (cells:=#[.int .u64 (x 0)]) (zero:=#[.int .u64 0]) Tryz.underlying54 Zk ZW Tryz.underlying123 rfl Zk ZW rfl ZW rfl ?_ rfl Zk Zk Zk Zk rfl Zk rfl Zd Zo e0 hdf hg hx (fun w' hB=>⟨rfl,hB⟩)
 intro a' o ho h W
 obtain rfl:=Option.some.inj ho
 have h0:a'.eval (.tmp 13)=.int .u64 (x 0):=h 0 Zd
 exact YQ (vs:=#[(0,.int .u64 (x 0))]) (by simp [h0]) Zk
set_option maxRecDepth 100000 in
set_option maxHeartbeats 1000000 in
theorem QN (g cap:Nat) (x:Nat→Int) (w:World) (hg:g<w.heap.size) (hx:∀ j:Nat,j<4→w.cell? ⟨g,j,none⟩=some (.int .u32 (x j))):Calls Tryz.prog 51 #[.slice (some ⟨g,0,none⟩) 4 cap] w fun e w'=>e=.returned (.tuple #[.agg #[.int .u32 (x 0),.int .u32 (x 1),.int .u32 (x 2),.int .u32 (x 3)],.nilIface])∧Below w.heap.size w w':=by
 go_enter Tryz.func51,Tryz.ntmps51
 generalize ha0:(Act.mk _ _)=a0
 have hsz:a0.tmps.size=Tryz.f51.ntmps:=by rw [← ha0];rfl
 replace hsz:a0.tmps.size=24:=hsz.trans Zk
 have hdf:a0.defers=[]:=by rw [← ha0]
 have e0:a0.eval (.tmp 0)=.slice (some ⟨g,0,none⟩) 4 cap:=by rw [← ha0];rfl
 clear ha0
 refine Yw (c:=4) (k:=11) (K:=.u32) (LT:=70) (x:=x) (cells:=#[.int .u32 (x 0),.int .u32 (x 1),.int .u32 (x 2),.int .u32 (x 3)]) (zero:=#[.int .u32 0,.int .u32 0,.int .u32 0,.int .u32 0]) Tryz.underlying154 Zk ZW Tryz.underlying72 rfl Zk ZW rfl ZW rfl ?_ rfl Zk Zk Zk Zk rfl Zk rfl Zd Zo e0 hdf hg hx (fun w' hB=>⟨rfl,hB⟩)
 intro a' o ho h W
 obtain rfl:=Option.some.inj ho
 have h0:a'.eval (.tmp 13)=.int .u32 (x 0):=h 0 Zd
 have h1:a'.eval (.tmp 16)=.int .u32 (x 1):=h 1 Zd
 have h2:a'.eval (.tmp 19)=.int .u32 (x 2):=h 2 Zd
 have h3:a'.eval (.tmp 22)=.int .u32 (x 3):=h 3 Zd
 exact YQ (vs:=#[(0,.int .u32 (x 0)),(1,.int .u32 (x 1)),(2,.int .u32 (x 2)),(3,.int .u32 (x 3))]) (by simp [h0,h1,h2,h3]) Zk
set_option maxRecDepth 100000 in
set_option maxHeartbeats 1000000 in
theorem yaH (g cap:Nat) (x:Nat→Int) (w:World) (hg:g<w.heap.size) (hx:∀ j:Nat,j<4→w.cell? ⟨g,j,none⟩=some (.int .u32 (x j))):Calls Tryz.prog 52 #[.slice (some ⟨g,0,none⟩) 4 cap] w fun e w'=>e=.returned (.tuple #[.agg #[.int .u32 (x 0),.int .u32 (x 1),.int .u32 (x 2),.int .u32 (x 3)],.nilIface])∧Below w.heap.size w w':=by
 go_enter Tryz.func52,Tryz.ntmps52
 generalize ha0:(Act.mk _ _)=a0
 have hsz:a0.tmps.size=Tryz.f52.ntmps:=by rw [← ha0];rfl
 replace hsz:a0.tmps.size=24:=hsz.trans Zk
 have hdf:a0.defers=[]:=by rw [← ha0]
 have e0:a0.eval (.tmp 0)=.slice (some ⟨g,0,none⟩) 4 cap:=by rw [← ha0];rfl
 clear ha0
 refine Yw (c:=4) (k:=11) (K:=.u32) (LT:=70) (x:=x) (cells:=#[.int .u32 (x 0),.int .u32 (x 1),.int .u32 (x 2),.int .u32 (x 3)]) (zero:=#[.int .u32 0,.int .u32 0,.int .u32 0,.int .u32 0]) Tryz.underlying154 Zk ZW Tryz.underlying74 rfl Zk ZW rfl ZW rfl ?_ rfl Zk Zk Zk Zk rfl Zk rfl Zd Zo e0 hdf hg hx (fun w' hB=>⟨rfl,hB⟩)
 intro a' o ho h W
 obtain rfl:=Option.some.inj ho
 have h0:a'.eval (.tmp 13)=.int .u32 (x 0):=h 0 Zd
 have h1:a'.eval (.tmp 16)=.int .u32 (x 1):=h 1 Zd
 have h2:a'.eval (.tmp 19)=.int .u32 (x 2):=h 2 Zd
 have h3:a'.eval (.tmp 22)=.int .u32 (x 3):=h 3 Zd
 exact YQ (vs:=#[(0,.int .u32 (x 0)),(1,.int .u32 (x 1)),(2,.int .u32 (x 2)),(3,.int .u32 (x 3))]) (by simp [h0,h1,h2,h3]) Zk
set_option maxRecDepth 100000 in
set_option maxHeartbeats 1000000 in
theorem yay (g cap:Nat) (x:Nat→Int) (w:World) (hg:g<w.heap.size) (hx:∀ j:Nat,j<7→w.cell? ⟨g,j,none⟩=some (.int .u32 (x j))):Calls Tryz.prog 53 #[.slice (some ⟨g,0,none⟩) 7 cap] w fun e w'=>e=.returned (.tuple #[.agg #[.int .u32 (x 0),.int .u32 (x 1),.int .u32 (x 2),.int .u32 (x 3),.int .u32 (x 4),.int .u32 (x 5),.int .u32 (x 6)],.nilIface])∧Below w.heap.size w w':=by
 go_enter Tryz.func53,Tryz.ntmps53
 generalize ha0:(Act.mk _ _)=a0
 have hsz:a0.tmps.size=Tryz.f53.ntmps:=by rw [← ha0];rfl
 replace hsz:a0.tmps.size=33:=hsz.trans Zk
 have hdf:a0.defers=[]:=by rw [← ha0]
 have e0:a0.eval (.tmp 0)=.slice (some ⟨g,0,none⟩) 7 cap:=by rw [← ha0];rfl
 clear ha0
 refine Yw (c:=7) (k:=11) (K:=.u32) (LT:=70) (x:=x) (cells:=#[.int .u32 (x 0),.int .u32 (x 1),.int .u32 (x 2),.int .u32 (x 3),.int .u32 (x 4),.int .u32 (x 5),.int .u32 (x 6)]) (zero:=#[.int .u32 0,.int .u32 0,.int .u32 0,.int .u32 0,.int .u32 0,.int .u32 0,.int .u32 0]) Tryz.underlying154 Zk ZW Tryz.underlying76 rfl Zk ZW rfl ZW rfl ?_ rfl Zk Zk Zk Zk rfl Zk rfl Zd Zo e0 hdf hg hx (fun w' hB=>⟨rfl,hB⟩)
 intro a' o ho h W
 obtain rfl:=Option.some.inj ho
 have h0:a'.eval (.tmp 13)=.int .u32 (x 0):=h 0 Zd
 have h1:a'.eval (.tmp 16)=.int .u32 (x 1):=h 1 Zd
 have h2:a'.eval (.tmp 19)=.int .u32 (x 2):=h 2 Zd
 have h3:a'.eval (.tmp 22)=.int .u32 (x 3):=h 3 Zd
 have h4:a'.eval (.tmp 25)=.int .u32 (x 4):=h 4 Zd
 have h5:a'.eval (.tmp 28)=.int .u32 (x 5):=h 5 Zd
 have h6:a'.eval (.tmp 31)=.int .u32 (x 6):=h 6 Zd
 exact YQ (vs:=#[(0,.int .u32 (x 0)),(1,.int .u32 (x 1)),(2,.int .u32 (x 2)),(3,.int .u32 (x 3)),(4,.int .u32 (x 4)),(5,.int .u32 (x 5)),(6,.int .u32 (x 6))]) (by simp [h0,h1,h2,h3,h4,h5,h6]) Zk
set_option maxRecDepth 100000 in
set_option maxHeartbeats 1000000 in
theorem Qy (g cap:Nat) (x:Nat→Int) (w:World) (hg:g<w.heap.size) (hx:∀ j:Nat,j<4→w.cell? ⟨g,j,none⟩=some (.int .u32 (x j))):Calls Tryz.prog 54 #[.slice (some ⟨g,0,none⟩) 4 cap] w fun e w'=>e=.returned (.tuple #[.agg #[.int .u32 (x 0),.int .u32 (x 1),.int .u32 (x 2),.int .u32 (x 3)],.nilIface])∧Below w.heap.size w w':=by
 go_enter Tryz.func54,Tryz.ntmps54
 generalize ha0:(Act.mk _ _)=a0
 have hsz:a0.tmps.size=Tryz.f54.ntmps:=by rw [← ha0];rfl
 replace hsz:a0.tmps.size=24:=hsz.trans Zk
 have hdf:a0.defers=[]:=by rw [← ha0]
 have e0:a0.eval (.tmp 0)=.slice (some ⟨g,0,none⟩) 4 cap:=by rw [← ha0];rfl
 clear ha0
 refine Yw (c:=4) (k:=11) (K:=.u32) (LT:=70) (x:=x) (cells:=#[.int .u32 (x 0),.int .u32 (x 1),.int .u32 (x 2),.int .u32 (x 3)]) (zero:=#[.int .u32 0,.int .u32 0,.int .u32 0,.int .u32 0]) Tryz.underlying154 Zk ZW Tryz.underlying78 rfl Zk ZW rfl ZW rfl ?_ rfl Zk Zk Zk Zk rfl Zk rfl Zd Zo e0 hdf hg hx (fun w' hB=>⟨rfl,hB⟩)
 intro a' o ho h W
 obtain rfl:=Option.some.inj ho
 have h0:a'.eval (.tmp 13)=.int .u32 (x 0):=h 0 Zd
 have h1:a'.eval (.tmp 16)=.int .u32 (x 1):=h 1 Zd
 have h2:a'.eval (.tmp 19)=.int .u32 (x 2):=h 2 Zd
 have h3:a'.eval (.tmp 22)=.int .u32 (x 3):=h 3 Zd
 exact YQ (vs:=#[(0,.int .u32 (x 0)),(1,.int .u32 (x 1)),(2,.int .u32 (x 2)),(3,.int .u32 (x 3))]) (by simp [h0,h1,h2,h3]) Zk
set_option maxRecDepth 100000 in
set_option maxHeartbeats 1000000 in
theorem yaM (g cap:Nat) (x:Nat→Int) (w:World) (hg:g<w.heap.size) (hx:∀ j:Nat,j<3→w.cell? ⟨g,j,none⟩=some (.int .u32 (x j))):Calls Tryz.prog 55 #[.slice (some ⟨g,0,none⟩) 3 cap] w fun e w'=>e=.returned (.tuple #[.agg #[.int .u32 (x 0),.int .u32 (x 1),.int .u32 (x 2)],.nilIface])∧Below w.heap.size w w':=by
 go_enter Tryz.func55,Tryz.ntmps55
 generalize ha0:(Act.mk _ _)=a0
 have hsz:a0.tmps.size=Tryz.f55.ntmps:=by rw [← ha0];rfl
 replace hsz:a0.tmps.size=21:=hsz.trans Zk
 have hdf:a0.defers=[]:=by rw [← ha0]
 have e0:a0.eval (.tmp 0)=.slice (some ⟨g,0,none⟩) 3 cap:=by rw [← ha0];rfl
 clear ha0
 refine Yw (c:=3) (k:=11) (K:=.u32) (LT:=70) (x:=x) (cells:=#[.int .u32 (x 0),.int .u32 (x 1),.int .u32 (x 2)]) (zero:=#[.int .u32 0,.int .u32 0,.int .u32 0]) Tryz.underlying154 Zk ZW Tryz.underlying80 rfl Zk ZW rfl ZW rfl ?_ rfl Zk Zk Zk Zk rfl Zk rfl Zd Zo e0 hdf hg hx (fun w' hB=>⟨rfl,hB⟩)
 intro a' o ho h W
 obtain rfl:=Option.some.inj ho
 have h0:a'.eval (.tmp 13)=.int .u32 (x 0):=h 0 Zd
 have h1:a'.eval (.tmp 16)=.int .u32 (x 1):=h 1 Zd
 have h2:a'.eval (.tmp 19)=.int .u32 (x 2):=h 2 Zd
 exact YQ (vs:=#[(0,.int .u32 (x 0)),(1,.int .u32 (x 1)),(2,.int .u32 (x 2))]) (by simp [h0,h1,h2]) Zk
set_option maxRecDepth 100000 in
set_option maxHeartbeats 1000000 in
theorem yab (g cap:Nat) (x:Nat→Int) (w:World) (hg:g<w.heap.size) (hx:∀ j:Nat,j<7→w.cell? ⟨g,j,none⟩=some (.int .u32 (x j))):Calls Tryz.prog 56 #[.slice (some ⟨g,0,none⟩) 7 cap] w fun e w'=>e=.returned (.tuple #[.agg #[.int .u32 (x 0),.int .u32 (x 1),.int .u32 (x 2),.int .u32 (x 3),.int .u32 (x 4),.int .u32 (x 5),.int .u32 (x 6)],.nilIface])∧Below w.heap.size w w':=by
 go_enter Tryz.func56,Tryz.ntmps56
 generalize ha0:(Act.mk _ _)=a0
 have hsz:a0.tmps.size=Tryz.f56.ntmps:=by rw [← ha0];rfl
 replace hsz:a0.tmps.size=33:=hsz.trans Zk
 have hdf:a0.defers=[]:=by rw [← ha0]
 have e0:a0.eval (.tmp 0)=.slice (some ⟨g,0,none⟩) 7 cap:=by rw [← ha0];rfl
 clear ha0
 refine Yw (c:=7) (k:=11) (K:=.u32) (LT:=70) (x:=x) (cells:=#[.int .u32 (x 0),.int .u32 (x 1),.int .u32 (x 2),.int .u32 (x 3),.int .u32 (x 4),.int .u32 (x 5),.int .u32 (x 6)]) (zero:=#[.int .u32 0,.int .u32 0,.int .u32 0,.int .u32 0,.int .u32 0,.int .u32 0,.int .u32 0]) Tryz.underlying154 Zk ZW Tryz.underlying82 rfl Zk ZW rfl ZW rfl ?_ rfl Zk Zk Zk Zk rfl Zk rfl Zd Zo e0 hdf hg hx (fun w' hB=>⟨rfl,hB⟩)
 intro a' o ho h W
 obtain rfl:=Option.some.inj ho
 have h0:a'.eval (.tmp 13)=.int .u32 (x 0):=h 0 Zd
 have h1:a'.eval (.tmp 16)=.int .u32 (x 1):=h 1 Zd
 have h2:a'.eval (.tmp 19)=.int .u32 (x 2):=h 2 Zd
 have h3:a'.eval (.tmp 22)=.int .u32 (x 3):=h 3 Zd
 have h4:a'.eval (.tmp 25)=.int .u32 (x 4):=h 4 Zd
 have h5:a'.eval (.tmp 28)=.int .u32 (x 5):=h 5 Zd
 have h6:a'.eval (.tmp 31)=.int .u32 (x 6):=h 6 Zd
 exact YQ (vs:=#[(0,.int .u32 (x 0)),(1,.int .u32 (x 1)),(2,.int .u32 (x 2)),(3,.int .u32 (x 3)),(4,.int .u32 (x 4)),(5,.int .u32 (x 5)),(6,.int .u32 (x 6))]) (by simp [h0,h1,h2,h3,h4,h5,h6]) Zk
set_option maxRecDepth 100000 in
set_option maxHeartbeats 1000000 in
theorem yaF (g cap:Nat) (x:Nat→Int) (w:World) (hg:g<w.heap.size) (hx:∀ j:Nat,j<5→w.cell? ⟨g,j,none⟩=some (.int .u32 (x j))):Calls Tryz.prog 57 #[.slice (some ⟨g,0,none⟩) 5 cap] w fun e w'=>e=.returned (.tuple #[.agg #[.int .u32 (x 0),.int .u32 (x 1),.int .u32 (x 2),.int .u32 (x 3),.int .u32 (x 4)],.nilIface])∧Below w.heap.size w w':=by
 go_enter Tryz.func57,Tryz.ntmps57
 generalize ha0:(Act.mk _ _)=a0
 have hsz:a0.tmps.size=Tryz.f57.ntmps:=by rw [← ha0];rfl
 replace hsz:a0.tmps.size=27:=hsz.trans Zk
 have hdf:a0.defers=[]:=by rw [← ha0]
 have e0:a0.eval (.tmp 0)=.slice (some ⟨g,0,none⟩) 5 cap:=by rw [← ha0];rfl
 clear ha0
 refine Yw (c:=5) (k:=11) (K:=.u32) (LT:=70) (x:=x) (cells:=#[.int .u32 (x 0),.int .u32 (x 1),.int .u32 (x 2),.int .u32 (x 3),.int .u32 (x 4)]) (zero:=#[.int .u32 0,.int .u32 0,.int .u32 0,.int .u32 0,.int .u32 0]) Tryz.underlying154 Zk ZW Tryz.underlying84 rfl Zk ZW rfl ZW rfl ?_ rfl Zk Zk Zk Zk rfl Zk rfl Zd Zo e0 hdf hg hx (fun w' hB=>⟨rfl,hB⟩)
 intro a' o ho h W
 obtain rfl:=Option.some.inj ho
 have h0:a'.eval (.tmp 13)=.int .u32 (x 0):=h 0 Zd
 have h1:a'.eval (.tmp 16)=.int .u32 (x 1):=h 1 Zd
 have h2:a'.eval (.tmp 19)=.int .u32 (x 2):=h 2 Zd
 have h3:a'.eval (.tmp 22)=.int .u32 (x 3):=h 3 Zd
 have h4:a'.eval (.tmp 25)=.int .u32 (x 4):=h 4 Zd
 exact YQ (vs:=#[(0,.int .u32 (x 0)),(1,.int .u32 (x 1)),(2,.int .u32 (x 2)),(3,.int .u32 (x 3)),(4,.int .u32 (x 4))]) (by simp [h0,h1,h2,h3,h4]) Zk
set_option maxRecDepth 100000 in
set_option maxHeartbeats 1000000 in
theorem ybm (g cap:Nat) (x:Nat→Int) (w:World) (hg:g<w.heap.size) (hx:∀ j:Nat,j<2→w.cell? ⟨g,j,none⟩=some (.int .u32 (x j))):Calls Tryz.prog 58 #[.slice (some ⟨g,0,none⟩) 2 cap] w fun e w'=>e=.returned (.tuple #[.agg #[.int .u32 (x 0),.int .u32 (x 1)],.nilIface])∧Below w.heap.size w w':=by
 go_enter Tryz.func58,Tryz.ntmps58
 generalize ha0:(Act.mk _ _)=a0
 have hsz:a0.tmps.size=Tryz.f58.ntmps:=by rw [← ha0];rfl
 replace hsz:a0.tmps.size=18:=hsz.trans Zk
 have hdf:a0.defers=[]:=by rw [← ha0]
 have e0:a0.eval (.tmp 0)=.slice (some ⟨g,0,none⟩) 2 cap:=by rw [← ha0];rfl
 clear ha0
 refine Yw (c:=2) (k:=11) (K:=.u32) (LT:=70) (x:=x) (cells:=#[.int .u32 (x 0),.int .u32 (x 1)]) (zero:=#[.int .u32 0,.int .u32 0]) Tryz.underlying154 Zk ZW Tryz.underlying86 rfl Zk ZW rfl ZW rfl ?_ rfl Zk Zk Zk Zk rfl Zk rfl Zd Zo e0 hdf hg hx (fun w' hB=>⟨rfl,hB⟩)
 intro a' o ho h W
 obtain rfl:=Option.some.inj ho
 have h0:a'.eval (.tmp 13)=.int .u32 (x 0):=h 0 Zd
 have h1:a'.eval (.tmp 16)=.int .u32 (x 1):=h 1 Zd
 exact YQ (vs:=#[(0,.int .u32 (x 0)),(1,.int .u32 (x 1))]) (by simp [h0,h1]) Zk
set_option maxRecDepth 100000 in
set_option maxHeartbeats 1000000 in
theorem Qv (g cap:Nat) (x:Nat→Int) (w:World) (hg:g<w.heap.size) (hx:∀ j:Nat,j<4→w.cell? ⟨g,j,none⟩=some (.int .u32 (x j))):Calls Tryz.prog 59 #[.slice (some ⟨g,0,none⟩) 4 cap] w fun e w'=>e=.returned (.tuple #[.agg #[.int .u32 (x 0),.int .u32 (x 1),.int .u32 (x 2),.int .u32 (x 3)],.nilIface])∧Below w.heap.size w w':=by
 go_enter Tryz.func59,Tryz.ntmps59
 generalize ha0:(Act.mk _ _)=a0
 have hsz:a0.tmps.size=Tryz.f59.ntmps:=by rw [← ha0];rfl
 replace hsz:a0.tmps.size=24:=hsz.trans Zk
 have hdf:a0.defers=[]:=by rw [← ha0]
 have e0:a0.eval (.tmp 0)=.slice (some ⟨g,0,none⟩) 4 cap:=by rw [← ha0];rfl
 clear ha0
 refine Yw (c:=4) (k:=11) (K:=.u32) (LT:=70) (x:=x) (cells:=#[.int .u32 (x 0),.int .u32 (x 1),.int .u32 (x 2),.int .u32 (x 3)]) (zero:=#[.int .u32 0,.int .u32 0,.int .u32 0,.int .u32 0]) Tryz.underlying154 Zk ZW Tryz.underlying88 rfl Zk ZW rfl ZW rfl ?_ rfl Zk Zk Zk Zk rfl Zk rfl Zd Zo e0 hdf hg hx (fun w' hB=>⟨rfl,hB⟩)
 intro a' o ho h W
 obtain rfl:=Option.some.inj ho
 have h0:a'.eval (.tmp 13)=.int .u32 (x 0):=h 0 Zd
 have h1:a'.eval (.tmp 16)=.int .u32 (x 1):=h 1 Zd
 have h2:a'.eval (.tmp 19)=.int .u32 (x 2):=h 2 Zd
 have h3:a'.eval (.tmp 22)=.int .u32 (x 3):=h 3 Zd
 exact YQ (vs:=#[(0,.int .u32 (x 0)),(1,.int .u32 (x 1)),(2,.int .u32 (x 2)),(3,.int .u32 (x 3))]) (by simp [h0,h1,h2,h3]) Zk
set_option maxRecDepth 100000 in
set_option maxHeartbeats 1000000 in
theorem QU (g cap:Nat) (x:Nat→Int) (w:World) (hg:g<w.heap.size) (hx:∀ j:Nat,j<3→w.cell? ⟨g,j,none⟩=some (.int .u32 (x j))):Calls Tryz.prog 60 #[.slice (some ⟨g,0,none⟩) 3 cap] w fun e w'=>e=.returned (.tuple #[.agg #[.int .u32 (x 0),.int .u32 (x 1),.int .u32 (x 2)],.nilIface])∧Below w.heap.size w w':=by
 go_enter Tryz.func60,Tryz.ntmps60
 generalize ha0:(Act.mk _ _)=a0
 have hsz:a0.tmps.size=Tryz.f60.ntmps:=by rw [← ha0];rfl
 replace hsz:a0.tmps.size=21:=hsz.trans Zk
 have hdf:a0.defers=[]:=by rw [← ha0]
 have e0:a0.eval (.tmp 0)=.slice (some ⟨g,0,none⟩) 3 cap:=by rw [← ha0];rfl
 clear ha0
 refine Yw (c:=3) (k:=11) (K:=.u32) (LT:=70) (x:=x) (cells:=#[.int .u32 (x 0),.int .u32 (x 1),.int .u32 (x 2)]) (zero:=#[.int .u32 0,.int .u32 0,.int .u32 0]) Tryz.underlying154 Zk ZW Tryz.underlying90 rfl Zk ZW rfl ZW rfl ?_ rfl Zk Zk Zk Zk rfl Zk rfl Zd Zo e0 hdf hg hx (fun w' hB=>⟨rfl,hB⟩)
 intro a' o ho h W
 obtain rfl:=Option.some.inj ho
 have h0:a'.eval (.tmp 13)=.int .u32 (x 0):=h 0 Zd
 have h1:a'.eval (.tmp 16)=.int .u32 (x 1):=h 1 Zd
 have h2:a'.eval (.tmp 19)=.int .u32 (x 2):=h 2 Zd
 exact YQ (vs:=#[(0,.int .u32 (x 0)),(1,.int .u32 (x 1)),(2,.int .u32 (x 2))]) (by simp [h0,h1,h2]) Zk
set_option maxRecDepth 100000 in
set_option maxHeartbeats 1000000 in
theorem yb7 (g cap:Nat) (x:Nat→Int) (w:World) (hg:g<w.heap.size) (hx:∀ j:Nat,j<9→w.cell? ⟨g,j,none⟩=some (.int .u32 (x j))):Calls Tryz.prog 62 #[.slice (some ⟨g,0,none⟩) 9 cap] w fun e w'=>e=.returned (.tuple #[.agg #[.int .u32 (x 0),.int .u32 (x 1),.int .u32 (x 2),.int .u32 (x 3),.int .u32 (x 4),.int .u32 (x 5),.int .u32 (x 6),.int .u32 (x 7),.int .u32 (x 8)],.nilIface])∧Below w.heap.size w w':=by
 go_enter Tryz.func62,Tryz.ntmps62
 generalize ha0:(Act.mk _ _)=a0
 have hsz:a0.tmps.size=Tryz.f62.ntmps:=by rw [← ha0];rfl
 replace hsz:a0.tmps.size=39:=hsz.trans Zk
 have hdf:a0.defers=[]:=by rw [← ha0]
 have e0:a0.eval (.tmp 0)=.slice (some ⟨g,0,none⟩) 9 cap:=by rw [← ha0];rfl
 clear ha0
 refine Yw (c:=9) (k:=11) (K:=.u32) (LT:=70) (x:=x) (cells:=#[.int .u32 (x 0),.int .u32 (x 1),.int .u32 (x 2),.int .u32 (x 3),.int .u32 (x 4),.int .u32 (x 5),.int .u32 (x 6),.int .u32 (x 7),.int .u32 (x 8)]) (zero:=#[.int .u32 0,.int .u32 0,.int .u32 0,.int .u32 0,.int .u32 0,.int .u32 0,.int .u32 0,.int .u32 0,.int .u32 0]) Tryz.underlying154 Zk ZW Tryz.underlying94 rfl Zk ZW rfl ZW rfl ?_ rfl Zk Zk Zk Zk rfl Zk rfl Zd Zo e0 hdf hg hx (fun w' hB=>⟨rfl,hB⟩)
 intro a' o ho h W
 obtain rfl:=Option.some.inj ho
 have h0:a'.eval (.tmp 13)=.int .u32 (x 0):=h 0 Zd
 have h1:a'.eval (.tmp 16)=.int .u32 (x 1):=h 1 Zd
 have h2:a'.eval (.tmp 19)=.int .u32 (x 2):=h 2 Zd
 have h3:a'.eval (.tmp 22)=.int .u32 (x 3):=h 3 Zd
 have h4:a'.eval (.tmp 25)=.int .u32 (x 4):=h 4 Zd
 have h5:a'.eval (.tmp 28)=.int .u32 (x 5):=h 5 Zd
 have h6:a'.eval (.tmp 31)=.int .u32 (x 6):=h 6 Zd
 have h7:a'.eval (.tmp 34)=.int .u32 (x 7):=h 7 Zd
 have h8:a'.eval (.tmp 37)=.int .u32 (x 8):=h 8 Zd
 exact YQ (vs:=#[(0,.int .u32 (x 0)),(1,.int .u32 (x 1)),(2,.int .u32 (x 2)),(3,.int .u32 (x 3)),(4,.int .u32 (x 4)),(5,.int .u32 (x 5)),(6,.int .u32 (x 6)),(7,.int .u32 (x 7)),(8,.int .u32 (x 8))]) (by simp [h0,h1,h2,h3,h4,h5,h6,h7,h8]) Zk
set_option maxRecDepth 100000 in
set_option maxHeartbeats 1000000 in
theorem yb2 (g cap:Nat) (x:Nat→Int) (w:World) (hg:g<w.heap.size) (hx:∀ j:Nat,j<10→w.cell? ⟨g,j,none⟩=some (.int .u32 (x j))):Calls Tryz.prog 63 #[.slice (some ⟨g,0,none⟩) 10 cap] w fun e w'=>e=.returned (.tuple #[.agg #[.int .u32 (x 0),.int .u32 (x 1),.int .u32 (x 2),.int .u32 (x 3),.int .u32 (x 4),.int .u32 (x 5),.int .u32 (x 6),.int .u32 (x 7),.int .u32 (x 8),.int .u32 (x 9)],.nilIface])∧Below w.heap.size w w':=by
 go_enter Tryz.func63,Tryz.ntmps63
 generalize ha0:(Act.mk _ _)=a0
 have hsz:a0.tmps.size=Tryz.f63.ntmps:=by rw [← ha0];rfl
 replace hsz:a0.tmps.size=42:=hsz.trans Zk
 have hdf:a0.defers=[]:=by rw [← ha0]
 have e0:a0.eval (.tmp 0)=.slice (some ⟨g,0,none⟩) 10 cap:=by rw [← ha0];rfl
 clear ha0
 refine Yw (c:=10) (k:=11) (K:=.u32) (LT:=70) (x:=x) (cells:=#[.int .u32 (x 0),.int .u32 (x 1),.int .u32 (x 2),.int .u32 (x 3),.int .u32 (x 4),.int .u32 (x 5),.int .u32 (x 6),.int .u32 (x 7),.int .u32 (x 8),.int .u32 (x 9)]) (zero:=#[.int .u32 0,.int .u32 0,.int .u32 0,.int .u32 0,.int .u32 0,.int .u32 0,.int .u32 0,.int .u32 0,.int .u32 0,.int .u32 0]) Tryz.underlying154 Zk ZW Tryz.underlying100 rfl Zk ZW rfl ZW rfl ?_ rfl Zk Zk Zk Zk rfl Zk rfl Zd Zo e0 hdf hg hx (fun w' hB=>⟨rfl,hB⟩)
 intro a' o ho h W
 obtain rfl:=Option.some.inj ho
 have h0:a'.eval (.tmp 13)=.int .u32 (x 0):=h 0 Zd
 have h1:a'.eval (.tmp 16)=.int .u32 (x 1):=h 1 Zd
 have h2:a'.eval (.tmp 19)=.int .u32 (x 2):=h 2 Zd
 have h3:a'.eval (.tmp 22)=.int .u32 (x 3):=h 3 Zd
 have h4:a'.eval (.tmp 25)=.int .u32 (x 4):=h 4 Zd
 have h5:a'.eval (.tmp 28)=.int .u32 (x 5):=h 5 Zd
 have h6:a'.eval (.tmp 31)=.int .u32 (x 6):=h 6 Zd
 have h7:a'.eval (.tmp 34)=.int .u32 (x 7):=h 7 Zd
 have h8:a'.eval (.tmp 37)=.int .u32 (x 8):=h 8 Zd
 have h9:a'.eval (.tmp 40)=.int .u32 (x 9):=h 9 Zd
 exact YQ (vs:=#[(0,.int .u32 (x 0)),(1,.int .u32 (x 1)),(2,.int .u32 (x 2)),(3,.int .u32 (x 3)),(4,.int .u32 (x 4)),(5,.int .u32 (x 5)),(6,.int .u32 (x 6)),(7,.int .u32 (x 7)),(8,.int .u32 (x 8)),(9,.int .u32 (x 9))]) (by simp [h0,h1,h2,h3,h4,h5,h6,h7,h8,h9]) Zk
set_option maxRecDepth 100000 in
set_option maxHeartbeats 1000000 in
theorem ycn (g cap:Nat) (x:Nat→Int) (w:World) (hg:g<w.heap.size) (hx:∀ j:Nat,j<2→w.cell? ⟨g,j,none⟩=some (.int .u32 (x j))):Calls Tryz.prog 64 #[.slice (some ⟨g,0,none⟩) 2 cap] w fun e w'=>e=.returned (.tuple #[.agg #[.int .u32 (x 0),.int .u32 (x 1)],.nilIface])∧Below w.heap.size w w':=by
 go_enter Tryz.func64,Tryz.ntmps64
 generalize ha0:(Act.mk _ _)=a0
 have hsz:a0.tmps.size=Tryz.f64.ntmps:=by rw [← ha0];rfl
 replace hsz:a0.tmps.size=18:=hsz.trans Zk
 have hdf:a0.defers=[]:=by rw [← ha0]
 have e0:a0.eval (.tmp 0)=.slice (some ⟨g,0,none⟩) 2 cap:=by rw [← ha0];rfl
 clear ha0
 refine Yw (c:=2) (k:=11) (K:=.u32) (LT:=70) (x:=x) (cells:=#[.int .u32 (x 0),.int .u32 (x 1)]) (zero:=#[.int .u32 0,.int .u32 0]) Tryz.underlying154 Zk ZW Tryz.underlying98 rfl Zk ZW rfl ZW rfl ?_ rfl Zk Zk Zk Zk rfl Zk rfl Zd Zo e0 hdf hg hx (fun w' hB=>⟨rfl,hB⟩)
 intro a' o ho h W
 obtain rfl:=Option.some.inj ho
 have h0:a'.eval (.tmp 13)=.int .u32 (x 0):=h 0 Zd
 have h1:a'.eval (.tmp 16)=.int .u32 (x 1):=h 1 Zd
 exact YQ (vs:=#[(0,.int .u32 (x 0)),(1,.int .u32 (x 1))]) (by simp [h0,h1]) Zk
set_option maxRecDepth 100000 in
set_option maxHeartbeats 1000000 in
theorem QE (g cap:Nat) (x:Nat→Int) (w:World) (hg:g<w.heap.size) (hx:∀ j:Nat,j<15→w.cell? ⟨g,j,none⟩=some (.int .u32 (x j))):Calls Tryz.prog 65 #[.slice (some ⟨g,0,none⟩) 15 cap] w fun e w'=>e=.returned (.tuple #[.agg #[.int .u32 (x 0),.int .u32 (x 1),.int .u32 (x 2),.int .u32 (x 3),.int .u32 (x 4),.int .u32 (x 5),.int .u32 (x 6),.int .u32 (x 7),.int .u32 (x 8),.int .u32 (x 9),.int .u32 (x 10),.int .u32 (x 11),.int .u32 (x 12),.int .u32 (x 13),.int .u32 (x 14)],.nilIface])∧Below w.heap.size w w':=by
 go_enter Tryz.func65,Tryz.ntmps65
 generalize ha0:(Act.mk _ _)=a0
 have hsz:a0.tmps.size=Tryz.f65.ntmps:=by rw [← ha0];rfl
 replace hsz:a0.tmps.size=57:=hsz.trans Zk
 have hdf:a0.defers=[]:=by rw [← ha0]
 have e0:a0.eval (.tmp 0)=.slice (some ⟨g,0,none⟩) 15 cap:=by rw [← ha0];rfl
 clear ha0
 refine Yw (c:=15) (k:=11) (K:=.u32) (LT:=70) (x:=x) (cells:=#[.int .u32 (x 0),.int .u32 (x 1),.int .u32 (x 2),.int .u32 (x 3),.int .u32 (x 4),.int .u32 (x 5),.int .u32 (x 6),.int .u32 (x 7),.int .u32 (x 8),.int .u32 (x 9),.int .u32 (x 10),.int .u32 (x 11),.int .u32 (x 12),.int .u32 (x 13),.int .u32 (x 14)]) (zero:=#[.int .u32 0,.int .u32 0,.int .u32 0,.int .u32 0,.int .u32 0,.int .u32 0,.int .u32 0,.int .u32 0,.int .u32 0,.int .u32 0,.int .u32 0,.int .u32 0,.int .u32 0,.int .u32 0,.int .u32 0]) Tryz.underlying154 Zk ZW Tryz.underlying106 rfl Zk ZW rfl ZW rfl ?_ rfl Zk Zk Zk Zk rfl Zk rfl Zd Zo e0 hdf hg hx (fun w' hB=>⟨rfl,hB⟩)
 intro a' o ho h W
 obtain rfl:=Option.some.inj ho
 have h0:a'.eval (.tmp 13)=.int .u32 (x 0):=h 0 Zd
 have h1:a'.eval (.tmp 16)=.int .u32 (x 1):=h 1 Zd
 have h2:a'.eval (.tmp 19)=.int .u32 (x 2):=h 2 Zd
 have h3:a'.eval (.tmp 22)=.int .u32 (x 3):=h 3 Zd
 have h4:a'.eval (.tmp 25)=.int .u32 (x 4):=h 4 Zd
 have h5:a'.eval (.tmp 28)=.int .u32 (x 5):=h 5 Zd
 have h6:a'.eval (.tmp 31)=.int .u32 (x 6):=h 6 Zd
 have h7:a'.eval (.tmp 34)=.int .u32 (x 7):=h 7 Zd
 have h8:a'.eval (.tmp 37)=.int .u32 (x 8):=h 8 Zd
 have h9:a'.eval (.tmp 40)=.int .u32 (x 9):=h 9 Zd
 have h10:a'.eval (.tmp 43)=.int .u32 (x 10):=h 10 Zd
 have h11:a'.eval (.tmp 46)=.int .u32 (x 11):=h 11 Zd
 have h12:a'.eval (.tmp 49)=.int .u32 (x 12):=h 12 Zd
 have h13:a'.eval (.tmp 52)=.int .u32 (x 13):=h 13 Zd
 have h14:a'.eval (.tmp 55)=.int .u32 (x 14):=h 14 Zd
 exact YQ (vs:=#[(0,.int .u32 (x 0)),(1,.int .u32 (x 1)),(2,.int .u32 (x 2)),(3,.int .u32 (x 3)),(4,.int .u32 (x 4)),(5,.int .u32 (x 5)),(6,.int .u32 (x 6)),(7,.int .u32 (x 7)),(8,.int .u32 (x 8)),(9,.int .u32 (x 9)),(10,.int .u32 (x 10)),(11,.int .u32 (x 11)),(12,.int .u32 (x 12)),(13,.int .u32 (x 13)),(14,.int .u32 (x 14))]) (by simp [h0,h1,h2,h3,h4,h5,h6,h7,h8,h9,h10,h11,h12,h13,h14]) Zk
set_option maxRecDepth 100000 in
set_option maxHeartbeats 1000000 in
theorem QA (g cap:Nat) (x:Nat→Int) (w:World) (hg:g<w.heap.size) (hx:∀ j:Nat,j<15→w.cell? ⟨g,j,none⟩=some (.int .u32 (x j))):Calls Tryz.prog 66 #[.slice (some ⟨g,0,none⟩) 15 cap] w fun e w'=>e=.returned (.tuple #[.agg #[.int .u32 (x 0),.int .u32 (x 1),.int .u32 (x 2),.int .u32 (x 3),.int .u32 (x 4),.int .u32 (x 5),.int .u32 (x 6),.int .u32 (x 7),.int .u32 (x 8),.int .u32 (x 9),.int .u32 (x 10),.int .u32 (x 11),.int .u32 (x 12),.int .u32 (x 13),.int .u32 (x 14)],.nilIface])∧Below w.heap.size w w':=by
 go_enter Tryz.func66,Tryz.ntmps66
 generalize ha0:(Act.mk _ _)=a0
 have hsz:a0.tmps.size=Tryz.f66.ntmps:=by rw [← ha0];rfl
 replace hsz:a0.tmps.size=57:=hsz.trans Zk
 have hdf:a0.defers=[]:=by rw [← ha0]
 have e0:a0.eval (.tmp 0)=.slice (some ⟨g,0,none⟩) 15 cap:=by rw [← ha0];rfl
 clear ha0
 refine Yw (c:=15) (k:=11) (K:=.u32) (LT:=70) (x:=x) (cells:=#[.int .u32 (x 0),.int .u32 (x 1),.int .u32 (x 2),.int .u32 (x 3),.int .u32 (x 4),.int .u32 (x 5),.int .u32 (x 6),.int .u32 (x 7),.int .u32 (x 8),.int .u32 (x 9),.int .u32 (x 10),.int .u32 (x 11),.int .u32 (x 12),.int .u32 (x 13),.int .u32 (x 14)]) (zero:=#[.int .u32 0,.int .u32 0,.int .u32 0,.int .u32 0,.int .u32 0,.int .u32 0,.int .u32 0,.int .u32 0,.int .u32 0,.int .u32 0,.int .u32 0,.int .u32 0,.int .u32 0,.int .u32 0,.int .u32 0]) Tryz.underlying154 Zk ZW Tryz.underlying107 rfl Zk ZW rfl ZW rfl ?_ rfl Zk Zk Zk Zk rfl Zk rfl Zd Zo e0 hdf hg hx (fun w' hB=>⟨rfl,hB⟩)
 intro a' o ho h W
 obtain rfl:=Option.some.inj ho
 have h0:a'.eval (.tmp 13)=.int .u32 (x 0):=h 0 Zd
 have h1:a'.eval (.tmp 16)=.int .u32 (x 1):=h 1 Zd
 have h2:a'.eval (.tmp 19)=.int .u32 (x 2):=h 2 Zd
 have h3:a'.eval (.tmp 22)=.int .u32 (x 3):=h 3 Zd
 have h4:a'.eval (.tmp 25)=.int .u32 (x 4):=h 4 Zd
 have h5:a'.eval (.tmp 28)=.int .u32 (x 5):=h 5 Zd
 have h6:a'.eval (.tmp 31)=.int .u32 (x 6):=h 6 Zd
 have h7:a'.eval (.tmp 34)=.int .u32 (x 7):=h 7 Zd
 have h8:a'.eval (.tmp 37)=.int .u32 (x 8):=h 8 Zd
 have h9:a'.eval (.tmp 40)=.int .u32 (x 9):=h 9 Zd
 have h10:a'.eval (.tmp 43)=.int .u32 (x 10):=h 10 Zd
 have h11:a'.eval (.tmp 46)=.int .u32 (x 11):=h 11 Zd
 have h12:a'.eval (.tmp 49)=.int .u32 (x 12):=h 12 Zd
 have h13:a'.eval (.tmp 52)=.int .u32 (x 13):=h 13 Zd
 have h14:a'.eval (.tmp 55)=.int .u32 (x 14):=h 14 Zd
 exact YQ (vs:=#[(0,.int .u32 (x 0)),(1,.int .u32 (x 1)),(2,.int .u32 (x 2)),(3,.int .u32 (x 3)),(4,.int .u32 (x 4)),(5,.int .u32 (x 5)),(6,.int .u32 (x 6)),(7,.int .u32 (x 7)),(8,.int .u32 (x 8)),(9,.int .u32 (x 9)),(10,.int .u32 (x 10)),(11,.int .u32 (x 11)),(12,.int .u32 (x 12)),(13,.int .u32 (x 13)),(14,.int .u32 (x 14))]) (by simp [h0,h1,h2,h3,h4,h5,h6,h7,h8,h9,h10,h11,h12,h13,h14]) Zk
set_option maxRecDepth 100000 in
set_option maxHeartbeats 1000000 in
theorem yac (g cap:Nat) (x:Nat→Int) (w:World) (hg:g<w.heap.size) (hx:∀ j:Nat,j<15→w.cell? ⟨g,j,none⟩=some (.int .u32 (x j))):Calls Tryz.prog 67 #[.slice (some ⟨g,0,none⟩) 15 cap] w fun e w'=>e=.returned (.tuple #[.agg #[.int .u32 (x 0),.int .u32 (x 1),.int .u32 (x 2),.int .u32 (x 3),.int .u32 (x 4),.int .u32 (x 5),.int .u32 (x 6),.int .u32 (x 7),.int .u32 (x 8),.int .u32 (x 9),.int .u32 (x 10),.int .u32 (x 11),.int .u32 (x 12),.int .u32 (x 13),.int .u32 (x 14)],.nilIface])∧Below w.heap.size w w':=by
 go_enter Tryz.func67,Tryz.ntmps67
 generalize ha0:(Act.mk _ _)=a0
 have hsz:a0.tmps.size=Tryz.f67.ntmps:=by rw [← ha0];rfl
 replace hsz:a0.tmps.size=57:=hsz.trans Zk
 have hdf:a0.defers=[]:=by rw [← ha0]
 have e0:a0.eval (.tmp 0)=.slice (some ⟨g,0,none⟩) 15 cap:=by rw [← ha0];rfl
 clear ha0
 refine Yw (c:=15) (k:=11) (K:=.u32) (LT:=70) (x:=x) (cells:=#[.int .u32 (x 0),.int .u32 (x 1),.int .u32 (x 2),.int .u32 (x 3),.int .u32 (x 4),.int .u32 (x 5),.int .u32 (x 6),.int .u32 (x 7),.int .u32 (x 8),.int .u32 (x 9),.int .u32 (x 10),.int .u32 (x 11),.int .u32 (x 12),.int .u32 (x 13),.int .u32 (x 14)]) (zero:=#[.int .u32 0,.int .u32 0,.int .u32 0,.int .u32 0,.int .u32 0,.int .u32 0,.int .u32 0,.int .u32 0,.int .u32 0,.int .u32 0,.int .u32 0,.int .u32 0,.int .u32 0,.int .u32 0,.int .u32 0]) Tryz.underlying154 Zk ZW Tryz.underlying108 rfl Zk ZW rfl ZW rfl ?_ rfl Zk Zk Zk Zk rfl Zk rfl Zd Zo e0 hdf hg hx (fun w' hB=>⟨rfl,hB⟩)
 intro a' o ho h W
 obtain rfl:=Option.some.inj ho
 have h0:a'.eval (.tmp 13)=.int .u32 (x 0):=h 0 Zd
 have h1:a'.eval (.tmp 16)=.int .u32 (x 1):=h 1 Zd
 have h2:a'.eval (.tmp 19)=.int .u32 (x 2):=h 2 Zd
 have h3:a'.eval (.tmp 22)=.int .u32 (x 3):=h 3 Zd
 have h4:a'.eval (.tmp 25)=.int .u32 (x 4):=h 4 Zd
 have h5:a'.eval (.tmp 28)=.int .u32 (x 5):=h 5 Zd
 have h6:a'.eval (.tmp 31)=.int .u32 (x 6):=h 6 Zd
 have h7:a'.eval (.tmp 34)=.int .u32 (x 7):=h 7 Zd
 have h8:a'.eval (.tmp 37)=.int .u32 (x 8):=h 8 Zd
 have h9:a'.eval (.tmp 40)=.int .u32 (x 9):=h 9 Zd
 have h10:a'.eval (.tmp 43)=.int .u32 (x 10):=h 10 Zd
 have h11:a'.eval (.tmp 46)=.int .u32 (x 11):=h 11 Zd
 have h12:a'.eval (.tmp 49)=.int .u32 (x 12):=h 12 Zd
 have h13:a'.eval (.tmp 52)=.int .u32 (x 13):=h 13 Zd
 have h14:a'.eval (.tmp 55)=.int .u32 (x 14):=h 14 Zd
 exact YQ (vs:=#[(0,.int .u32 (x 0)),(1,.int .u32 (x 1)),(2,.int .u32 (x 2)),(3,.int .u32 (x 3)),(4,.int .u32 (x 4)),(5,.int .u32 (x 5)),(6,.int .u32 (x 6)),(7,.int .u32 (x 7)),(8,.int .u32 (x 8)),(9,.int .u32 (x 9)),(10,.int .u32 (x 10)),(11,.int .u32 (x 11)),(12,.int .u32 (x 12)),(13,.int .u32 (x 13)),(14,.int .u32 (x 14))]) (by simp [h0,h1,h2,h3,h4,h5,h6,h7,h8,h9,h10,h11,h12,h13,h14]) Zk
set_option maxRecDepth 100000 in
set_option maxHeartbeats 1000000 in
theorem yaK (g cap:Nat) (x:Nat→Int) (w:World) (hg:g<w.heap.size) (hx:∀ j:Nat,j<15→w.cell? ⟨g,j,none⟩=some (.int .u32 (x j))):Calls Tryz.prog 68 #[.slice (some ⟨g,0,none⟩) 15 cap] w fun e w'=>e=.returned (.tuple #[.agg #[.int .u32 (x 0),.int .u32 (x 1),.int .u32 (x 2),.int .u32 (x 3),.int .u32 (x 4),.int .u32 (x 5),.int .u32 (x 6),.int .u32 (x 7),.int .u32 (x 8),.int .u32 (x 9),.int .u32 (x 10),.int .u32 (x 11),.int .u32 (x 12),.int .u32 (x 13),.int .u32 (x 14)],.nilIface])∧Below w.heap.size w w':=by
 go_enter Tryz.func68,Tryz.ntmps68
 generalize ha0:(Act.mk _ _)=a0
 have hsz:a0.tmps.size=Tryz.f68.ntmps:=by rw [← ha0];rfl
 replace hsz:a0.tmps.size=57:=hsz.trans Zk
 have hdf:a0.defers=[]:=by rw [← ha0]
 have e0:a0.eval (.tmp 0)=.slice (some ⟨g,0,none⟩) 15 cap:=by rw [← ha0];rfl
 clear ha0
 refine Yw (c:=15) (k:=11) (K:=.u32) (LT:=70) (x:=x) (cells:=#[.int .u32 (x 0),.int .u32 (x 1),.int .u32 (x 2),.int .u32 (x 3),.int .u32 (x 4),.int .u32 (x 5),.int .u32 (x 6),.int .u32 (x 7),.int .u32 (x 8),.int .u32 (x 9),.int .u32 (x 10),.int .u32 (x 11),.int .u32 (x 12),.int .u32 (x 13),.int .u32 (x 14)]) (zero:=#[.int .u32 0,.int .u32 0,.int .u32 0,.int .u32 0,.int .u32 0,.int .u32 0,.int .u32 0,.int .u32 0,.int .u32 0,.int .u32 0,.int .u32 0,.int .u32 0,.int .u32 0,.int .u32 0,.int .u32 0]) Tryz.underlying154 Zk ZW Tryz.underlying109 rfl Zk ZW rfl ZW rfl ?_ rfl Zk Zk Zk Zk rfl Zk rfl Zd Zo e0 hdf hg hx (fun w' hB=>⟨rfl,hB⟩)
 intro a' o ho h W
 obtain rfl:=Option.some.inj ho
 have h0:a'.eval (.tmp 13)=.int .u32 (x 0):=h 0 Zd
 have h1:a'.eval (.tmp 16)=.int .u32 (x 1):=h 1 Zd
 have h2:a'.eval (.tmp 19)=.int .u32 (x 2):=h 2 Zd
 have h3:a'.eval (.tmp 22)=.int .u32 (x 3):=h 3 Zd
 have h4:a'.eval (.tmp 25)=.int .u32 (x 4):=h 4 Zd
 have h5:a'.eval (.tmp 28)=.int .u32 (x 5):=h 5 Zd
 have h6:a'.eval (.tmp 31)=.int .u32 (x 6):=h 6 Zd
 have h7:a'.eval (.tmp 34)=.int .u32 (x 7):=h 7 Zd
 have h8:a'.eval (.tmp 37)=.int .u32 (x 8):=h 8 Zd
 have h9:a'.eval (.tmp 40)=.int .u32 (x 9):=h 9 Zd
 have h10:a'.eval (.tmp 43)=.int .u32 (x 10):=h 10 Zd
 have h11:a'.eval (.tmp 46)=.int .u32 (x 11):=h 11 Zd
 have h12:a'.eval (.tmp 49)=.int .u32 (x 12):=h 12 Zd
 have h13:a'.eval (.tmp 52)=.int .u32 (x 13):=h 13 Zd
 have h14:a'.eval (.tmp 55)=.int .u32 (x 14):=h 14 Zd
 exact YQ (vs:=#[(0,.int .u32 (x 0)),(1,.int .u32 (x 1)),(2,.int .u32 (x 2)),(3,.int .u32 (x 3)),(4,.int .u32 (x 4)),(5,.int .u32 (x 5)),(6,.int .u32 (x 6)),(7,.int .u32 (x 7)),(8,.int .u32 (x 8)),(9,.int .u32 (x 9)),(10,.int .u32 (x 10)),(11,.int .u32 (x 11)),(12,.int .u32 (x 12)),(13,.int .u32 (x 13)),(14,.int .u32 (x 14))]) (by simp [h0,h1,h2,h3,h4,h5,h6,h7,h8,h9,h10,h11,h12,h13,h14]) Zk
set_option maxRecDepth 100000 in
set_option maxHeartbeats 1000000 in
theorem QZ (g cap:Nat) (x:Nat→Int) (w:World) (hg:g<w.heap.size) (hx:∀ j:Nat,j<15→w.cell? ⟨g,j,none⟩=some (.int .u32 (x j))):Calls Tryz.prog 69 #[.slice (some ⟨g,0,none⟩) 15 cap] w fun e w'=>e=.returned (.tuple #[.agg #[.int .u32 (x 0),.int .u32 (x 1),.int .u32 (x 2),.int .u32 (x 3),.int .u32 (x 4),.int .u32 (x 5),.int .u32 (x 6),.int .u32 (x 7),.int .u32 (x 8),.int .u32 (x 9),.int .u32 (x 10),.int .u32 (x 11),.int .u32 (x 12),.int .u32 (x 13),.int .u32 (x 14)],.nilIface])∧Below w.heap.size w w':=by
 go_enter Tryz.func69,Tryz.ntmps69
 generalize ha0:(Act.mk _ _)=a0
 have hsz:a0.tmps.size=Tryz.f69.ntmps:=by rw [← ha0];rfl
 replace hsz:a0.tmps.size=57:=hsz.trans Zk
 have hdf:a0.defers=[]:=by rw [← ha0]
 have e0:a0.eval (.tmp 0)=.slice (some ⟨g,0,none⟩) 15 cap:=by rw [← ha0];rfl
 clear ha0
 refine Yw (c:=15) (k:=11) (K:=.u32) (LT:=70) (x:=x) (cells:=#[.int .u32 (x 0),.int .u32 (x 1),.int .u32 (x 2),.int .u32 (x 3),.int .u32 (x 4),.int .u32 (x 5),.int .u32 (x 6),.int .u32 (x 7),.int .u32 (x 8),.int .u32 (x 9),.int .u32 (x 10),.int .u32 (x 11),.int .u32 (x 12),.int .u32 (x 13),.int .u32 (x 14)]) (zero:=#[.int .u32 0,.int .u32 0,.int .u32 0,.int .u32 0,.int .u32 0,.int .u32 0,.int .u32 0,.int .u32 0,.int .u32 0,.int .u32 0,.int .u32 0,.int .u32 0,.int .u32 0,.int .u32 0,.int .u32 0]) Tryz.underlying154 Zk ZW Tryz.underlying110 rfl Zk ZW rfl ZW rfl ?_ rfl Zk Zk Zk Zk rfl Zk rfl Zd Zo e0 hdf hg hx (fun w' hB=>⟨rfl,hB⟩)
 intro a' o ho h W
 obtain rfl:=Option.some.inj ho
 have h0:a'.eval (.tmp 13)=.int .u32 (x 0):=h 0 Zd
 have h1:a'.eval (.tmp 16)=.int .u32 (x 1):=h 1 Zd
 have h2:a'.eval (.tmp 19)=.int .u32 (x 2):=h 2 Zd
 have h3:a'.eval (.tmp 22)=.int .u32 (x 3):=h 3 Zd
 have h4:a'.eval (.tmp 25)=.int .u32 (x 4):=h 4 Zd
 have h5:a'.eval (.tmp 28)=.int .u32 (x 5):=h 5 Zd
 have h6:a'.eval (.tmp 31)=.int .u32 (x 6):=h 6 Zd
 have h7:a'.eval (.tmp 34)=.int .u32 (x 7):=h 7 Zd
 have h8:a'.eval (.tmp 37)=.int .u32 (x 8):=h 8 Zd
 have h9:a'.eval (.tmp 40)=.int .u32 (x 9):=h 9 Zd
 have h10:a'.eval (.tmp 43)=.int .u32 (x 10):=h 10 Zd
 have h11:a'.eval (.tmp 46)=.int .u32 (x 11):=h 11 Zd
 have h12:a'.eval (.tmp 49)=.int .u32 (x 12):=h 12 Zd
 have h13:a'.eval (.tmp 52)=.int .u32 (x 13):=h 13 Zd
 have h14:a'.eval (.tmp 55)=.int .u32 (x 14):=h 14 Zd
 exact YQ (vs:=#[(0,.int .u32 (x 0)),(1,.int .u32 (x 1)),(2,.int .u32 (x 2)),(3,.int .u32 (x 3)),(4,.int .u32 (x 4)),(5,.int .u32 (x 5)),(6,.int .u32 (x 6)),(7,.int .u32 (x 7)),(8,.int .u32 (x 8)),(9,.int .u32 (x 9)),(10,.int .u32 (x 10)),(11,.int .u32 (x 11)),(12,.int .u32 (x 12)),(13,.int .u32 (x 13)),(14,.int .u32 (x 14))]) (by simp [h0,h1,h2,h3,h4,h5,h6,h7,h8,h9,h10,h11,h12,h13,h14]) Zk
set_option maxRecDepth 100000 in
set_option maxHeartbeats 1000000 in
theorem QX (g cap:Nat) (x:Nat→Int) (w:World) (hg:g<w.heap.size) (hx:∀ j:Nat,j<15→w.cell? ⟨g,j,none⟩=some (.int .u32 (x j))):Calls Tryz.prog 70 #[.slice (some ⟨g,0,none⟩) 15 cap] w fun e w'=>e=.returned (.tuple #[.agg #[.int .u32 (x 0),.int .u32 (x 1),.int .u32 (x 2),.int .u32 (x 3),.int .u32 (x 4),.int .u32 (x 5),.int .u32 (x 6),.int .u32 (x 7),.int .u32 (x 8),.int .u32 (x 9),.int .u32 (x 10),.int .u32 (x 11),.int .u32 (x 12),.int .u32 (x 13),.int .u32 (x 14)],.nilIface])∧Below w.heap.size w w':=by
 go_enter Tryz.func70,Tryz.ntmps70
 generalize ha0:(Act.mk _ _)=a0
 have hsz:a0.tmps.size=Tryz.f70.ntmps:=by rw [← ha0];rfl
 replace hsz:a0.tmps.size=57:=hsz.trans Zk
 have hdf:a0.defers=[]:=by rw [← ha0]
 have e0:a0.eval (.tmp 0)=.slice (some ⟨g,0,none⟩) 15 cap:=by rw [← ha0];rfl
 clear ha0
 refine Yw (c:=15) (k:=11) (K:=.u32) (LT:=70) (x:=x) (cells:=#[.int .u32 (x 0),.int .u32 (x 1),.int .u32 (x 2),.int .u32 (x 3),.int .u32 (x 4),.int .u32 (x 5),.int .u32 (x 6),.int .u32 (x 7),.int .u32 (x 8),.int .u32 (x 9),.int .u32 (x 10),.int .u32 (x 11),.int .u32 (x 12),.int .u32 (x 13),.int .u32 (x 14)]) (zero:=#[.int .u32 0,.int .u32 0,.int .u32 0,.int .u32 0,.int .u32 0,.int .u32 0,.int .u32 0,.int .u32 0,.int .u32 0,.int .u32 0,.int .u32 0,.int .u32 0,.int .u32 0,.int .u32 0,.int .u32 0]) Tryz.underlying154 Zk ZW Tryz.underlying111 rfl Zk ZW rfl ZW rfl ?_ rfl Zk Zk Zk Zk rfl Zk rfl Zd Zo e0 hdf hg hx (fun w' hB=>⟨rfl,hB⟩)
 intro a' o ho h W
 obtain rfl:=Option.some.inj ho
 have h0:a'.eval (.tmp 13)=.int .u32 (x 0):=h 0 Zd
 have h1:a'.eval (.tmp 16)=.int .u32 (x 1):=h 1 Zd
 have h2:a'.eval (.tmp 19)=.int .u32 (x 2):=h 2 Zd
 have h3:a'.eval (.tmp 22)=.int .u32 (x 3):=h 3 Zd
 have h4:a'.eval (.tmp 25)=.int .u32 (x 4):=h 4 Zd
 have h5:a'.eval (.tmp 28)=.int .u32 (x 5):=h 5 Zd
 have h6:a'.eval (.tmp 31)=.int .u32 (x 6):=h 6 Zd
 have h7:a'.eval (.tmp 34)=.int .u32 (x 7):=h 7 Zd
 have h8:a'.eval (.tmp 37)=.int .u32 (x 8):=h 8 Zd
 have h9:a'.eval (.tmp 40)=.int .u32 (x 9):=h 9 Zd
 have h10:a'.eval (.tmp 43)=.int .u32 (x 10):=h 10 Zd
 have h11:a'.eval (.tmp 46)=.int .u32 (x 11):=h 11 Zd
 have h12:a'.eval (.tmp 49)=.int .u32 (x 12):=h 12 Zd
 have h13:a'.eval (.tmp 52)=.int .u32 (x 13):=h 13 Zd
 have h14:a'.eval (.tmp 55)=.int .u32 (x 14):=h 14 Zd
 exact YQ (vs:=#[(0,.int .u32 (x 0)),(1,.int .u32 (x 1)),(2,.int .u32 (x 2)),(3,.int .u32 (x 3)),(4,.int .u32 (x 4)),(5,.int .u32 (x 5)),(6,.int .u32 (x 6)),(7,.int .u32 (x 7)),(8,.int .u32 (x 8)),(9,.int .u32 (x 9)),(10,.int .u32 (x 10)),(11,.int .u32 (x 11)),(12,.int .u32 (x 12)),(13,.int .u32 (x 13)),(14,.int .u32 (x 14))]) (by simp [h0,h1,h2,h3,h4,h5,h6,h7,h8,h9,h10,h11,h12,h13,h14]) Zk
set_option maxRecDepth 100000 in
set_option maxHeartbeats 1000000 in
theorem yaj (g cap:Nat) (x:Nat→Int) (w:World) (hg:g<w.heap.size) (hx:∀ j:Nat,j<15→w.cell? ⟨g,j,none⟩=some (.int .u32 (x j))):Calls Tryz.prog 71 #[.slice (some ⟨g,0,none⟩) 15 cap] w fun e w'=>e=.returned (.tuple #[.agg #[.int .u32 (x 0),.int .u32 (x 1),.int .u32 (x 2),.int .u32 (x 3),.int .u32 (x 4),.int .u32 (x 5),.int .u32 (x 6),.int .u32 (x 7),.int .u32 (x 8),.int .u32 (x 9),.int .u32 (x 10),.int .u32 (x 11),.int .u32 (x 12),.int .u32 (x 13),.int .u32 (x 14)],.nilIface])∧Below w.heap.size w w':=by
 go_enter Tryz.func71,Tryz.ntmps71
 generalize ha0:(Act.mk _ _)=a0
 have hsz:a0.tmps.size=Tryz.f71.ntmps:=by rw [← ha0];rfl
 replace hsz:a0.tmps.size=57:=hsz.trans Zk
 have hdf:a0.defers=[]:=by rw [← ha0]
 have e0:a0.eval (.tmp 0)=.slice (some ⟨g,0,none⟩) 15 cap:=by rw [← ha0];rfl
 clear ha0
 refine Yw (c:=15) (k:=11) (K:=.u32) (LT:=70) (x:=x) (cells:=#[.int .u32 (x 0),.int .u32 (x 1),.int .u32 (x 2),.int .u32 (x 3),.int .u32 (x 4),.int .u32 (x 5),.int .u32 (x 6),.int .u32 (x 7),.int .u32 (x 8),.int .u32 (x 9),.int .u32 (x 10),.int .u32 (x 11),.int .u32 (x 12),.int .u32 (x 13),.int .u32 (x 14)]) (zero:=#[.int .u32 0,.int .u32 0,.int .u32 0,.int .u32 0,.int .u32 0,.int .u32 0,.int .u32 0,.int .u32 0,.int .u32 0,.int .u32 0,.int .u32 0,.int .u32 0,.int .u32 0,.int .u32 0,.int .u32 0]) Tryz.underlying154 Zk ZW Tryz.underlying112 rfl Zk ZW rfl ZW rfl ?_ rfl Zk Zk Zk Zk rfl Zk rfl Zd Zo e0 hdf hg hx (fun w' hB=>⟨rfl,hB⟩)
 intro a' o ho h W
 obtain rfl:=Option.some.inj ho
 have h0:a'.eval (.tmp 13)=.int .u32 (x 0):=h 0 Zd
 have h1:a'.eval (.tmp 16)=.int .u32 (x 1):=h 1 Zd
 have h2:a'.eval (.tmp 19)=.int .u32 (x 2):=h 2 Zd
 have h3:a'.eval (.tmp 22)=.int .u32 (x 3):=h 3 Zd
 have h4:a'.eval (.tmp 25)=.int .u32 (x 4):=h 4 Zd
 have h5:a'.eval (.tmp 28)=.int .u32 (x 5):=h 5 Zd
 have h6:a'.eval (.tmp 31)=.int .u32 (x 6):=h 6 Zd
 have h7:a'.eval (.tmp 34)=.int .u32 (x 7):=h 7 Zd
 have h8:a'.eval (.tmp 37)=.int .u32 (x 8):=h 8 Zd
 have h9:a'.eval (.tmp 40)=.int .u32 (x 9):=h 9 Zd
 have h10:a'.eval (.tmp 43)=.int .u32 (x 10):=h 10 Zd
 have h11:a'.eval (.tmp 46)=.int .u32 (x 11):=h 11 Zd
 have h12:a'.eval (.tmp 49)=.int .u32 (x 12):=h 12 Zd
 have h13:a'.eval (.tmp 52)=.int .u32 (x 13):=h 13 Zd
 have h14:a'.eval (.tmp 55)=.int .u32 (x 14):=h 14 Zd
 exact YQ (vs:=#[(0,.int .u32 (x 0)),(1,.int .u32 (x 1)),(2,.int .u32 (x 2)),(3,.int .u32 (x 3)),(4,.int .u32 (x 4)),(5,.int .u32 (x 5)),(6,.int .u32 (x 6)),(7,.int .u32 (x 7)),(8,.int .u32 (x 8)),(9,.int .u32 (x 9)),(10,.int .u32 (x 10)),(11,.int .u32 (x 11)),(12,.int .u32 (x 12)),(13,.int .u32 (x 13)),(14,.int .u32 (x 14))]) (by simp [h0,h1,h2,h3,h4,h5,h6,h7,h8,h9,h10,h11,h12,h13,h14]) Zk
set_option maxRecDepth 100000 in
set_option maxHeartbeats 1000000 in
theorem Qo (g cap:Nat) (x:Nat→Int) (w:World) (hg:g<w.heap.size) (hx:∀ j:Nat,j<15→w.cell? ⟨g,j,none⟩=some (.int .u32 (x j))):Calls Tryz.prog 72 #[.slice (some ⟨g,0,none⟩) 15 cap] w fun e w'=>e=.returned (.tuple #[.agg #[.int .u32 (x 0),.int .u32 (x 1),.int .u32 (x 2),.int .u32 (x 3),.int .u32 (x 4),.int .u32 (x 5),.int .u32 (x 6),.int .u32 (x 7),.int .u32 (x 8),.int .u32 (x 9),.int .u32 (x 10),.int .u32 (x 11),.int .u32 (x 12),.int .u32 (x 13),.int .u32 (x 14)],.nilIface])∧Below w.heap.size w w':=by
 go_enter Tryz.func72,Tryz.ntmps72
 generalize ha0:(Act.mk _ _)=a0
 have hsz:a0.tmps.size=Tryz.f72.ntmps:=by rw [← ha0];rfl
 replace hsz:a0.tmps.size=57:=hsz.trans Zk
 have hdf:a0.defers=[]:=by rw [← ha0]
 have e0:a0.eval (.tmp 0)=.slice (some ⟨g,0,none⟩) 15 cap:=by rw [← ha0];rfl
 clear ha0
 refine Yw (c:=15) (k:=11) (K:=.u32) (LT:=70) (x:=x) (cells:=#[.int .u32 (x 0),.int .u32 (x 1),.int .u32 (x 2),.int .u32 (x 3),.int .u32 (x 4),.int .u32 (x 5),.int .u32 (x 6),.int .u32 (x 7),.int .u32 (x 8),.int .u32 (x 9),.int .u32 (x 10),.int .u32 (x 11),.int .u32 (x 12),.int .u32 (x 13),.int .u32 (x 14)]) (zero:=#[.int .u32 0,.int .u32 0,.int .u32 0,.int .u32 0,.int .u32 0,.int .u32 0,.int .u32 0,.int .u32 0,.int .u32 0,.int .u32 0,.int .u32 0,.int .u32 0,.int .u32 0,.int .u32 0,.int .u32 0]) Tryz.underlying154 Zk ZW Tryz.underlying113 rfl Zk ZW rfl ZW rfl ?_ rfl Zk Zk Zk Zk rfl Zk rfl Zd Zo e0 hdf hg hx (fun w' hB=>⟨rfl,hB⟩)
 intro a' o ho h W
 obtain rfl:=Option.some.inj ho
 have h0:a'.eval (.tmp 13)=.int .u32 (x 0):=h 0 Zd
 have h1:a'.eval (.tmp 16)=.int .u32 (x 1):=h 1 Zd
 have h2:a'.eval (.tmp 19)=.int .u32 (x 2):=h 2 Zd
 have h3:a'.eval (.tmp 22)=.int .u32 (x 3):=h 3 Zd
 have h4:a'.eval (.tmp 25)=.int .u32 (x 4):=h 4 Zd
 have h5:a'.eval (.tmp 28)=.int .u32 (x 5):=h 5 Zd
 have h6:a'.eval (.tmp 31)=.int .u32 (x 6):=h 6 Zd
 have h7:a'.eval (.tmp 34)=.int .u32 (x 7):=h 7 Zd
 have h8:a'.eval (.tmp 37)=.int .u32 (x 8):=h 8 Zd
 have h9:a'.eval (.tmp 40)=.int .u32 (x 9):=h 9 Zd
 have h10:a'.eval (.tmp 43)=.int .u32 (x 10):=h 10 Zd
 have h11:a'.eval (.tmp 46)=.int .u32 (x 11):=h 11 Zd
 have h12:a'.eval (.tmp 49)=.int .u32 (x 12):=h 12 Zd
 have h13:a'.eval (.tmp 52)=.int .u32 (x 13):=h 13 Zd
 have h14:a'.eval (.tmp 55)=.int .u32 (x 14):=h 14 Zd
 exact YQ (vs:=#[(0,.int .u32 (x 0)),(1,.int .u32 (x 1)),(2,.int .u32 (x 2)),(3,.int .u32 (x 3)),(4,.int .u32 (x 4)),(5,.int .u32 (x 5)),(6,.int .u32 (x 6)),(7,.int .u32 (x 7)),(8,.int .u32 (x 8)),(9,.int .u32 (x 9)),(10,.int .u32 (x 10)),(11,.int .u32 (x 11)),(12,.int .u32 (x 12)),(13,.int .u32 (x 13)),(14,.int .u32 (x 14))]) (by simp [h0,h1,h2,h3,h4,h5,h6,h7,h8,h9,h10,h11,h12,h13,h14]) Zk
set_option maxRecDepth 100000 in
set_option maxHeartbeats 1000000 in
theorem yaO (g cap:Nat) (x:Nat→Int) (w:World) (hg:g<w.heap.size) (hx:∀ j:Nat,j<15→w.cell? ⟨g,j,none⟩=some (.int .u32 (x j))):Calls Tryz.prog 73 #[.slice (some ⟨g,0,none⟩) 15 cap] w fun e w'=>e=.returned (.tuple #[.agg #[.int .u32 (x 0),.int .u32 (x 1),.int .u32 (x 2),.int .u32 (x 3),.int .u32 (x 4),.int .u32 (x 5),.int .u32 (x 6),.int .u32 (x 7),.int .u32 (x 8),.int .u32 (x 9),.int .u32 (x 10),.int .u32 (x 11),.int .u32 (x 12),.int .u32 (x 13),.int .u32 (x 14)],.nilIface])∧Below w.heap.size w w':=by
 go_enter Tryz.func73,Tryz.ntmps73
 generalize ha0:(Act.mk _ _)=a0
 have hsz:a0.tmps.size=Tryz.f73.ntmps:=by rw [← ha0];rfl
 replace hsz:a0.tmps.size=57:=hsz.trans Zk
 have hdf:a0.defers=[]:=by rw [← ha0]
 have e0:a0.eval (.tmp 0)=.slice (some ⟨g,0,none⟩) 15 cap:=by rw [← ha0];rfl
 clear ha0
 refine Yw (c:=15) (k:=11) (K:=.u32) (LT:=70) (x:=x) (cells:=#[.int .u32 (x 0),.int .u32 (x 1),.int .u32 (x 2),.int .u32 (x 3),.int .u32 (x 4),.int .u32 (x 5),.int .u32 (x 6),.int .u32 (x 7),.int .u32 (x 8),.int .u32 (x 9),.int .u32 (x 10),.int .u32 (x 11),.int .u32 (x 12),.int .u32 (x 13),.int .u32 (x 14)]) (zero:=#[.int .u32 0,.int .u32 0,.int .u32 0,.int .u32 0,.int .u32 0,.int .u32 0,.int .u32 0,.int .u32 0,.int .u32 0,.int .u32 0,.int .u32 0,.int .u32 0,.int .u32 0,.int .u32 0,.int .u32 0]) Tryz.underlying154 Zk ZW Tryz.underlying114 rfl Zk ZW rfl ZW rfl ?_ rfl Zk Zk Zk Zk rfl Zk rfl Zd Zo e0 hdf hg hx (fun w' hB=>⟨rfl,hB⟩)
 intro a' o ho h W
 obtain rfl:=Option.some.inj ho
 have h0:a'.eval (.tmp 13)=.int .u32 (x 0):=h 0 Zd
 have h1:a'.eval (.tmp 16)=.int .u32 (x 1):=h 1 Zd
 have h2:a'.eval (.tmp 19)=.int .u32 (x 2):=h 2 Zd
 have h3:a'.eval (.tmp 22)=.int .u32 (x 3):=h 3 Zd
 have h4:a'.eval (.tmp 25)=.int .u32 (x 4):=h 4 Zd
 have h5:a'.eval (.tmp 28)=.int .u32 (x 5):=h 5 Zd
 have h6:a'.eval (.tmp 31)=.int .u32 (x 6):=h 6 Zd
 have h7:a'.eval (.tmp 34)=.int .u32 (x 7):=h 7 Zd
 have h8:a'.eval (.tmp 37)=.int .u32 (x 8):=h 8 Zd
 have h9:a'.eval (.tmp 40)=.int .u32 (x 9):=h 9 Zd
 have h10:a'.eval (.tmp 43)=.int .u32 (x 10):=h 10 Zd
 have h11:a'.eval (.tmp 46)=.int .u32 (x 11):=h 11 Zd
 have h12:a'.eval (.tmp 49)=.int .u32 (x 12):=h 12 Zd
 have h13:a'.eval (.tmp 52)=.int .u32 (x 13):=h 13 Zd
 have h14:a'.eval (.tmp 55)=.int .u32 (x 14):=h 14 Zd
 exact YQ (vs:=#[(0,.int .u32 (x 0)),(1,.int .u32 (x 1)),(2,.int .u32 (x 2)),(3,.int .u32 (x 3)),(4,.int .u32 (x 4)),(5,.int .u32 (x 5)),(6,.int .u32 (x 6)),(7,.int .u32 (x 7)),(8,.int .u32 (x 8)),(9,.int .u32 (x 9)),(10,.int .u32 (x 10)),(11,.int .u32 (x 11)),(12,.int .u32 (x 12)),(13,.int .u32 (x 13)),(14,.int .u32 (x 14))]) (by simp [h0,h1,h2,h3,h4,h5,h6,h7,h8,h9,h10,h11,h12,h13,h14]) Zk
set_option maxRecDepth 100000 in
set_option maxHeartbeats 1000000 in
theorem Qz (g cap:Nat) (x:Nat→Int) (w:World) (hg:g<w.heap.size) (hx:∀ j:Nat,j<15→w.cell? ⟨g,j,none⟩=some (.int .u32 (x j))):Calls Tryz.prog 74 #[.slice (some ⟨g,0,none⟩) 15 cap] w fun e w'=>e=.returned (.tuple #[.agg #[.int .u32 (x 0),.int .u32 (x 1),.int .u32 (x 2),.int .u32 (x 3),.int .u32 (x 4),.int .u32 (x 5),.int .u32 (x 6),.int .u32 (x 7),.int .u32 (x 8),.int .u32 (x 9),.int .u32 (x 10),.int .u32 (x 11),.int .u32 (x 12),.int .u32 (x 13),.int .u32 (x 14)],.nilIface])∧Below w.heap.size w w':=by
 go_enter Tryz.func74,Tryz.ntmps74
 generalize ha0:(Act.mk _ _)=a0
 have hsz:a0.tmps.size=Tryz.f74.ntmps:=by rw [← ha0];rfl
 replace hsz:a0.tmps.size=57:=hsz.trans Zk
 have hdf:a0.defers=[]:=by rw [← ha0]
 have e0:a0.eval (.tmp 0)=.slice (some ⟨g,0,none⟩) 15 cap:=by rw [← ha0];rfl
 clear ha0
 refine Yw (c:=15) (k:=11) (K:=.u32) (LT:=70) (x:=x) (cells:=#[.int .u32 (x 0),.int .u32 (x 1),.int .u32 (x 2),.int .u32 (x 3),.int .u32 (x 4),.int .u32 (x 5),.int .u32 (x 6),.int .u32 (x 7),.int .u32 (x 8),.int .u32 (x 9),.int .u32 (x 10),.int .u32 (x 11),.int .u32 (x 12),.int .u32 (x 13),.int .u32 (x 14)]) (zero:=#[.int .u32 0,.int .u32 0,.int .u32 0,.int .u32 0,.int .u32 0,.int .u32 0,.int .u32 0,.int .u32 0,.int .u32 0,.int .u32 0,.int .u32 0,.int .u32 0,.int .u32 0,.int .u32 0,.int .u32 0]) Tryz.underlying154 Zk ZW Tryz.underlying115 rfl Zk ZW rfl ZW rfl ?_ rfl Zk Zk Zk Zk rfl Zk rfl Zd Zo e0 hdf hg hx (fun w' hB=>⟨rfl,hB⟩)
 intro a' o ho h W
 obtain rfl:=Option.some.inj ho
 have h0:a'.eval (.tmp 13)=.int .u32 (x 0):=h 0 Zd
 have h1:a'.eval (.tmp 16)=.int .u32 (x 1):=h 1 Zd
 have h2:a'.eval (.tmp 19)=.int .u32 (x 2):=h 2 Zd
 have h3:a'.eval (.tmp 22)=.int .u32 (x 3):=h 3 Zd
 have h4:a'.eval (.tmp 25)=.int .u32 (x 4):=h 4 Zd
 have h5:a'.eval (.tmp 28)=.int .u32 (x 5):=h 5 Zd
 have h6:a'.eval (.tmp 31)=.int .u32 (x 6):=h 6 Zd
 have h7:a'.eval (.tmp 34)=.int .u32 (x 7):=h 7 Zd
 have h8:a'.eval (.tmp 37)=.int .u32 (x 8):=h 8 Zd
 have h9:a'.eval (.tmp 40)=.int .u32 (x 9):=h 9 Zd
 have h10:a'.eval (.tmp 43)=.int .u32 (x 10):=h 10 Zd
 have h11:a'.eval (.tmp 46)=.int .u32 (x 11):=h 11 Zd
 have h12:a'.eval (.tmp 49)=.int .u32 (x 12):=h 12 Zd
 have h13:a'.eval (.tmp 52)=.int .u32 (x 13):=h 13 Zd
 have h14:a'.eval (.tmp 55)=.int .u32 (x 14):=h 14 Zd
 exact YQ (vs:=#[(0,.int .u32 (x 0)),(1,.int .u32 (x 1)),(2,.int .u32 (x 2)),(3,.int .u32 (x 3)),(4,.int .u32 (x 4)),(5,.int .u32 (x 5)),(6,.int .u32 (x 6)),(7,.int .u32 (x 7)),(8,.int .u32 (x 8)),(9,.int .u32 (x 9)),(10,.int .u32 (x 10)),(11,.int .u32 (x 11)),(12,.int .u32 (x 12)),(13,.int .u32 (x 13)),(14,.int .u32 (x 14))]) (by simp [h0,h1,h2,h3,h4,h5,h6,h7,h8,h9,h10,h11,h12,h13,h14]) Zk
set_option maxRecDepth 100000 in
set_option maxHeartbeats 1000000 in
theorem Qe (g cap:Nat) (x:Nat→Int) (w:World) (hg:g<w.heap.size) (hx:∀ j:Nat,j<15→w.cell? ⟨g,j,none⟩=some (.int .u32 (x j))):Calls Tryz.prog 75 #[.slice (some ⟨g,0,none⟩) 15 cap] w fun e w'=>e=.returned (.tuple #[.agg #[.int .u32 (x 0),.int .u32 (x 1),.int .u32 (x 2),.int .u32 (x 3),.int .u32 (x 4),.int .u32 (x 5),.int .u32 (x 6),.int .u32 (x 7),.int .u32 (x 8),.int .u32 (x 9),.int .u32 (x 10),.int .u32 (x 11),.int .u32 (x 12),.int .u32 (x 13),.int .u32 (x 14)],.nilIface])∧Below w.heap.size w w':=by
 go_enter Tryz.func75,Tryz.ntmps75
 generalize ha0:(Act.mk _ _)=a0
 have hsz:a0.tmps.size=Tryz.f75.ntmps:=by rw [← ha0];rfl
 replace hsz:a0.tmps.size=57:=hsz.trans Zk
 have hdf:a0.defers=[]:=by rw [← ha0]
 have e0:a0.eval (.tmp 0)=.slice (some ⟨g,0,none⟩) 15 cap:=by rw [← ha0];rfl
 clear ha0
 refine Yw (c:=15) (k:=11) (K:=.u32) (LT:=70) (x:=x) (cells:=#[.int .u32 (x 0),.int .u32 (x 1),.int .u32 (x 2),.int .u32 (x 3),.int .u32 (x 4),.int .u32 (x 5),.int .u32 (x 6),.int .u32 (x 7),.int .u32 (x 8),.int .u32 (x 9),.int .u32 (x 10),.int .u32 (x 11),.int .u32 (x 12),.int .u32 (x 13),.int .u32 (x 14)]) (zero:=#[.int .u32 0,.int .u32 0,.int .u32 0,.int .u32 0,.int .u32 0,.int .u32 0,.int .u32 0,.int .u32 0,.int .u32 0,.int .u32 0,.int .u32 0,.int .u32 0,.int .u32 0,.int .u32 0,.int .u32 0]) Tryz.underlying154 Zk ZW Tryz.underlying116 rfl Zk ZW rfl ZW rfl ?_ rfl Zk Zk Zk Zk rfl Zk rfl Zd Zo e0 hdf hg hx (fun w' hB=>⟨rfl,hB⟩)
 intro a' o ho h W
 obtain rfl:=Option.some.inj ho
 have h0:a'.eval (.tmp 13)=.int .u32 (x 0):=h 0 Zd
 have h1:a'.eval (.tmp 16)=.int .u32 (x 1):=h 1 Zd
 have h2:a'.eval (.tmp 19)=.int .u32 (x 2):=h 2 Zd
 have h3:a'.eval (.tmp 22)=.int .u32 (x 3):=h 3 Zd
 have h4:a'.eval (.tmp 25)=.int .u32 (x 4):=h 4 Zd
 have h5:a'.eval (.tmp 28)=.int .u32 (x 5):=h 5 Zd
 have h6:a'.eval (.tmp 31)=.int .u32 (x 6):=h 6 Zd
 have h7:a'.eval (.tmp 34)=.int .u32 (x 7):=h 7 Zd
 have h8:a'.eval (.tmp 37)=.int .u32 (x 8):=h 8 Zd
 have h9:a'.eval (.tmp 40)=.int .u32 (x 9):=h 9 Zd
 have h10:a'.eval (.tmp 43)=.int .u32 (x 10):=h 10 Zd
 have h11:a'.eval (.tmp 46)=.int .u32 (x 11):=h 11 Zd
 have h12:a'.eval (.tmp 49)=.int .u32 (x 12):=h 12 Zd
 have h13:a'.eval (.tmp 52)=.int .u32 (x 13):=h 13 Zd
 have h14:a'.eval (.tmp 55)=.int .u32 (x 14):=h 14 Zd
 exact YQ (vs:=#[(0,.int .u32 (x 0)),(1,.int .u32 (x 1)),(2,.int .u32 (x 2)),(3,.int .u32 (x 3)),(4,.int .u32 (x 4)),(5,.int .u32 (x 5)),(6,.int .u32 (x 6)),(7,.int .u32 (x 7)),(8,.int .u32 (x 8)),(9,.int .u32 (x 9)),(10,.int .u32 (x 10)),(11,.int .u32 (x 11)),(12,.int .u32 (x 12)),(13,.int .u32 (x 13)),(14,.int .u32 (x 14))]) (by simp [h0,h1,h2,h3,h4,h5,h6,h7,h8,h9,h10,h11,h12,h13,h14]) Zk
set_option maxRecDepth 100000 in
set_option maxHeartbeats 1000000 in
theorem QV (g cap:Nat) (x:Nat→Int) (w:World) (hg:g<w.heap.size) (hx:∀ j:Nat,j<15→w.cell? ⟨g,j,none⟩=some (.int .u32 (x j))):Calls Tryz.prog 76 #[.slice (some ⟨g,0,none⟩) 15 cap] w fun e w'=>e=.returned (.tuple #[.agg #[.int .u32 (x 0),.int .u32 (x 1),.int .u32 (x 2),.int .u32 (x 3),.int .u32 (x 4),.int .u32 (x 5),.int .u32 (x 6),.int .u32 (x 7),.int .u32 (x 8),.int .u32 (x 9),.int .u32 (x 10),.int .u32 (x 11),.int .u32 (x 12),.int .u32 (x 13),.int .u32 (x 14)],.nilIface])∧Below w.heap.size w w':=by
 go_enter Tryz.func76,Tryz.ntmps76
 generalize ha0:(Act.mk _ _)=a0
 have hsz:a0.tmps.size=Tryz.f76.ntmps:=by rw [← ha0];rfl
 replace hsz:a0.tmps.size=57:=hsz.trans Zk
 have hdf:a0.defers=[]:=by rw [← ha0]
 have e0:a0.eval (.tmp 0)=.slice (some ⟨g,0,none⟩) 15 cap:=by rw [← ha0];rfl
 clear ha0
 refine Yw (c:=15) (k:=11) (K:=.u32) (LT:=70) (x:=x) (cells:=#[.int .u32 (x 0),.int .u32 (x 1),.int .u32 (x 2),.int .u32 (x 3),.int .u32 (x 4),.int .u32 (x 5),.int .u32 (x 6),.int .u32 (x 7),.int .u32 (x 8),.int .u32 (x 9),.int .u32 (x 10),.int .u32 (x 11),.int .u32 (x 12),.int .u32 (x 13),.int .u32 (x 14)]) (zero:=#[.int .u32 0,.int .u32 0,.int .u32 0,.int .u32 0,.int .u32 0,.int .u32 0,.int .u32 0,.int .u32 0,.int .u32 0,.int .u32 0,.int .u32 0,.int .u32 0,.int .u32 0,.int .u32 0,.int .u32 0]) Tryz.underlying154 Zk ZW Tryz.underlying117 rfl Zk ZW rfl ZW rfl ?_ rfl Zk Zk Zk Zk rfl Zk rfl Zd Zo e0 hdf hg hx (fun w' hB=>⟨rfl,hB⟩)
 intro a' o ho h W
 obtain rfl:=Option.some.inj ho
 have h0:a'.eval (.tmp 13)=.int .u32 (x 0):=h 0 Zd
 have h1:a'.eval (.tmp 16)=.int .u32 (x 1):=h 1 Zd
 have h2:a'.eval (.tmp 19)=.int .u32 (x 2):=h 2 Zd
 have h3:a'.eval (.tmp 22)=.int .u32 (x 3):=h 3 Zd
 have h4:a'.eval (.tmp 25)=.int .u32 (x 4):=h 4 Zd
 have h5:a'.eval (.tmp 28)=.int .u32 (x 5):=h 5 Zd
 have h6:a'.eval (.tmp 31)=.int .u32 (x 6):=h 6 Zd
 have h7:a'.eval (.tmp 34)=.int .u32 (x 7):=h 7 Zd
 have h8:a'.eval (.tmp 37)=.int .u32 (x 8):=h 8 Zd
 have h9:a'.eval (.tmp 40)=.int .u32 (x 9):=h 9 Zd
 have h10:a'.eval (.tmp 43)=.int .u32 (x 10):=h 10 Zd
 have h11:a'.eval (.tmp 46)=.int .u32 (x 11):=h 11 Zd
 have h12:a'.eval (.tmp 49)=.int .u32 (x 12):=h 12 Zd
 have h13:a'.eval (.tmp 52)=.int .u32 (x 13):=h 13 Zd
 have h14:a'.eval (.tmp 55)=.int .u32 (x 14):=h 14 Zd
 exact YQ (vs:=#[(0,.int .u32 (x 0)),(1,.int .u32 (x 1)),(2,.int .u32 (x 2)),(3,.int .u32 (x 3)),(4,.int .u32 (x 4)),(5,.int .u32 (x 5)),(6,.int .u32 (x 6)),(7,.int .u32 (x 7)),(8,.int .u32 (x 8)),(9,.int .u32 (x 9)),(10,.int .u32 (x 10)),(11,.int .u32 (x 11)),(12,.int .u32 (x 12)),(13,.int .u32 (x 13)),(14,.int .u32 (x 14))]) (by simp [h0,h1,h2,h3,h4,h5,h6,h7,h8,h9,h10,h11,h12,h13,h14]) Zk
set_option maxRecDepth 100000 in
set_option maxHeartbeats 1000000 in
theorem ycD (g cap:Nat) (x:Nat→Int) (w:World) (hg:g<w.heap.size) (hx:∀ j:Nat,j<1→w.cell? ⟨g,j,none⟩=some (.int .u32 (x j))):Calls Tryz.prog 78 #[.slice (some ⟨g,0,none⟩) 1 cap] w fun e w'=>e=.returned (.tuple #[.agg #[.int .u32 (x 0)],.nilIface])∧Below w.heap.size w w':=by
 go_enter Tryz.func78,Tryz.ntmps78
 generalize ha0:(Act.mk _ _)=a0
 have hsz:a0.tmps.size=Tryz.f78.ntmps:=by rw [← ha0];rfl
 replace hsz:a0.tmps.size=15:=hsz.trans Zk
 have hdf:a0.defers=[]:=by rw [← ha0]
 have e0:a0.eval (.tmp 0)=.slice (some ⟨g,0,none⟩) 1 cap:=by rw [← ha0];rfl
 clear ha0
 refine Yw (c:=1) (k:=11) (K:=.u32) (LT:=70) (x:=x) (cells:=#[.int .u32 (x 0)]) (zero:=#[.int .u32 0]) Tryz.underlying154 Zk ZW Tryz.underlying102 rfl Zk ZW rfl ZW rfl ?_ rfl Zk Zk Zk Zk rfl Zk rfl Zd Zo e0 hdf hg hx (fun w' hB=>⟨rfl,hB⟩)
 intro a' o ho h W
 obtain rfl:=Option.some.inj ho
 have h0:a'.eval (.tmp 13)=.int .u32 (x 0):=h 0 Zd
 exact YQ (vs:=#[(0,.int .u32 (x 0))]) (by simp [h0]) Zk
set_option maxRecDepth 100000 in
set_option maxHeartbeats 1000000 in
theorem ycB (g cap:Nat) (x:Nat→Int) (w:World) (hg:g<w.heap.size) (hx:∀ j:Nat,j<3→w.cell? ⟨g,j,none⟩=some (.int .u32 (x j))):Calls Tryz.prog 79 #[.slice (some ⟨g,0,none⟩) 3 cap] w fun e w'=>e=.returned (.tuple #[.agg #[.int .u32 (x 0),.int .u32 (x 1),.int .u32 (x 2)],.nilIface])∧Below w.heap.size w w':=by
 go_enter Tryz.func79,Tryz.ntmps79
 generalize ha0:(Act.mk _ _)=a0
 have hsz:a0.tmps.size=Tryz.f79.ntmps:=by rw [← ha0];rfl
 replace hsz:a0.tmps.size=21:=hsz.trans Zk
 have hdf:a0.defers=[]:=by rw [← ha0]
 have e0:a0.eval (.tmp 0)=.slice (some ⟨g,0,none⟩) 3 cap:=by rw [← ha0];rfl
 clear ha0
 refine Yw (c:=3) (k:=11) (K:=.u32) (LT:=70) (x:=x) (cells:=#[.int .u32 (x 0),.int .u32 (x 1),.int .u32 (x 2)]) (zero:=#[.int .u32 0,.int .u32 0,.int .u32 0]) Tryz.underlying154 Zk ZW Tryz.underlying119 rfl Zk ZW rfl ZW rfl ?_ rfl Zk Zk Zk Zk rfl Zk rfl Zd Zo e0 hdf hg hx (fun w' hB=>⟨rfl,hB⟩)
 intro a' o ho h W
 obtain rfl:=Option.some.inj ho
 have h0:a'.eval (.tmp 13)=.int .u32 (x 0):=h 0 Zd
 have h1:a'.eval (.tmp 16)=.int .u32 (x 1):=h 1 Zd
 have h2:a'.eval (.tmp 19)=.int .u32 (x 2):=h 2 Zd
 exact YQ (vs:=#[(0,.int .u32 (x 0)),(1,.int .u32 (x 1)),(2,.int .u32 (x 2))]) (by simp [h0,h1,h2]) Zk
set_option maxRecDepth 100000 in
set_option maxHeartbeats 1000000 in
theorem ybw (g cap:Nat) (x:Nat→Int) (w:World) (hg:g<w.heap.size) (hx:∀ j:Nat,j<1→w.cell? ⟨g,j,none⟩=some (.int .u32 (x j))):Calls Tryz.prog 80 #[.slice (some ⟨g,0,none⟩) 1 cap] w fun e w'=>e=.returned (.tuple #[.agg #[.int .u32 (x 0)],.nilIface])∧Below w.heap.size w w':=by
 go_enter Tryz.func80,Tryz.ntmps80
 generalize ha0:(Act.mk _ _)=a0
 have hsz:a0.tmps.size=Tryz.f80.ntmps:=by rw [← ha0];rfl
 replace hsz:a0.tmps.size=15:=hsz.trans Zk
 have hdf:a0.defers=[]:=by rw [← ha0]
 have e0:a0.eval (.tmp 0)=.slice (some ⟨g,0,none⟩) 1 cap:=by rw [← ha0];rfl
 clear ha0
 refine Yw (c:=1) (k:=11) (K:=.u32) (LT:=70) (x:=x) (cells:=#[.int .u32 (x 0)]) (zero:=#[.int .u32 0]) Tryz.underlying154 Zk ZW Tryz.underlying121 rfl Zk ZW rfl ZW rfl ?_ rfl Zk Zk Zk Zk rfl Zk rfl Zd Zo e0 hdf hg hx (fun w' hB=>⟨rfl,hB⟩)
 intro a' o ho h W
 obtain rfl:=Option.some.inj ho
 have h0:a'.eval (.tmp 13)=.int .u32 (x 0):=h 0 Zd
 exact YQ (vs:=#[(0,.int .u32 (x 0))]) (by simp [h0]) Zk
end Go.Proofs.YtdcaggoicdfehaaGreatDoor
