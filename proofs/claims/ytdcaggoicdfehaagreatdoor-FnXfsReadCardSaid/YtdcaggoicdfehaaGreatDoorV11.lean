/- Part 11 of 44 of the proof of the tied card of FnXfsRead. -/
import Derived.Test.YtdcaggoicdfehaaGreatDoorVz
import Derived.Test.YtdcaggoicdfehaaGreatDoorV5
set_option linter.unusedVariables false
set_option linter.unusedSimpArgs false
namespace Go.Proofs.YtdcaggoicdfehaaGreatDoor
open Go.RowKit Go.Proofs.YtdcaggoicdfehaaGreatDoorW.PrintWords Go.Proofs.YtdcaggoicdfehaaGreatDoorW.PrintLast Go.Proofs.YtdcaggoicdfehaaGreatDoorW.PrintMore
set_option maxRecDepth 100000 in
theorem Qn (onm:ByteArray) (x0 x1 x2 x3:Int) (w:World):Calls Tryz.prog 83 #[.string onm,.agg #[.int .u32 x0,.int .u32 x1,.int .u32 x2,.int .u32 x3]] w fun e w'=>∃ v,e=.returned (.agg (yK onm v))∧Kd.R k34 34 w' w.heap.size (fun _=>True) v [yz ⟨#[69,120,116,101,110,116,115,65,108,108,111,99,97,116,101,100]⟩ (IntKind.u64.wrap x0),yz ⟨#[66,108,111,99,107,115,65,108,108,111,99,97,116,101,100]⟩ (IntKind.u64.wrap x1),yz ⟨#[69,120,116,101,110,116,115,70,114,101,101,100]⟩ (IntKind.u64.wrap x2),yz ⟨#[66,108,111,99,107,115,70,114,101,101,100]⟩ (IntKind.u64.wrap x3)]∧Below w.heap.size w w':=by
 go_enter Tryz.func83,Tryz.ntmps83
 generalize ha0:(Act.mk _ _)=a0
 have hsz:a0.tmps.size=Tryz.f83.ntmps:=by rw [← ha0];rfl
 replace hsz:a0.tmps.size=45:=hsz.trans Zk
 have hdf:a0.defers=[]:=by rw [← ha0]
 have e0:a0.eval (.tmp 0)=.string onm:=by rw [← ha0];rfl
 have e1:a0.eval (.tmp 1)=.agg #[.int .u32 x0,.int .u32 x1,.int .u32 x2,.int .u32 x3]:=by rw [← ha0];rfl
 clear ha0
 refine Yl (vals:=#[.int .u32 x0,.int .u32 x1,.int .u32 x2,.int .u32 x3]) ZW Zo e0 e1 ?_;intro b0 w0 g gr gv v0 s0 d0 p30 p40 p50 hv0 S0
 refine yl (k:=8) ZW rfl Zd Zd Zo Zl p30 p40 p50 hv0 S0 ?_;intro b1 w1 v1 s1 d1 p31 p41 p51 hv1 S1
 refine yl (k:=17) ZW rfl Zd Zd Zo Zl p31 p41 p51 hv1 S1 ?_;intro b2 w2 v2 s2 d2 p32 p42 p52 hv2 S2
 refine yl (k:=26) ZW rfl Zd Zd Zo Zl p32 p42 p52 hv2 S2 ?_;intro b3 w3 v3 s3 d3 p33 p43 p53 hv3 S3
 refine yl (k:=35) ZW rfl Zd Zd Zo Zl p33 p43 p53 hv3 S3 ?_;intro b4 w4 v4 s4 d4 p34 p44 p54 hv4 S4
 refine YG rfl (k:=44) Zd Zo (by rw [d4,d3,d2,d1,d0];exact hdf) p44 p54 S4 ?_
 exact fun w' v' hR hB=>⟨v',rfl,hR,hB⟩
set_option maxRecDepth 100000 in
theorem QL (onm:ByteArray) (x0 x1 x2 x3:Int) (w:World):Calls Tryz.prog 84 #[.string onm,.agg #[.int .u32 x0,.int .u32 x1,.int .u32 x2,.int .u32 x3]] w fun e w'=>∃ v,e=.returned (.agg (yK onm v))∧Kd.R k34 34 w' w.heap.size (fun _=>True) v [yz ⟨#[76,111,111,107,117,112,115]⟩ (IntKind.u64.wrap x0),yz ⟨#[67,111,109,112,97,114,101,115]⟩ (IntKind.u64.wrap x1),yz ⟨#[82,101,99,111,114,100,115,73,110,115,101,114,116,101,100]⟩ (IntKind.u64.wrap x2),yz ⟨#[82,101,99,111,114,100,115,68,101,108,101,116,101,100]⟩ (IntKind.u64.wrap x3)]∧Below w.heap.size w w':=by
 go_enter Tryz.func84,Tryz.ntmps84
 generalize ha0:(Act.mk _ _)=a0
 have hsz:a0.tmps.size=Tryz.f84.ntmps:=by rw [← ha0];rfl
 replace hsz:a0.tmps.size=45:=hsz.trans Zk
 have hdf:a0.defers=[]:=by rw [← ha0]
 have e0:a0.eval (.tmp 0)=.string onm:=by rw [← ha0];rfl
 have e1:a0.eval (.tmp 1)=.agg #[.int .u32 x0,.int .u32 x1,.int .u32 x2,.int .u32 x3]:=by rw [← ha0];rfl
 clear ha0
 refine Yl (vals:=#[.int .u32 x0,.int .u32 x1,.int .u32 x2,.int .u32 x3]) ZW Zo e0 e1 ?_;intro b0 w0 g gr gv v0 s0 d0 p30 p40 p50 hv0 S0
 refine yl (k:=8) ZW rfl Zd Zd Zo Zl p30 p40 p50 hv0 S0 ?_;intro b1 w1 v1 s1 d1 p31 p41 p51 hv1 S1
 refine yl (k:=17) ZW rfl Zd Zd Zo Zl p31 p41 p51 hv1 S1 ?_;intro b2 w2 v2 s2 d2 p32 p42 p52 hv2 S2
 refine yl (k:=26) ZW rfl Zd Zd Zo Zl p32 p42 p52 hv2 S2 ?_;intro b3 w3 v3 s3 d3 p33 p43 p53 hv3 S3
 refine yl (k:=35) ZW rfl Zd Zd Zo Zl p33 p43 p53 hv3 S3 ?_;intro b4 w4 v4 s4 d4 p34 p44 p54 hv4 S4
 refine YG rfl (k:=44) Zd Zo (by rw [d4,d3,d2,d1,d0];exact hdf) p44 p54 S4 ?_
 exact fun w' v' hR hB=>⟨v',rfl,hR,hB⟩
set_option maxRecDepth 100000 in
theorem QW (onm:ByteArray) (x0 x1 x2 x3 x4 x5 x6:Int) (w:World):Calls Tryz.prog 85 #[.string onm,.agg #[.int .u32 x0,.int .u32 x1,.int .u32 x2,.int .u32 x3,.int .u32 x4,.int .u32 x5,.int .u32 x6]] w fun e w'=>∃ v,e=.returned (.agg (yK onm v))∧Kd.R k34 34 w' w.heap.size (fun _=>True) v [yz ⟨#[82,101,97,100,115]⟩ (IntKind.u64.wrap x0),yz ⟨#[87,114,105,116,101,115]⟩ (IntKind.u64.wrap x1),yz ⟨#[85,110,109,97,112,115]⟩ (IntKind.u64.wrap x2),yz ⟨#[69,120,116,101,110,116,76,105,115,116,73,110,115,101,114,116,105,111,110,115]⟩ (IntKind.u64.wrap x3),yz ⟨#[69,120,116,101,110,116,76,105,115,116,68,101,108,101,116,105,111,110,115]⟩ (IntKind.u64.wrap x4),yz ⟨#[69,120,116,101,110,116,76,105,115,116,76,111,111,107,117,112,115]⟩ (IntKind.u64.wrap x5),yz ⟨#[69,120,116,101,110,116,76,105,115,116,67,111,109,112,97,114,101,115]⟩ (IntKind.u64.wrap x6)]∧Below w.heap.size w w':=by
 go_enter Tryz.func85,Tryz.ntmps85
 generalize ha0:(Act.mk _ _)=a0
 have hsz:a0.tmps.size=Tryz.f85.ntmps:=by rw [← ha0];rfl
 replace hsz:a0.tmps.size=72:=hsz.trans Zk
 have hdf:a0.defers=[]:=by rw [← ha0]
 have e0:a0.eval (.tmp 0)=.string onm:=by rw [← ha0];rfl
 have e1:a0.eval (.tmp 1)=.agg #[.int .u32 x0,.int .u32 x1,.int .u32 x2,.int .u32 x3,.int .u32 x4,.int .u32 x5,.int .u32 x6]:=by rw [← ha0];rfl
 clear ha0
 refine Yl (vals:=#[.int .u32 x0,.int .u32 x1,.int .u32 x2,.int .u32 x3,.int .u32 x4,.int .u32 x5,.int .u32 x6]) ZW Zo e0 e1 ?_;intro b0 w0 g gr gv v0 s0 d0 p30 p40 p50 hv0 S0
 refine yl (k:=8) ZW rfl Zd Zd Zo Zl p30 p40 p50 hv0 S0 ?_;intro b1 w1 v1 s1 d1 p31 p41 p51 hv1 S1
 refine yl (k:=17) ZW rfl Zd Zd Zo Zl p31 p41 p51 hv1 S1 ?_;intro b2 w2 v2 s2 d2 p32 p42 p52 hv2 S2
 refine yl (k:=26) ZW rfl Zd Zd Zo Zl p32 p42 p52 hv2 S2 ?_;intro b3 w3 v3 s3 d3 p33 p43 p53 hv3 S3
 refine yl (k:=35) ZW rfl Zd Zd Zo Zl p33 p43 p53 hv3 S3 ?_;intro b4 w4 v4 s4 d4 p34 p44 p54 hv4 S4
 refine yl (k:=44) ZW rfl Zd Zd Zo Zl p34 p44 p54 hv4 S4 ?_;intro b5 w5 v5 s5 d5 p35 p45 p55 hv5 S5
 refine yl (k:=53) ZW rfl Zd Zd Zo Zl p35 p45 p55 hv5 S5 ?_;intro b6 w6 v6 s6 d6 p36 p46 p56 hv6 S6
 refine yl (k:=62) ZW rfl Zd Zd Zo Zl p36 p46 p56 hv6 S6 ?_;intro b7 w7 v7 s7 d7 p37 p47 p57 hv7 S7
 refine YG rfl (k:=71) Zd Zo (by rw [d7,d6,d5,d4,d3,d2,d1,d0];exact hdf) p47 p57 S7 ?_
 exact fun w' v' hR hB=>⟨v',rfl,hR,hB⟩
set_option maxRecDepth 100000 in
theorem qR (onm:ByteArray) (x0 x1 x2 x3:Int) (w:World):Calls Tryz.prog 86 #[.string onm,.agg #[.int .u32 x0,.int .u32 x1,.int .u32 x2,.int .u32 x3]] w fun e w'=>∃ v,e=.returned (.agg (yK onm v))∧Kd.R k34 34 w' w.heap.size (fun _=>True) v [yz ⟨#[76,111,111,107,117,112,115]⟩ (IntKind.u64.wrap x0),yz ⟨#[67,114,101,97,116,101,115]⟩ (IntKind.u64.wrap x1),yz ⟨#[82,101,109,111,118,101,115]⟩ (IntKind.u64.wrap x2),yz ⟨#[71,101,116,100,101,110,116,115]⟩ (IntKind.u64.wrap x3)]∧Below w.heap.size w w':=by
 go_enter Tryz.func86,Tryz.ntmps86
 generalize ha0:(Act.mk _ _)=a0
 have hsz:a0.tmps.size=Tryz.f86.ntmps:=by rw [← ha0];rfl
 replace hsz:a0.tmps.size=45:=hsz.trans Zk
 have hdf:a0.defers=[]:=by rw [← ha0]
 have e0:a0.eval (.tmp 0)=.string onm:=by rw [← ha0];rfl
 have e1:a0.eval (.tmp 1)=.agg #[.int .u32 x0,.int .u32 x1,.int .u32 x2,.int .u32 x3]:=by rw [← ha0];rfl
 clear ha0
 refine Yl (vals:=#[.int .u32 x0,.int .u32 x1,.int .u32 x2,.int .u32 x3]) ZW Zo e0 e1 ?_;intro b0 w0 g gr gv v0 s0 d0 p30 p40 p50 hv0 S0
 refine yl (k:=8) ZW rfl Zd Zd Zo Zl p30 p40 p50 hv0 S0 ?_;intro b1 w1 v1 s1 d1 p31 p41 p51 hv1 S1
 refine yl (k:=17) ZW rfl Zd Zd Zo Zl p31 p41 p51 hv1 S1 ?_;intro b2 w2 v2 s2 d2 p32 p42 p52 hv2 S2
 refine yl (k:=26) ZW rfl Zd Zd Zo Zl p32 p42 p52 hv2 S2 ?_;intro b3 w3 v3 s3 d3 p33 p43 p53 hv3 S3
 refine yl (k:=35) ZW rfl Zd Zd Zo Zl p33 p43 p53 hv3 S3 ?_;intro b4 w4 v4 s4 d4 p34 p44 p54 hv4 S4
 refine YG rfl (k:=44) Zd Zo (by rw [d4,d3,d2,d1,d0];exact hdf) p44 p54 S4 ?_
 exact fun w' v' hR hB=>⟨v',rfl,hR,hB⟩
set_option maxRecDepth 100000 in
theorem yag (onm:ByteArray) (x0 x1 x2:Int) (w:World):Calls Tryz.prog 87 #[.string onm,.agg #[.int .u32 x0,.int .u32 x1,.int .u32 x2]] w fun e w'=>∃ v,e=.returned (.agg (yK onm v))∧Kd.R k34 34 w' w.heap.size (fun _=>True) v [yz ⟨#[83,121,110,99]⟩ (IntKind.u64.wrap x0),yz ⟨#[65,115,121,110,99]⟩ (IntKind.u64.wrap x1),yz ⟨#[69,109,112,116,121]⟩ (IntKind.u64.wrap x2)]∧Below w.heap.size w w':=by
 go_enter Tryz.func87,Tryz.ntmps87
 generalize ha0:(Act.mk _ _)=a0
 have hsz:a0.tmps.size=Tryz.f87.ntmps:=by rw [← ha0];rfl
 replace hsz:a0.tmps.size=36:=hsz.trans Zk
 have hdf:a0.defers=[]:=by rw [← ha0]
 have e0:a0.eval (.tmp 0)=.string onm:=by rw [← ha0];rfl
 have e1:a0.eval (.tmp 1)=.agg #[.int .u32 x0,.int .u32 x1,.int .u32 x2]:=by rw [← ha0];rfl
 clear ha0
 refine Yl (vals:=#[.int .u32 x0,.int .u32 x1,.int .u32 x2]) ZW Zo e0 e1 ?_;intro b0 w0 g gr gv v0 s0 d0 p30 p40 p50 hv0 S0
 refine yl (k:=8) ZW rfl Zd Zd Zo Zl p30 p40 p50 hv0 S0 ?_;intro b1 w1 v1 s1 d1 p31 p41 p51 hv1 S1
 refine yl (k:=17) ZW rfl Zd Zd Zo Zl p31 p41 p51 hv1 S1 ?_;intro b2 w2 v2 s2 d2 p32 p42 p52 hv2 S2
 refine yl (k:=26) ZW rfl Zd Zd Zo Zl p32 p42 p52 hv2 S2 ?_;intro b3 w3 v3 s3 d3 p33 p43 p53 hv3 S3
 refine YG rfl (k:=35) Zd Zo (by rw [d3,d2,d1,d0];exact hdf) p43 p53 S3 ?_
 exact fun w' v' hR hB=>⟨v',rfl,hR,hB⟩
set_option maxRecDepth 100000 in
theorem QC (onm:ByteArray) (x0 x1 x2 x3 x4 x5 x6:Int) (w:World):Calls Tryz.prog 88 #[.string onm,.agg #[.int .u32 x0,.int .u32 x1,.int .u32 x2,.int .u32 x3,.int .u32 x4,.int .u32 x5,.int .u32 x6]] w fun e w'=>∃ v,e=.returned (.agg (yK onm v))∧Kd.R k34 34 w' w.heap.size (fun _=>True) v [yz ⟨#[65,116,116,101,109,112,116,115]⟩ (IntKind.u64.wrap x0),yz ⟨#[70,111,117,110,100]⟩ (IntKind.u64.wrap x1),yz ⟨#[82,101,99,121,99,108,101]⟩ (IntKind.u64.wrap x2),yz ⟨#[77,105,115,115,101,100]⟩ (IntKind.u64.wrap x3),yz ⟨#[68,117,112,108,105,99,97,116,101]⟩ (IntKind.u64.wrap x4),yz ⟨#[82,101,99,108,97,105,109,115]⟩ (IntKind.u64.wrap x5),yz ⟨#[65,116,116,114,105,98,117,116,101,67,104,97,110,103,101]⟩ (IntKind.u64.wrap x6)]∧Below w.heap.size w w':=by
 go_enter Tryz.func88,Tryz.ntmps88
 generalize ha0:(Act.mk _ _)=a0
 have hsz:a0.tmps.size=Tryz.f88.ntmps:=by rw [← ha0];rfl
 replace hsz:a0.tmps.size=72:=hsz.trans Zk
 have hdf:a0.defers=[]:=by rw [← ha0]
 have e0:a0.eval (.tmp 0)=.string onm:=by rw [← ha0];rfl
 have e1:a0.eval (.tmp 1)=.agg #[.int .u32 x0,.int .u32 x1,.int .u32 x2,.int .u32 x3,.int .u32 x4,.int .u32 x5,.int .u32 x6]:=by rw [← ha0];rfl
 clear ha0
 refine Yl (vals:=#[.int .u32 x0,.int .u32 x1,.int .u32 x2,.int .u32 x3,.int .u32 x4,.int .u32 x5,.int .u32 x6]) ZW Zo e0 e1 ?_;intro b0 w0 g gr gv v0 s0 d0 p30 p40 p50 hv0 S0
 refine yl (k:=8) ZW rfl Zd Zd Zo Zl p30 p40 p50 hv0 S0 ?_;intro b1 w1 v1 s1 d1 p31 p41 p51 hv1 S1
 refine yl (k:=17) ZW rfl Zd Zd Zo Zl p31 p41 p51 hv1 S1 ?_;intro b2 w2 v2 s2 d2 p32 p42 p52 hv2 S2
 refine yl (k:=26) ZW rfl Zd Zd Zo Zl p32 p42 p52 hv2 S2 ?_;intro b3 w3 v3 s3 d3 p33 p43 p53 hv3 S3
 refine yl (k:=35) ZW rfl Zd Zd Zo Zl p33 p43 p53 hv3 S3 ?_;intro b4 w4 v4 s4 d4 p34 p44 p54 hv4 S4
 refine yl (k:=44) ZW rfl Zd Zd Zo Zl p34 p44 p54 hv4 S4 ?_;intro b5 w5 v5 s5 d5 p35 p45 p55 hv5 S5
 refine yl (k:=53) ZW rfl Zd Zd Zo Zl p35 p45 p55 hv5 S5 ?_;intro b6 w6 v6 s6 d6 p36 p46 p56 hv6 S6
 refine yl (k:=62) ZW rfl Zd Zd Zo Zl p36 p46 p56 hv6 S6 ?_;intro b7 w7 v7 s7 d7 p37 p47 p57 hv7 S7
 refine YG rfl (k:=71) Zd Zo (by rw [d7,d6,d5,d4,d3,d2,d1,d0];exact hdf) p47 p57 S7 ?_
 exact fun w' v' hR hB=>⟨v',rfl,hR,hB⟩
set_option maxRecDepth 100000 in
theorem QT (onm:ByteArray) (x0 x1 x2 x3 x4:Int) (w:World):Calls Tryz.prog 89 #[.string onm,.agg #[.int .u32 x0,.int .u32 x1,.int .u32 x2,.int .u32 x3,.int .u32 x4]] w fun e w'=>∃ v,e=.returned (.agg (yK onm v))∧Kd.R k34 34 w' w.heap.size (fun _=>True) v [yz ⟨#[87,114,105,116,101,115]⟩ (IntKind.u64.wrap x0),yz ⟨#[66,108,111,99,107,115]⟩ (IntKind.u64.wrap x1),yz ⟨#[78,111,73,110,116,101,114,110,97,108,66,117,102,102,101,114,115]⟩ (IntKind.u64.wrap x2),yz ⟨#[70,111,114,99,101]⟩ (IntKind.u64.wrap x3),yz ⟨#[70,111,114,99,101,83,108,101,101,112]⟩ (IntKind.u64.wrap x4)]∧Below w.heap.size w w':=by
 go_enter Tryz.func89,Tryz.ntmps89
 generalize ha0:(Act.mk _ _)=a0
 have hsz:a0.tmps.size=Tryz.f89.ntmps:=by rw [← ha0];rfl
 replace hsz:a0.tmps.size=54:=hsz.trans Zk
 have hdf:a0.defers=[]:=by rw [← ha0]
 have e0:a0.eval (.tmp 0)=.string onm:=by rw [← ha0];rfl
 have e1:a0.eval (.tmp 1)=.agg #[.int .u32 x0,.int .u32 x1,.int .u32 x2,.int .u32 x3,.int .u32 x4]:=by rw [← ha0];rfl
 clear ha0
 refine Yl (vals:=#[.int .u32 x0,.int .u32 x1,.int .u32 x2,.int .u32 x3,.int .u32 x4]) ZW Zo e0 e1 ?_;intro b0 w0 g gr gv v0 s0 d0 p30 p40 p50 hv0 S0
 refine yl (k:=8) ZW rfl Zd Zd Zo Zl p30 p40 p50 hv0 S0 ?_;intro b1 w1 v1 s1 d1 p31 p41 p51 hv1 S1
 refine yl (k:=17) ZW rfl Zd Zd Zo Zl p31 p41 p51 hv1 S1 ?_;intro b2 w2 v2 s2 d2 p32 p42 p52 hv2 S2
 refine yl (k:=26) ZW rfl Zd Zd Zo Zl p32 p42 p52 hv2 S2 ?_;intro b3 w3 v3 s3 d3 p33 p43 p53 hv3 S3
 refine yl (k:=35) ZW rfl Zd Zd Zo Zl p33 p43 p53 hv3 S3 ?_;intro b4 w4 v4 s4 d4 p34 p44 p54 hv4 S4
 refine yl (k:=44) ZW rfl Zd Zd Zo Zl p34 p44 p54 hv4 S4 ?_;intro b5 w5 v5 s5 d5 p35 p45 p55 hv5 S5
 refine YG rfl (k:=53) Zd Zo (by rw [d5,d4,d3,d2,d1,d0];exact hdf) p45 p55 S5 ?_
 exact fun w' v' hR hB=>⟨v',rfl,hR,hB⟩
set_option maxRecDepth 100000 in
theorem yav (onm:ByteArray) (x0 x1:Int) (w:World):Calls Tryz.prog 90 #[.string onm,.agg #[.int .u32 x0,.int .u32 x1]] w fun e w'=>∃ v,e=.returned (.agg (yK onm v))∧Kd.R k34 34 w' w.heap.size (fun _=>True) v [yz ⟨#[87,114,105,116,101]⟩ (IntKind.u64.wrap x0),yz ⟨#[82,101,97,100]⟩ (IntKind.u64.wrap x1)]∧Below w.heap.size w w':=by
 go_enter Tryz.func90,Tryz.ntmps90
 generalize ha0:(Act.mk _ _)=a0
 have hsz:a0.tmps.size=Tryz.f90.ntmps:=by rw [← ha0];rfl
 replace hsz:a0.tmps.size=27:=hsz.trans Zk
 have hdf:a0.defers=[]:=by rw [← ha0]
 have e0:a0.eval (.tmp 0)=.string onm:=by rw [← ha0];rfl
 have e1:a0.eval (.tmp 1)=.agg #[.int .u32 x0,.int .u32 x1]:=by rw [← ha0];rfl
 clear ha0
 refine Yl (vals:=#[.int .u32 x0,.int .u32 x1]) ZW Zo e0 e1 ?_;intro b0 w0 g gr gv v0 s0 d0 p30 p40 p50 hv0 S0
 refine yl (k:=8) ZW rfl Zd Zd Zo Zl p30 p40 p50 hv0 S0 ?_;intro b1 w1 v1 s1 d1 p31 p41 p51 hv1 S1
 refine yl (k:=17) ZW rfl Zd Zd Zo Zl p31 p41 p51 hv1 S1 ?_;intro b2 w2 v2 s2 d2 p32 p42 p52 hv2 S2
 refine YG rfl (k:=26) Zd Zo (by rw [d2,d1,d0];exact hdf) p42 p52 S2 ?_
 exact fun w' v' hR hB=>⟨v',rfl,hR,hB⟩
set_option maxRecDepth 100000 in
theorem qQ (onm:ByteArray) (x0 x1 x2 x3:Int) (w:World):Calls Tryz.prog 91 #[.string onm,.agg #[.int .u32 x0,.int .u32 x1,.int .u32 x2,.int .u32 x3]] w fun e w'=>∃ v,e=.returned (.agg (yK onm v))∧Kd.R k34 34 w' w.heap.size (fun _=>True) v [yz ⟨#[71,101,116]⟩ (IntKind.u64.wrap x0),yz ⟨#[83,101,116]⟩ (IntKind.u64.wrap x1),yz ⟨#[82,101,109,111,118,101]⟩ (IntKind.u64.wrap x2),yz ⟨#[76,105,115,116]⟩ (IntKind.u64.wrap x3)]∧Below w.heap.size w w':=by
 go_enter Tryz.func91,Tryz.ntmps91
 generalize ha0:(Act.mk _ _)=a0
 have hsz:a0.tmps.size=Tryz.f91.ntmps:=by rw [← ha0];rfl
 replace hsz:a0.tmps.size=45:=hsz.trans Zk
 have hdf:a0.defers=[]:=by rw [← ha0]
 have e0:a0.eval (.tmp 0)=.string onm:=by rw [← ha0];rfl
 have e1:a0.eval (.tmp 1)=.agg #[.int .u32 x0,.int .u32 x1,.int .u32 x2,.int .u32 x3]:=by rw [← ha0];rfl
 clear ha0
 refine Yl (vals:=#[.int .u32 x0,.int .u32 x1,.int .u32 x2,.int .u32 x3]) ZW Zo e0 e1 ?_;intro b0 w0 g gr gv v0 s0 d0 p30 p40 p50 hv0 S0
 refine yl (k:=8) ZW rfl Zd Zd Zo Zl p30 p40 p50 hv0 S0 ?_;intro b1 w1 v1 s1 d1 p31 p41 p51 hv1 S1
 refine yl (k:=17) ZW rfl Zd Zd Zo Zl p31 p41 p51 hv1 S1 ?_;intro b2 w2 v2 s2 d2 p32 p42 p52 hv2 S2
 refine yl (k:=26) ZW rfl Zd Zd Zo Zl p32 p42 p52 hv2 S2 ?_;intro b3 w3 v3 s3 d3 p33 p43 p53 hv3 S3
 refine yl (k:=35) ZW rfl Zd Zd Zo Zl p33 p43 p53 hv3 S3 ?_;intro b4 w4 v4 s4 d4 p34 p44 p54 hv4 S4
 refine YG rfl (k:=44) Zd Zo (by rw [d4,d3,d2,d1,d0];exact hdf) p44 p54 S4 ?_
 exact fun w' v' hR hB=>⟨v',rfl,hR,hB⟩
set_option maxRecDepth 100000 in
theorem Qq (onm:ByteArray) (x0 x1 x2:Int) (w:World):Calls Tryz.prog 92 #[.string onm,.agg #[.int .u32 x0,.int .u32 x1,.int .u32 x2]] w fun e w'=>∃ v,e=.returned (.agg (yK onm v))∧Kd.R k34 34 w' w.heap.size (fun _=>True) v [yz ⟨#[73,102,108,117,115,104]⟩ (IntKind.u64.wrap x0),yz ⟨#[70,108,117,115,104]⟩ (IntKind.u64.wrap x1),yz ⟨#[70,108,117,115,104,73,110,111,100,101]⟩ (IntKind.u64.wrap x2)]∧Below w.heap.size w w':=by
 go_enter Tryz.func92,Tryz.ntmps92
 generalize ha0:(Act.mk _ _)=a0
 have hsz:a0.tmps.size=Tryz.f92.ntmps:=by rw [← ha0];rfl
 replace hsz:a0.tmps.size=36:=hsz.trans Zk
 have hdf:a0.defers=[]:=by rw [← ha0]
 have e0:a0.eval (.tmp 0)=.string onm:=by rw [← ha0];rfl
 have e1:a0.eval (.tmp 1)=.agg #[.int .u32 x0,.int .u32 x1,.int .u32 x2]:=by rw [← ha0];rfl
 clear ha0
 refine Yl (vals:=#[.int .u32 x0,.int .u32 x1,.int .u32 x2]) ZW Zo e0 e1 ?_;intro b0 w0 g gr gv v0 s0 d0 p30 p40 p50 hv0 S0
 refine yl (k:=8) ZW rfl Zd Zd Zo Zl p30 p40 p50 hv0 S0 ?_;intro b1 w1 v1 s1 d1 p31 p41 p51 hv1 S1
 refine yl (k:=17) ZW rfl Zd Zd Zo Zl p31 p41 p51 hv1 S1 ?_;intro b2 w2 v2 s2 d2 p32 p42 p52 hv2 S2
 refine yl (k:=26) ZW rfl Zd Zd Zo Zl p32 p42 p52 hv2 S2 ?_;intro b3 w3 v3 s3 d3 p33 p43 p53 hv3 S3
 refine YG rfl (k:=35) Zd Zo (by rw [d3,d2,d1,d0];exact hdf) p43 p53 S3 ?_
 exact fun w' v' hR hB=>⟨v',rfl,hR,hB⟩
set_option maxRecDepth 100000 in
theorem ybx (onm:ByteArray) (x0 x1 x2 x3 x4 x5 x6 x7:Int) (w:World):Calls Tryz.prog 93 #[.string onm,.agg #[.int .u32 x0,.int .u32 x1,.int .u32 x2,.int .u32 x3,.int .u32 x4,.int .u32 x5,.int .u32 x6,.int .u32 x7]] w fun e w'=>∃ v,e=.returned (.agg (yK onm v))∧Kd.R k34 34 w' w.heap.size (fun _=>True) v [yz ⟨#[65,99,116,105,118,101]⟩ (IntKind.u64.wrap x0),yz ⟨#[65,108,108,111,99,97,116,101]⟩ (IntKind.u64.wrap x1),yz ⟨#[71,101,116]⟩ (IntKind.u64.wrap x2),yz ⟨#[72,111,108,100]⟩ (IntKind.u64.wrap x3),yz ⟨#[82,101,108,101,97,115,101]⟩ (IntKind.u64.wrap x4),yz ⟨#[82,101,99,108,97,105,109]⟩ (IntKind.u64.wrap x5),yz ⟨#[82,101,109,111,118,101]⟩ (IntKind.u64.wrap x6),yz ⟨#[70,114,101,101]⟩ (IntKind.u64.wrap x7)]∧Below w.heap.size w w':=by
 go_enter Tryz.func93,Tryz.ntmps93
 generalize ha0:(Act.mk _ _)=a0
 have hsz:a0.tmps.size=Tryz.f93.ntmps:=by rw [← ha0];rfl
 replace hsz:a0.tmps.size=81:=hsz.trans Zk
 have hdf:a0.defers=[]:=by rw [← ha0]
 have e0:a0.eval (.tmp 0)=.string onm:=by rw [← ha0];rfl
 have e1:a0.eval (.tmp 1)=.agg #[.int .u32 x0,.int .u32 x1,.int .u32 x2,.int .u32 x3,.int .u32 x4,.int .u32 x5,.int .u32 x6,.int .u32 x7]:=by rw [← ha0];rfl
 clear ha0
 refine Yl (vals:=#[.int .u32 x0,.int .u32 x1,.int .u32 x2,.int .u32 x3,.int .u32 x4,.int .u32 x5,.int .u32 x6,.int .u32 x7]) ZW Zo e0 e1 ?_;intro b0 w0 g gr gv v0 s0 d0 p30 p40 p50 hv0 S0
 refine yl (k:=8) ZW rfl Zd Zd Zo Zl p30 p40 p50 hv0 S0 ?_;intro b1 w1 v1 s1 d1 p31 p41 p51 hv1 S1
 refine yl (k:=17) ZW rfl Zd Zd Zo Zl p31 p41 p51 hv1 S1 ?_;intro b2 w2 v2 s2 d2 p32 p42 p52 hv2 S2
 refine yl (k:=26) ZW rfl Zd Zd Zo Zl p32 p42 p52 hv2 S2 ?_;intro b3 w3 v3 s3 d3 p33 p43 p53 hv3 S3
 refine yl (k:=35) ZW rfl Zd Zd Zo Zl p33 p43 p53 hv3 S3 ?_;intro b4 w4 v4 s4 d4 p34 p44 p54 hv4 S4
 refine yl (k:=44) ZW rfl Zd Zd Zo Zl p34 p44 p54 hv4 S4 ?_;intro b5 w5 v5 s5 d5 p35 p45 p55 hv5 S5
 refine yl (k:=53) ZW rfl Zd Zd Zo Zl p35 p45 p55 hv5 S5 ?_;intro b6 w6 v6 s6 d6 p36 p46 p56 hv6 S6
 refine yl (k:=62) ZW rfl Zd Zd Zo Zl p36 p46 p56 hv6 S6 ?_;intro b7 w7 v7 s7 d7 p37 p47 p57 hv7 S7
 refine yl (k:=71) ZW rfl Zd Zd Zo Zl p37 p47 p57 hv7 S7 ?_;intro b8 w8 v8 s8 d8 p38 p48 p58 hv8 S8
 refine YG rfl (k:=80) Zd Zo (by rw [d8,d7,d6,d5,d4,d3,d2,d1,d0];exact hdf) p48 p58 S8 ?_
 exact fun w' v' hR hB=>⟨v',rfl,hR,hB⟩
set_option maxRecDepth 100000 in
theorem ybl (onm:ByteArray) (x0 x1 x2 x3 x4 x5 x6 x7 x8:Int) (w:World):Calls Tryz.prog 94 #[.string onm,.agg #[.int .u32 x0,.int .u32 x1,.int .u32 x2,.int .u32 x3,.int .u32 x4,.int .u32 x5,.int .u32 x6,.int .u32 x7,.int .u32 x8]] w fun e w'=>∃ v,e=.returned (.agg (yK onm v))∧Kd.R k34 34 w' w.heap.size (fun _=>True) v [yz ⟨#[71,101,116]⟩ (IntKind.u64.wrap x0),yz ⟨#[67,114,101,97,116,101]⟩ (IntKind.u64.wrap x1),yz ⟨#[71,101,116,76,111,99,107,101,100]⟩ (IntKind.u64.wrap x2),yz ⟨#[71,101,116,76,111,99,107,101,100,87,97,105,116,101,100]⟩ (IntKind.u64.wrap x3),yz ⟨#[66,117,115,121,76,111,99,107,101,100]⟩ (IntKind.u64.wrap x4),yz ⟨#[77,105,115,115,76,111,99,107,101,100]⟩ (IntKind.u64.wrap x5),yz ⟨#[80,97,103,101,82,101,116,114,105,101,115]⟩ (IntKind.u64.wrap x6),yz ⟨#[80,97,103,101,70,111,117,110,100]⟩ (IntKind.u64.wrap x7),yz ⟨#[71,101,116,82,101,97,100]⟩ (IntKind.u64.wrap x8)]∧Below w.heap.size w w':=by
 go_enter Tryz.func94,Tryz.ntmps94
 generalize ha0:(Act.mk _ _)=a0
 have hsz:a0.tmps.size=Tryz.f94.ntmps:=by rw [← ha0];rfl
 replace hsz:a0.tmps.size=90:=hsz.trans Zk
 have hdf:a0.defers=[]:=by rw [← ha0]
 have e0:a0.eval (.tmp 0)=.string onm:=by rw [← ha0];rfl
 have e1:a0.eval (.tmp 1)=.agg #[.int .u32 x0,.int .u32 x1,.int .u32 x2,.int .u32 x3,.int .u32 x4,.int .u32 x5,.int .u32 x6,.int .u32 x7,.int .u32 x8]:=by rw [← ha0];rfl
 clear ha0
 refine Yl (vals:=#[.int .u32 x0,.int .u32 x1,.int .u32 x2,.int .u32 x3,.int .u32 x4,.int .u32 x5,.int .u32 x6,.int .u32 x7,.int .u32 x8]) ZW Zo e0 e1 ?_;intro b0 w0 g gr gv v0 s0 d0 p30 p40 p50 hv0 S0
 refine yl (k:=8) ZW rfl Zd Zd Zo Zl p30 p40 p50 hv0 S0 ?_;intro b1 w1 v1 s1 d1 p31 p41 p51 hv1 S1
 refine yl (k:=17) ZW rfl Zd Zd Zo Zl p31 p41 p51 hv1 S1 ?_;intro b2 w2 v2 s2 d2 p32 p42 p52 hv2 S2
 refine yl (k:=26) ZW rfl Zd Zd Zo Zl p32 p42 p52 hv2 S2 ?_;intro b3 w3 v3 s3 d3 p33 p43 p53 hv3 S3
 refine yl (k:=35) ZW rfl Zd Zd Zo Zl p33 p43 p53 hv3 S3 ?_;intro b4 w4 v4 s4 d4 p34 p44 p54 hv4 S4
 refine yl (k:=44) ZW rfl Zd Zd Zo Zl p34 p44 p54 hv4 S4 ?_;intro b5 w5 v5 s5 d5 p35 p45 p55 hv5 S5
 refine yl (k:=53) ZW rfl Zd Zd Zo Zl p35 p45 p55 hv5 S5 ?_;intro b6 w6 v6 s6 d6 p36 p46 p56 hv6 S6
 refine yl (k:=62) ZW rfl Zd Zd Zo Zl p36 p46 p56 hv6 S6 ?_;intro b7 w7 v7 s7 d7 p37 p47 p57 hv7 S7
 refine yl (k:=71) ZW rfl Zd Zd Zo Zl p37 p47 p57 hv7 S7 ?_;intro b8 w8 v8 s8 d8 p38 p48 p58 hv8 S8
 refine yl (k:=80) ZW rfl Zd Zd Zo Zl p38 p48 p58 hv8 S8 ?_;intro b9 w9 v9 s9 d9 p39 p49 p59 hv9 S9
 refine YG rfl (k:=89) Zd Zo (by rw [d9,d8,d7,d6,d5,d4,d3,d2,d1,d0];exact hdf) p49 p59 S9 ?_
 exact fun w' v' hR hB=>⟨v',rfl,hR,hB⟩
set_option maxRecDepth 100000 in
theorem qW (onm:ByteArray) (x0 x1 x2:Int) (w:World):Calls Tryz.prog 95 #[.string onm,.agg #[.int .u64 x0,.int .u64 x1,.int .u64 x2]] w fun e w'=>∃ v,e=.returned (.agg (yK onm v))∧Kd.R k34 34 w' w.heap.size (fun _=>True) v [yz ⟨#[70,108,117,115,104,66,121,116,101,115]⟩ x0,yz ⟨#[87,114,105,116,101,66,121,116,101,115]⟩ x1,yz ⟨#[82,101,97,100,66,121,116,101,115]⟩ x2]∧Below w.heap.size w w':=by
 go_enter Tryz.func95,Tryz.ntmps95
 generalize ha0:(Act.mk _ _)=a0
 have hsz:a0.tmps.size=Tryz.f95.ntmps:=by rw [← ha0];rfl
 replace hsz:a0.tmps.size=33:=hsz.trans Zk
 have hdf:a0.defers=[]:=by rw [← ha0]
 have e0:a0.eval (.tmp 0)=.string onm:=by rw [← ha0];rfl
 have e1:a0.eval (.tmp 1)=.agg #[.int .u64 x0,.int .u64 x1,.int .u64 x2]:=by rw [← ha0];rfl
 clear ha0
 refine Yl (vals:=#[.int .u64 x0,.int .u64 x1,.int .u64 x2]) ZW Zo e0 e1 ?_;intro b0 w0 g gr gv v0 s0 d0 p30 p40 p50 hv0 S0
 refine ybS (k:=8) ZW rfl Zd Zd Zo Zl p30 p40 p50 hv0 S0 ?_;intro b1 w1 v1 s1 d1 p31 p41 p51 hv1 S1
 refine ybS (k:=16) ZW rfl Zd Zd Zo Zl p31 p41 p51 hv1 S1 ?_;intro b2 w2 v2 s2 d2 p32 p42 p52 hv2 S2
 refine ybS (k:=24) ZW rfl Zd Zd Zo Zl p32 p42 p52 hv2 S2 ?_;intro b3 w3 v3 s3 d3 p33 p43 p53 hv3 S3
 refine YG rfl (k:=32) Zd Zo (by rw [d3,d2,d1,d0];exact hdf) p43 p53 S3 ?_
 exact fun w' v' hR hB=>⟨v',rfl,hR,hB⟩
set_option maxRecDepth 100000 in
theorem ybk (onm:ByteArray) (x0 x1:Int) (w:World):Calls Tryz.prog 96 #[.string onm,.agg #[.int .u32 x0,.int .u32 x1]] w fun e w'=>∃ v,e=.returned (.agg (yK onm v))∧Kd.R k34 34 w' w.heap.size (fun _=>True) v [yz ⟨#[81,117,105,99,107]⟩ (IntKind.u64.wrap x0),yz ⟨#[83,112,108,105,116]⟩ (IntKind.u64.wrap x1)]∧Below w.heap.size w w':=by
 go_enter Tryz.func96,Tryz.ntmps96
 generalize ha0:(Act.mk _ _)=a0
 have hsz:a0.tmps.size=Tryz.f96.ntmps:=by rw [← ha0];rfl
 replace hsz:a0.tmps.size=27:=hsz.trans Zk
 have hdf:a0.defers=[]:=by rw [← ha0]
 have e0:a0.eval (.tmp 0)=.string onm:=by rw [← ha0];rfl
 have e1:a0.eval (.tmp 1)=.agg #[.int .u32 x0,.int .u32 x1]:=by rw [← ha0];rfl
 clear ha0
 refine Yl (vals:=#[.int .u32 x0,.int .u32 x1]) ZW Zo e0 e1 ?_;intro b0 w0 g gr gv v0 s0 d0 p30 p40 p50 hv0 S0
 refine yl (k:=8) ZW rfl Zd Zd Zo Zl p30 p40 p50 hv0 S0 ?_;intro b1 w1 v1 s1 d1 p31 p41 p51 hv1 S1
 refine yl (k:=17) ZW rfl Zd Zd Zo Zl p31 p41 p51 hv1 S1 ?_;intro b2 w2 v2 s2 d2 p32 p42 p52 hv2 S2
 refine YG rfl (k:=26) Zd Zo (by rw [d2,d1,d0];exact hdf) p42 p52 S2 ?_
 exact fun w' v' hR hB=>⟨v',rfl,hR,hB⟩
set_option maxRecDepth 100000 in
theorem ya7 (onm:ByteArray) (x0 x1 x2 x3 x4 x5 x6 x7 x8 x9:Int) (w:World):Calls Tryz.prog 97 #[.string onm,.agg #[.int .u32 x0,.int .u32 x1,.int .u32 x2,.int .u32 x3,.int .u32 x4,.int .u32 x5,.int .u32 x6,.int .u32 x7,.int .u32 x8,.int .u32 x9]] w fun e w'=>∃ v,e=.returned (.agg (yK onm v))∧Kd.R k34 34 w' w.heap.size (fun _=>True) v [yz ⟨#[84,114,121,76,111,103,115,112,97,99,101]⟩ (IntKind.u64.wrap x0),yz ⟨#[83,108,101,101,112,76,111,103,115,112,97,99,101]⟩ (IntKind.u64.wrap x1),yz ⟨#[80,117,115,104,101,115]⟩ (IntKind.u64.wrap x2),yz ⟨#[83,117,99,99,101,115,115]⟩ (IntKind.u64.wrap x3),yz ⟨#[80,117,115,104,66,117,102]⟩ (IntKind.u64.wrap x4),yz ⟨#[80,105,110,110,101,100]⟩ (IntKind.u64.wrap x5),yz ⟨#[76,111,99,107,101,100]⟩ (IntKind.u64.wrap x6),yz ⟨#[70,108,117,115,104,105,110,103]⟩ (IntKind.u64.wrap x7),yz ⟨#[82,101,115,116,97,114,116,115]⟩ (IntKind.u64.wrap x8),yz ⟨#[70,108,117,115,104]⟩ (IntKind.u64.wrap x9)]∧Below w.heap.size w w':=by
 go_enter Tryz.func97,Tryz.ntmps97
 generalize ha0:(Act.mk _ _)=a0
 have hsz:a0.tmps.size=Tryz.f97.ntmps:=by rw [← ha0];rfl
 replace hsz:a0.tmps.size=99:=hsz.trans Zk
 have hdf:a0.defers=[]:=by rw [← ha0]
 have e0:a0.eval (.tmp 0)=.string onm:=by rw [← ha0];rfl
 have e1:a0.eval (.tmp 1)=.agg #[.int .u32 x0,.int .u32 x1,.int .u32 x2,.int .u32 x3,.int .u32 x4,.int .u32 x5,.int .u32 x6,.int .u32 x7,.int .u32 x8,.int .u32 x9]:=by rw [← ha0];rfl
 clear ha0
 refine Yl (vals:=#[.int .u32 x0,.int .u32 x1,.int .u32 x2,.int .u32 x3,.int .u32 x4,.int .u32 x5,.int .u32 x6,.int .u32 x7,.int .u32 x8,.int .u32 x9]) ZW Zo e0 e1 ?_;intro b0 w0 g gr gv v0 s0 d0 p30 p40 p50 hv0 S0
 refine yl (k:=8) ZW rfl Zd Zd Zo Zl p30 p40 p50 hv0 S0 ?_;intro b1 w1 v1 s1 d1 p31 p41 p51 hv1 S1
 refine yl (k:=17) ZW rfl Zd Zd Zo Zl p31 p41 p51 hv1 S1 ?_;intro b2 w2 v2 s2 d2 p32 p42 p52 hv2 S2
 refine yl (k:=26) ZW rfl Zd Zd Zo Zl p32 p42 p52 hv2 S2 ?_;intro b3 w3 v3 s3 d3 p33 p43 p53 hv3 S3
 refine yl (k:=35) ZW rfl Zd Zd Zo Zl p33 p43 p53 hv3 S3 ?_;intro b4 w4 v4 s4 d4 p34 p44 p54 hv4 S4
 refine yl (k:=44) ZW rfl Zd Zd Zo Zl p34 p44 p54 hv4 S4 ?_;intro b5 w5 v5 s5 d5 p35 p45 p55 hv5 S5
 refine yl (k:=53) ZW rfl Zd Zd Zo Zl p35 p45 p55 hv5 S5 ?_;intro b6 w6 v6 s6 d6 p36 p46 p56 hv6 S6
 refine yl (k:=62) ZW rfl Zd Zd Zo Zl p36 p46 p56 hv6 S6 ?_;intro b7 w7 v7 s7 d7 p37 p47 p57 hv7 S7
 refine yl (k:=71) ZW rfl Zd Zd Zo Zl p37 p47 p57 hv7 S7 ?_;intro b8 w8 v8 s8 d8 p38 p48 p58 hv8 S8
 refine yl (k:=80) ZW rfl Zd Zd Zo Zl p38 p48 p58 hv8 S8 ?_;intro b9 w9 v9 s9 d9 p39 p49 p59 hv9 S9
 refine yl (k:=89) ZW rfl Zd Zd Zo Zl p39 p49 p59 hv9 S9 ?_;intro b10 w10 v10 s10 d10 p310 p410 p510 hv10 S10
 refine YG rfl (k:=98) Zd Zo (by rw [d10,d9,d8,d7,d6,d5,d4,d3,d2,d1,d0];exact hdf) p410 p510 S10 ?_
 exact fun w' v' hR hB=>⟨v',rfl,hR,hB⟩
set_option maxRecDepth 100000 in
theorem ybC (onm:ByteArray) (x0:Int) (w:World):Calls Tryz.prog 98 #[.string onm,.agg #[.int .u32 x0]] w fun e w'=>∃ v,e=.returned (.agg (yK onm v))∧Kd.R k34 34 w' w.heap.size (fun _=>True) v [yz ⟨#[69,110,97,98,108,101,100]⟩ (IntKind.u64.wrap x0)]∧Below w.heap.size w w':=by
 go_enter Tryz.func98,Tryz.ntmps98
 generalize ha0:(Act.mk _ _)=a0
 have hsz:a0.tmps.size=Tryz.f98.ntmps:=by rw [← ha0];rfl
 replace hsz:a0.tmps.size=18:=hsz.trans Zk
 have hdf:a0.defers=[]:=by rw [← ha0]
 have e0:a0.eval (.tmp 0)=.string onm:=by rw [← ha0];rfl
 have e1:a0.eval (.tmp 1)=.agg #[.int .u32 x0]:=by rw [← ha0];rfl
 clear ha0
 refine Yl (vals:=#[.int .u32 x0]) ZW Zo e0 e1 ?_;intro b0 w0 g gr gv v0 s0 d0 p30 p40 p50 hv0 S0
 refine yl (k:=8) ZW rfl Zd Zd Zo Zl p30 p40 p50 hv0 S0 ?_;intro b1 w1 v1 s1 d1 p31 p41 p51 hv1 S1
 refine YG rfl (k:=17) Zd Zo (by rw [d1,d0];exact hdf) p41 p51 S1 ?_
 exact fun w' v' hR hB=>⟨v',rfl,hR,hB⟩
set_option maxRecDepth 100000 in
theorem QY (onm:ByteArray) (x0 x1 x2 x3 x4 x5 x6 x7 x8:Int) (w:World):Calls Tryz.prog 99 #[.string onm,.agg #[.int .u32 x0,.int .u32 x1,.int .u32 x2,.int .u32 x3,.int .u32 x4,.int .u32 x5,.int .u32 x6,.int .u32 x7,.int .u32 x8]] w fun e w'=>∃ v,e=.returned (.agg (yK onm v))∧Kd.R k34 34 w' w.heap.size (fun _=>True) v [yz ⟨#[82,101,99,108,97,105,109,115]⟩ (IntKind.u64.wrap x0),yz ⟨#[82,101,99,108,97,105,109,77,105,115,115,101,115]⟩ (IntKind.u64.wrap x1),yz ⟨#[68,113,117,111,116,101,68,117,112,115]⟩ (IntKind.u64.wrap x2),yz ⟨#[67,97,99,104,101,77,105,115,115,101,115]⟩ (IntKind.u64.wrap x3),yz ⟨#[67,97,99,104,101,72,105,116,115]⟩ (IntKind.u64.wrap x4),yz ⟨#[87,97,110,116,115]⟩ (IntKind.u64.wrap x5),yz ⟨#[83,104,97,107,101,82,101,99,108,97,105,109,115]⟩ (IntKind.u64.wrap x6),yz ⟨#[73,110,97,99,116,82,101,99,108,97,105,109,115]⟩ (IntKind.u64.wrap x7),yz ⟨#[85,110,117,115,101,100]⟩ (IntKind.u64.wrap x8)]∧Below w.heap.size w w':=by
 go_enter Tryz.func99,Tryz.ntmps99
 generalize ha0:(Act.mk _ _)=a0
 have hsz:a0.tmps.size=Tryz.f99.ntmps:=by rw [← ha0];rfl
 replace hsz:a0.tmps.size=90:=hsz.trans Zk
 have hdf:a0.defers=[]:=by rw [← ha0]
 have e0:a0.eval (.tmp 0)=.string onm:=by rw [← ha0];rfl
 have e1:a0.eval (.tmp 1)=.agg #[.int .u32 x0,.int .u32 x1,.int .u32 x2,.int .u32 x3,.int .u32 x4,.int .u32 x5,.int .u32 x6,.int .u32 x7,.int .u32 x8]:=by rw [← ha0];rfl
 clear ha0
 refine Yl (vals:=#[.int .u32 x0,.int .u32 x1,.int .u32 x2,.int .u32 x3,.int .u32 x4,.int .u32 x5,.int .u32 x6,.int .u32 x7,.int .u32 x8]) ZW Zo e0 e1 ?_;intro b0 w0 g gr gv v0 s0 d0 p30 p40 p50 hv0 S0
 refine yl (k:=8) ZW rfl Zd Zd Zo Zl p30 p40 p50 hv0 S0 ?_;intro b1 w1 v1 s1 d1 p31 p41 p51 hv1 S1
 refine yl (k:=17) ZW rfl Zd Zd Zo Zl p31 p41 p51 hv1 S1 ?_;intro b2 w2 v2 s2 d2 p32 p42 p52 hv2 S2
 refine yl (k:=26) ZW rfl Zd Zd Zo Zl p32 p42 p52 hv2 S2 ?_;intro b3 w3 v3 s3 d3 p33 p43 p53 hv3 S3
 refine yl (k:=35) ZW rfl Zd Zd Zo Zl p33 p43 p53 hv3 S3 ?_;intro b4 w4 v4 s4 d4 p34 p44 p54 hv4 S4
 refine yl (k:=44) ZW rfl Zd Zd Zo Zl p34 p44 p54 hv4 S4 ?_;intro b5 w5 v5 s5 d5 p35 p45 p55 hv5 S5
 refine yl (k:=53) ZW rfl Zd Zd Zo Zl p35 p45 p55 hv5 S5 ?_;intro b6 w6 v6 s6 d6 p36 p46 p56 hv6 S6
 refine yl (k:=62) ZW rfl Zd Zd Zo Zl p36 p46 p56 hv6 S6 ?_;intro b7 w7 v7 s7 d7 p37 p47 p57 hv7 S7
 refine yl (k:=71) ZW rfl Zd Zd Zo Zl p37 p47 p57 hv7 S7 ?_;intro b8 w8 v8 s8 d8 p38 p48 p58 hv8 S8
 refine yl (k:=80) ZW rfl Zd Zd Zo Zl p38 p48 p58 hv8 S8 ?_;intro b9 w9 v9 s9 d9 p39 p49 p59 hv9 S9
 refine YG rfl (k:=89) Zd Zo (by rw [d9,d8,d7,d6,d5,d4,d3,d2,d1,d0];exact hdf) p49 p59 S9 ?_
 exact fun w' v' hR hB=>⟨v',rfl,hR,hB⟩
set_option maxRecDepth 100000 in
theorem Qd (onm:ByteArray) (x0 x1 x2 x3 x4 x5 x6 x7 x8 x9 x10 x11 x12 x13 x14:Int) (w:World):Calls Tryz.prog 100 #[.string onm,.agg #[.int .u32 x0,.int .u32 x1,.int .u32 x2,.int .u32 x3,.int .u32 x4,.int .u32 x5,.int .u32 x6,.int .u32 x7,.int .u32 x8,.int .u32 x9,.int .u32 x10,.int .u32 x11,.int .u32 x12,.int .u32 x13,.int .u32 x14]] w fun e w'=>∃ v,e=.returned (.agg (yK onm v))∧Kd.R k34 34 w' w.heap.size (fun _=>True) v [yz ⟨#[76,111,111,107,117,112]⟩ (IntKind.u64.wrap x0),yz ⟨#[67,111,109,112,97,114,101]⟩ (IntKind.u64.wrap x1),yz ⟨#[73,110,115,114,101,99]⟩ (IntKind.u64.wrap x2),yz ⟨#[68,101,108,114,101,99]⟩ (IntKind.u64.wrap x3),yz ⟨#[78,101,119,82,111,111,116]⟩ (IntKind.u64.wrap x4),yz ⟨#[75,105,108,108,82,111,111,116]⟩ (IntKind.u64.wrap x5),yz ⟨#[73,110,99,114,101,109,101,110,116]⟩ (IntKind.u64.wrap x6),yz ⟨#[68,101,99,114,101,109,101,110,116]⟩ (IntKind.u64.wrap x7),yz ⟨#[76,115,104,105,102,116]⟩ (IntKind.u64.wrap x8),yz ⟨#[82,115,104,105,102,116]⟩ (IntKind.u64.wrap x9),yz ⟨#[83,112,108,105,116]⟩ (IntKind.u64.wrap x10),yz ⟨#[74,111,105,110]⟩ (IntKind.u64.wrap x11),yz ⟨#[65,108,108,111,99]⟩ (IntKind.u64.wrap x12),yz ⟨#[70,114,101,101]⟩ (IntKind.u64.wrap x13),yz ⟨#[77,111,118,101,115]⟩ (IntKind.u64.wrap x14)]∧Below w.heap.size w w':=by
 go_enter Tryz.func100,Tryz.ntmps100
 generalize ha0:(Act.mk _ _)=a0
 have hsz:a0.tmps.size=Tryz.f100.ntmps:=by rw [← ha0];rfl
 replace hsz:a0.tmps.size=144:=hsz.trans Zk
 have hdf:a0.defers=[]:=by rw [← ha0]
 have e0:a0.eval (.tmp 0)=.string onm:=by rw [← ha0];rfl
 have e1:a0.eval (.tmp 1)=.agg #[.int .u32 x0,.int .u32 x1,.int .u32 x2,.int .u32 x3,.int .u32 x4,.int .u32 x5,.int .u32 x6,.int .u32 x7,.int .u32 x8,.int .u32 x9,.int .u32 x10,.int .u32 x11,.int .u32 x12,.int .u32 x13,.int .u32 x14]:=by rw [← ha0];rfl
 clear ha0
 refine Yl (vals:=#[.int .u32 x0,.int .u32 x1,.int .u32 x2,.int .u32 x3,.int .u32 x4,.int .u32 x5,.int .u32 x6,.int .u32 x7,.int .u32 x8,.int .u32 x9,.int .u32 x10,.int .u32 x11,.int .u32 x12,.int .u32 x13,.int .u32 x14]) ZW Zo e0 e1 ?_;intro b0 w0 g gr gv v0 s0 d0 p30 p40 p50 hv0 S0
 refine yl (k:=8) ZW rfl Zd Zd Zo Zl p30 p40 p50 hv0 S0 ?_;intro b1 w1 v1 s1 d1 p31 p41 p51 hv1 S1
 refine yl (k:=17) ZW rfl Zd Zd Zo Zl p31 p41 p51 hv1 S1 ?_;intro b2 w2 v2 s2 d2 p32 p42 p52 hv2 S2
 refine yl (k:=26) ZW rfl Zd Zd Zo Zl p32 p42 p52 hv2 S2 ?_;intro b3 w3 v3 s3 d3 p33 p43 p53 hv3 S3
 refine yl (k:=35) ZW rfl Zd Zd Zo Zl p33 p43 p53 hv3 S3 ?_;intro b4 w4 v4 s4 d4 p34 p44 p54 hv4 S4
 refine yl (k:=44) ZW rfl Zd Zd Zo Zl p34 p44 p54 hv4 S4 ?_;intro b5 w5 v5 s5 d5 p35 p45 p55 hv5 S5
 refine yl (k:=53) ZW rfl Zd Zd Zo Zl p35 p45 p55 hv5 S5 ?_;intro b6 w6 v6 s6 d6 p36 p46 p56 hv6 S6
 refine yl (k:=62) ZW rfl Zd Zd Zo Zl p36 p46 p56 hv6 S6 ?_;intro b7 w7 v7 s7 d7 p37 p47 p57 hv7 S7
 refine yl (k:=71) ZW rfl Zd Zd Zo Zl p37 p47 p57 hv7 S7 ?_;intro b8 w8 v8 s8 d8 p38 p48 p58 hv8 S8
 refine yl (k:=80) ZW rfl Zd Zd Zo Zl p38 p48 p58 hv8 S8 ?_;intro b9 w9 v9 s9 d9 p39 p49 p59 hv9 S9
 refine yl (k:=89) ZW rfl Zd Zd Zo Zl p39 p49 p59 hv9 S9 ?_;intro b10 w10 v10 s10 d10 p310 p410 p510 hv10 S10
 refine yl (k:=98) ZW rfl Zd Zd Zo Zl p310 p410 p510 hv10 S10 ?_;intro b11 w11 v11 s11 d11 p311 p411 p511 hv11 S11
 refine yl (k:=107) ZW rfl Zd Zd Zo Zl p311 p411 p511 hv11 S11 ?_;intro b12 w12 v12 s12 d12 p312 p412 p512 hv12 S12
 refine yl (k:=116) ZW rfl Zd Zd Zo Zl p312 p412 p512 hv12 S12 ?_;intro b13 w13 v13 s13 d13 p313 p413 p513 hv13 S13
 refine yl (k:=125) ZW rfl Zd Zd Zo Zl p313 p413 p513 hv13 S13 ?_;intro b14 w14 v14 s14 d14 p314 p414 p514 hv14 S14
 refine yl (k:=134) ZW rfl Zd Zd Zo Zl p314 p414 p514 hv14 S14 ?_;intro b15 w15 v15 s15 d15 p315 p415 p515 hv15 S15
 refine YG rfl (k:=143) Zd Zo (by rw [d15,d14,d13,d12,d11,d10,d9,d8,d7,d6,d5,d4,d3,d2,d1,d0];exact hdf) p415 p515 S15 ?_
 exact fun w' v' hR hB=>⟨v',rfl,hR,hB⟩
set_option maxRecDepth 100000 in
theorem qZ (onm:ByteArray) (x0 x1 x2 x3 x4 x5 x6 x7 x8 x9 x10 x11 x12 x13 x14:Int) (w:World):Calls Tryz.prog 101 #[.string onm,.agg #[.int .u32 x0,.int .u32 x1,.int .u32 x2,.int .u32 x3,.int .u32 x4,.int .u32 x5,.int .u32 x6,.int .u32 x7,.int .u32 x8,.int .u32 x9,.int .u32 x10,.int .u32 x11,.int .u32 x12,.int .u32 x13,.int .u32 x14]] w fun e w'=>∃ v,e=.returned (.agg (yK onm v))∧Kd.R k34 34 w' w.heap.size (fun _=>True) v [yz ⟨#[76,111,111,107,117,112]⟩ (IntKind.u64.wrap x0),yz ⟨#[67,111,109,112,97,114,101]⟩ (IntKind.u64.wrap x1),yz ⟨#[73,110,115,114,101,99]⟩ (IntKind.u64.wrap x2),yz ⟨#[68,101,108,114,101,99]⟩ (IntKind.u64.wrap x3),yz ⟨#[78,101,119,82,111,111,116]⟩ (IntKind.u64.wrap x4),yz ⟨#[75,105,108,108,82,111,111,116]⟩ (IntKind.u64.wrap x5),yz ⟨#[73,110,99,114,101,109,101,110,116]⟩ (IntKind.u64.wrap x6),yz ⟨#[68,101,99,114,101,109,101,110,116]⟩ (IntKind.u64.wrap x7),yz ⟨#[76,115,104,105,102,116]⟩ (IntKind.u64.wrap x8),yz ⟨#[82,115,104,105,102,116]⟩ (IntKind.u64.wrap x9),yz ⟨#[83,112,108,105,116]⟩ (IntKind.u64.wrap x10),yz ⟨#[74,111,105,110]⟩ (IntKind.u64.wrap x11),yz ⟨#[65,108,108,111,99]⟩ (IntKind.u64.wrap x12),yz ⟨#[70,114,101,101]⟩ (IntKind.u64.wrap x13),yz ⟨#[77,111,118,101,115]⟩ (IntKind.u64.wrap x14)]∧Below w.heap.size w w':=by
 go_enter Tryz.func101,Tryz.ntmps101
 generalize ha0:(Act.mk _ _)=a0
 have hsz:a0.tmps.size=Tryz.f101.ntmps:=by rw [← ha0];rfl
 replace hsz:a0.tmps.size=144:=hsz.trans Zk
 have hdf:a0.defers=[]:=by rw [← ha0]
 have e0:a0.eval (.tmp 0)=.string onm:=by rw [← ha0];rfl
 have e1:a0.eval (.tmp 1)=.agg #[.int .u32 x0,.int .u32 x1,.int .u32 x2,.int .u32 x3,.int .u32 x4,.int .u32 x5,.int .u32 x6,.int .u32 x7,.int .u32 x8,.int .u32 x9,.int .u32 x10,.int .u32 x11,.int .u32 x12,.int .u32 x13,.int .u32 x14]:=by rw [← ha0];rfl
 clear ha0
 refine Yl (vals:=#[.int .u32 x0,.int .u32 x1,.int .u32 x2,.int .u32 x3,.int .u32 x4,.int .u32 x5,.int .u32 x6,.int .u32 x7,.int .u32 x8,.int .u32 x9,.int .u32 x10,.int .u32 x11,.int .u32 x12,.int .u32 x13,.int .u32 x14]) ZW Zo e0 e1 ?_;intro b0 w0 g gr gv v0 s0 d0 p30 p40 p50 hv0 S0
 refine yl (k:=8) ZW rfl Zd Zd Zo Zl p30 p40 p50 hv0 S0 ?_;intro b1 w1 v1 s1 d1 p31 p41 p51 hv1 S1
 refine yl (k:=17) ZW rfl Zd Zd Zo Zl p31 p41 p51 hv1 S1 ?_;intro b2 w2 v2 s2 d2 p32 p42 p52 hv2 S2
 refine yl (k:=26) ZW rfl Zd Zd Zo Zl p32 p42 p52 hv2 S2 ?_;intro b3 w3 v3 s3 d3 p33 p43 p53 hv3 S3
 refine yl (k:=35) ZW rfl Zd Zd Zo Zl p33 p43 p53 hv3 S3 ?_;intro b4 w4 v4 s4 d4 p34 p44 p54 hv4 S4
 refine yl (k:=44) ZW rfl Zd Zd Zo Zl p34 p44 p54 hv4 S4 ?_;intro b5 w5 v5 s5 d5 p35 p45 p55 hv5 S5
 refine yl (k:=53) ZW rfl Zd Zd Zo Zl p35 p45 p55 hv5 S5 ?_;intro b6 w6 v6 s6 d6 p36 p46 p56 hv6 S6
 refine yl (k:=62) ZW rfl Zd Zd Zo Zl p36 p46 p56 hv6 S6 ?_;intro b7 w7 v7 s7 d7 p37 p47 p57 hv7 S7
 refine yl (k:=71) ZW rfl Zd Zd Zo Zl p37 p47 p57 hv7 S7 ?_;intro b8 w8 v8 s8 d8 p38 p48 p58 hv8 S8
 refine yl (k:=80) ZW rfl Zd Zd Zo Zl p38 p48 p58 hv8 S8 ?_;intro b9 w9 v9 s9 d9 p39 p49 p59 hv9 S9
 refine yl (k:=89) ZW rfl Zd Zd Zo Zl p39 p49 p59 hv9 S9 ?_;intro b10 w10 v10 s10 d10 p310 p410 p510 hv10 S10
 refine yl (k:=98) ZW rfl Zd Zd Zo Zl p310 p410 p510 hv10 S10 ?_;intro b11 w11 v11 s11 d11 p311 p411 p511 hv11 S11
 refine yl (k:=107) ZW rfl Zd Zd Zo Zl p311 p411 p511 hv11 S11 ?_;intro b12 w12 v12 s12 d12 p312 p412 p512 hv12 S12
 refine yl (k:=116) ZW rfl Zd Zd Zo Zl p312 p412 p512 hv12 S12 ?_;intro b13 w13 v13 s13 d13 p313 p413 p513 hv13 S13
 refine yl (k:=125) ZW rfl Zd Zd Zo Zl p313 p413 p513 hv13 S13 ?_;intro b14 w14 v14 s14 d14 p314 p414 p514 hv14 S14
 refine yl (k:=134) ZW rfl Zd Zd Zo Zl p314 p414 p514 hv14 S14 ?_;intro b15 w15 v15 s15 d15 p315 p415 p515 hv15 S15
 refine YG rfl (k:=143) Zd Zo (by rw [d15,d14,d13,d12,d11,d10,d9,d8,d7,d6,d5,d4,d3,d2,d1,d0];exact hdf) p415 p515 S15 ?_
 exact fun w' v' hR hB=>⟨v',rfl,hR,hB⟩
set_option maxRecDepth 100000 in
theorem QF (onm:ByteArray) (x0 x1 x2 x3 x4 x5 x6 x7 x8 x9 x10 x11 x12 x13 x14:Int) (w:World):Calls Tryz.prog 102 #[.string onm,.agg #[.int .u32 x0,.int .u32 x1,.int .u32 x2,.int .u32 x3,.int .u32 x4,.int .u32 x5,.int .u32 x6,.int .u32 x7,.int .u32 x8,.int .u32 x9,.int .u32 x10,.int .u32 x11,.int .u32 x12,.int .u32 x13,.int .u32 x14]] w fun e w'=>∃ v,e=.returned (.agg (yK onm v))∧Kd.R k34 34 w' w.heap.size (fun _=>True) v [yz ⟨#[76,111,111,107,117,112]⟩ (IntKind.u64.wrap x0),yz ⟨#[67,111,109,112,97,114,101]⟩ (IntKind.u64.wrap x1),yz ⟨#[73,110,115,114,101,99]⟩ (IntKind.u64.wrap x2),yz ⟨#[68,101,108,114,101,99]⟩ (IntKind.u64.wrap x3),yz ⟨#[78,101,119,82,111,111,116]⟩ (IntKind.u64.wrap x4),yz ⟨#[75,105,108,108,82,111,111,116]⟩ (IntKind.u64.wrap x5),yz ⟨#[73,110,99,114,101,109,101,110,116]⟩ (IntKind.u64.wrap x6),yz ⟨#[68,101,99,114,101,109,101,110,116]⟩ (IntKind.u64.wrap x7),yz ⟨#[76,115,104,105,102,116]⟩ (IntKind.u64.wrap x8),yz ⟨#[82,115,104,105,102,116]⟩ (IntKind.u64.wrap x9),yz ⟨#[83,112,108,105,116]⟩ (IntKind.u64.wrap x10),yz ⟨#[74,111,105,110]⟩ (IntKind.u64.wrap x11),yz ⟨#[65,108,108,111,99]⟩ (IntKind.u64.wrap x12),yz ⟨#[70,114,101,101]⟩ (IntKind.u64.wrap x13),yz ⟨#[77,111,118,101,115]⟩ (IntKind.u64.wrap x14)]∧Below w.heap.size w w':=by
 go_enter Tryz.func102,Tryz.ntmps102
 generalize ha0:(Act.mk _ _)=a0
 have hsz:a0.tmps.size=Tryz.f102.ntmps:=by rw [← ha0];rfl
 replace hsz:a0.tmps.size=144:=hsz.trans Zk
 have hdf:a0.defers=[]:=by rw [← ha0]
 have e0:a0.eval (.tmp 0)=.string onm:=by rw [← ha0];rfl
 have e1:a0.eval (.tmp 1)=.agg #[.int .u32 x0,.int .u32 x1,.int .u32 x2,.int .u32 x3,.int .u32 x4,.int .u32 x5,.int .u32 x6,.int .u32 x7,.int .u32 x8,.int .u32 x9,.int .u32 x10,.int .u32 x11,.int .u32 x12,.int .u32 x13,.int .u32 x14]:=by rw [← ha0];rfl
 clear ha0
 refine Yl (vals:=#[.int .u32 x0,.int .u32 x1,.int .u32 x2,.int .u32 x3,.int .u32 x4,.int .u32 x5,.int .u32 x6,.int .u32 x7,.int .u32 x8,.int .u32 x9,.int .u32 x10,.int .u32 x11,.int .u32 x12,.int .u32 x13,.int .u32 x14]) ZW Zo e0 e1 ?_;intro b0 w0 g gr gv v0 s0 d0 p30 p40 p50 hv0 S0
 refine yl (k:=8) ZW rfl Zd Zd Zo Zl p30 p40 p50 hv0 S0 ?_;intro b1 w1 v1 s1 d1 p31 p41 p51 hv1 S1
 refine yl (k:=17) ZW rfl Zd Zd Zo Zl p31 p41 p51 hv1 S1 ?_;intro b2 w2 v2 s2 d2 p32 p42 p52 hv2 S2
 refine yl (k:=26) ZW rfl Zd Zd Zo Zl p32 p42 p52 hv2 S2 ?_;intro b3 w3 v3 s3 d3 p33 p43 p53 hv3 S3
 refine yl (k:=35) ZW rfl Zd Zd Zo Zl p33 p43 p53 hv3 S3 ?_;intro b4 w4 v4 s4 d4 p34 p44 p54 hv4 S4
 refine yl (k:=44) ZW rfl Zd Zd Zo Zl p34 p44 p54 hv4 S4 ?_;intro b5 w5 v5 s5 d5 p35 p45 p55 hv5 S5
 refine yl (k:=53) ZW rfl Zd Zd Zo Zl p35 p45 p55 hv5 S5 ?_;intro b6 w6 v6 s6 d6 p36 p46 p56 hv6 S6
 refine yl (k:=62) ZW rfl Zd Zd Zo Zl p36 p46 p56 hv6 S6 ?_;intro b7 w7 v7 s7 d7 p37 p47 p57 hv7 S7
 refine yl (k:=71) ZW rfl Zd Zd Zo Zl p37 p47 p57 hv7 S7 ?_;intro b8 w8 v8 s8 d8 p38 p48 p58 hv8 S8
 refine yl (k:=80) ZW rfl Zd Zd Zo Zl p38 p48 p58 hv8 S8 ?_;intro b9 w9 v9 s9 d9 p39 p49 p59 hv9 S9
 refine yl (k:=89) ZW rfl Zd Zd Zo Zl p39 p49 p59 hv9 S9 ?_;intro b10 w10 v10 s10 d10 p310 p410 p510 hv10 S10
 refine yl (k:=98) ZW rfl Zd Zd Zo Zl p310 p410 p510 hv10 S10 ?_;intro b11 w11 v11 s11 d11 p311 p411 p511 hv11 S11
 refine yl (k:=107) ZW rfl Zd Zd Zo Zl p311 p411 p511 hv11 S11 ?_;intro b12 w12 v12 s12 d12 p312 p412 p512 hv12 S12
 refine yl (k:=116) ZW rfl Zd Zd Zo Zl p312 p412 p512 hv12 S12 ?_;intro b13 w13 v13 s13 d13 p313 p413 p513 hv13 S13
 refine yl (k:=125) ZW rfl Zd Zd Zo Zl p313 p413 p513 hv13 S13 ?_;intro b14 w14 v14 s14 d14 p314 p414 p514 hv14 S14
 refine yl (k:=134) ZW rfl Zd Zd Zo Zl p314 p414 p514 hv14 S14 ?_;intro b15 w15 v15 s15 d15 p315 p415 p515 hv15 S15
 refine YG rfl (k:=143) Zd Zo (by rw [d15,d14,d13,d12,d11,d10,d9,d8,d7,d6,d5,d4,d3,d2,d1,d0];exact hdf) p415 p515 S15 ?_
 exact fun w' v' hR hB=>⟨v',rfl,hR,hB⟩
set_option maxRecDepth 100000 in
theorem Q9 (onm:ByteArray) (x0 x1 x2 x3 x4 x5 x6 x7 x8 x9 x10 x11 x12 x13 x14:Int) (w:World):Calls Tryz.prog 103 #[.string onm,.agg #[.int .u32 x0,.int .u32 x1,.int .u32 x2,.int .u32 x3,.int .u32 x4,.int .u32 x5,.int .u32 x6,.int .u32 x7,.int .u32 x8,.int .u32 x9,.int .u32 x10,.int .u32 x11,.int .u32 x12,.int .u32 x13,.int .u32 x14]] w fun e w'=>∃ v,e=.returned (.agg (yK onm v))∧Kd.R k34 34 w' w.heap.size (fun _=>True) v [yz ⟨#[76,111,111,107,117,112]⟩ (IntKind.u64.wrap x0),yz ⟨#[67,111,109,112,97,114,101]⟩ (IntKind.u64.wrap x1),yz ⟨#[73,110,115,114,101,99]⟩ (IntKind.u64.wrap x2),yz ⟨#[68,101,108,114,101,99]⟩ (IntKind.u64.wrap x3),yz ⟨#[78,101,119,82,111,111,116]⟩ (IntKind.u64.wrap x4),yz ⟨#[75,105,108,108,82,111,111,116]⟩ (IntKind.u64.wrap x5),yz ⟨#[73,110,99,114,101,109,101,110,116]⟩ (IntKind.u64.wrap x6),yz ⟨#[68,101,99,114,101,109,101,110,116]⟩ (IntKind.u64.wrap x7),yz ⟨#[76,115,104,105,102,116]⟩ (IntKind.u64.wrap x8),yz ⟨#[82,115,104,105,102,116]⟩ (IntKind.u64.wrap x9),yz ⟨#[83,112,108,105,116]⟩ (IntKind.u64.wrap x10),yz ⟨#[74,111,105,110]⟩ (IntKind.u64.wrap x11),yz ⟨#[65,108,108,111,99]⟩ (IntKind.u64.wrap x12),yz ⟨#[70,114,101,101]⟩ (IntKind.u64.wrap x13),yz ⟨#[77,111,118,101,115]⟩ (IntKind.u64.wrap x14)]∧Below w.heap.size w w':=by
 go_enter Tryz.func103,Tryz.ntmps103
 generalize ha0:(Act.mk _ _)=a0
 have hsz:a0.tmps.size=Tryz.f103.ntmps:=by rw [← ha0];rfl
 replace hsz:a0.tmps.size=144:=hsz.trans Zk
 have hdf:a0.defers=[]:=by rw [← ha0]
 have e0:a0.eval (.tmp 0)=.string onm:=by rw [← ha0];rfl
 have e1:a0.eval (.tmp 1)=.agg #[.int .u32 x0,.int .u32 x1,.int .u32 x2,.int .u32 x3,.int .u32 x4,.int .u32 x5,.int .u32 x6,.int .u32 x7,.int .u32 x8,.int .u32 x9,.int .u32 x10,.int .u32 x11,.int .u32 x12,.int .u32 x13,.int .u32 x14]:=by rw [← ha0];rfl
 clear ha0
 refine Yl (vals:=#[.int .u32 x0,.int .u32 x1,.int .u32 x2,.int .u32 x3,.int .u32 x4,.int .u32 x5,.int .u32 x6,.int .u32 x7,.int .u32 x8,.int .u32 x9,.int .u32 x10,.int .u32 x11,.int .u32 x12,.int .u32 x13,.int .u32 x14]) ZW Zo e0 e1 ?_;intro b0 w0 g gr gv v0 s0 d0 p30 p40 p50 hv0 S0
 refine yl (k:=8) ZW rfl Zd Zd Zo Zl p30 p40 p50 hv0 S0 ?_;intro b1 w1 v1 s1 d1 p31 p41 p51 hv1 S1
 refine yl (k:=17) ZW rfl Zd Zd Zo Zl p31 p41 p51 hv1 S1 ?_;intro b2 w2 v2 s2 d2 p32 p42 p52 hv2 S2
 refine yl (k:=26) ZW rfl Zd Zd Zo Zl p32 p42 p52 hv2 S2 ?_;intro b3 w3 v3 s3 d3 p33 p43 p53 hv3 S3
 refine yl (k:=35) ZW rfl Zd Zd Zo Zl p33 p43 p53 hv3 S3 ?_;intro b4 w4 v4 s4 d4 p34 p44 p54 hv4 S4
 refine yl (k:=44) ZW rfl Zd Zd Zo Zl p34 p44 p54 hv4 S4 ?_;intro b5 w5 v5 s5 d5 p35 p45 p55 hv5 S5
 refine yl (k:=53) ZW rfl Zd Zd Zo Zl p35 p45 p55 hv5 S5 ?_;intro b6 w6 v6 s6 d6 p36 p46 p56 hv6 S6
 refine yl (k:=62) ZW rfl Zd Zd Zo Zl p36 p46 p56 hv6 S6 ?_;intro b7 w7 v7 s7 d7 p37 p47 p57 hv7 S7
 refine yl (k:=71) ZW rfl Zd Zd Zo Zl p37 p47 p57 hv7 S7 ?_;intro b8 w8 v8 s8 d8 p38 p48 p58 hv8 S8
 refine yl (k:=80) ZW rfl Zd Zd Zo Zl p38 p48 p58 hv8 S8 ?_;intro b9 w9 v9 s9 d9 p39 p49 p59 hv9 S9
 refine yl (k:=89) ZW rfl Zd Zd Zo Zl p39 p49 p59 hv9 S9 ?_;intro b10 w10 v10 s10 d10 p310 p410 p510 hv10 S10
 refine yl (k:=98) ZW rfl Zd Zd Zo Zl p310 p410 p510 hv10 S10 ?_;intro b11 w11 v11 s11 d11 p311 p411 p511 hv11 S11
 refine yl (k:=107) ZW rfl Zd Zd Zo Zl p311 p411 p511 hv11 S11 ?_;intro b12 w12 v12 s12 d12 p312 p412 p512 hv12 S12
 refine yl (k:=116) ZW rfl Zd Zd Zo Zl p312 p412 p512 hv12 S12 ?_;intro b13 w13 v13 s13 d13 p313 p413 p513 hv13 S13
 refine yl (k:=125) ZW rfl Zd Zd Zo Zl p313 p413 p513 hv13 S13 ?_;intro b14 w14 v14 s14 d14 p314 p414 p514 hv14 S14
 refine yl (k:=134) ZW rfl Zd Zd Zo Zl p314 p414 p514 hv14 S14 ?_;intro b15 w15 v15 s15 d15 p315 p415 p515 hv15 S15
 refine YG rfl (k:=143) Zd Zo (by rw [d15,d14,d13,d12,d11,d10,d9,d8,d7,d6,d5,d4,d3,d2,d1,d0];exact hdf) p415 p515 S15 ?_
 exact fun w' v' hR hB=>⟨v',rfl,hR,hB⟩
set_option maxRecDepth 100000 in
theorem Qs (onm:ByteArray) (x0 x1 x2 x3 x4 x5 x6 x7 x8 x9 x10 x11 x12 x13 x14:Int) (w:World):Calls Tryz.prog 104 #[.string onm,.agg #[.int .u32 x0,.int .u32 x1,.int .u32 x2,.int .u32 x3,.int .u32 x4,.int .u32 x5,.int .u32 x6,.int .u32 x7,.int .u32 x8,.int .u32 x9,.int .u32 x10,.int .u32 x11,.int .u32 x12,.int .u32 x13,.int .u32 x14]] w fun e w'=>∃ v,e=.returned (.agg (yK onm v))∧Kd.R k34 34 w' w.heap.size (fun _=>True) v [yz ⟨#[76,111,111,107,117,112]⟩ (IntKind.u64.wrap x0),yz ⟨#[67,111,109,112,97,114,101]⟩ (IntKind.u64.wrap x1),yz ⟨#[73,110,115,114,101,99]⟩ (IntKind.u64.wrap x2),yz ⟨#[68,101,108,114,101,99]⟩ (IntKind.u64.wrap x3),yz ⟨#[78,101,119,82,111,111,116]⟩ (IntKind.u64.wrap x4),yz ⟨#[75,105,108,108,82,111,111,116]⟩ (IntKind.u64.wrap x5),yz ⟨#[73,110,99,114,101,109,101,110,116]⟩ (IntKind.u64.wrap x6),yz ⟨#[68,101,99,114,101,109,101,110,116]⟩ (IntKind.u64.wrap x7),yz ⟨#[76,115,104,105,102,116]⟩ (IntKind.u64.wrap x8),yz ⟨#[82,115,104,105,102,116]⟩ (IntKind.u64.wrap x9),yz ⟨#[83,112,108,105,116]⟩ (IntKind.u64.wrap x10),yz ⟨#[74,111,105,110]⟩ (IntKind.u64.wrap x11),yz ⟨#[65,108,108,111,99]⟩ (IntKind.u64.wrap x12),yz ⟨#[70,114,101,101]⟩ (IntKind.u64.wrap x13),yz ⟨#[77,111,118,101,115]⟩ (IntKind.u64.wrap x14)]∧Below w.heap.size w w':=by
 go_enter Tryz.func104,Tryz.ntmps104
 generalize ha0:(Act.mk _ _)=a0
 have hsz:a0.tmps.size=Tryz.f104.ntmps:=by rw [← ha0];rfl
 replace hsz:a0.tmps.size=144:=hsz.trans Zk
 have hdf:a0.defers=[]:=by rw [← ha0]
 have e0:a0.eval (.tmp 0)=.string onm:=by rw [← ha0];rfl
 have e1:a0.eval (.tmp 1)=.agg #[.int .u32 x0,.int .u32 x1,.int .u32 x2,.int .u32 x3,.int .u32 x4,.int .u32 x5,.int .u32 x6,.int .u32 x7,.int .u32 x8,.int .u32 x9,.int .u32 x10,.int .u32 x11,.int .u32 x12,.int .u32 x13,.int .u32 x14]:=by rw [← ha0];rfl
 clear ha0
 refine Yl (vals:=#[.int .u32 x0,.int .u32 x1,.int .u32 x2,.int .u32 x3,.int .u32 x4,.int .u32 x5,.int .u32 x6,.int .u32 x7,.int .u32 x8,.int .u32 x9,.int .u32 x10,.int .u32 x11,.int .u32 x12,.int .u32 x13,.int .u32 x14]) ZW Zo e0 e1 ?_;intro b0 w0 g gr gv v0 s0 d0 p30 p40 p50 hv0 S0
 refine yl (k:=8) ZW rfl Zd Zd Zo Zl p30 p40 p50 hv0 S0 ?_;intro b1 w1 v1 s1 d1 p31 p41 p51 hv1 S1
 refine yl (k:=17) ZW rfl Zd Zd Zo Zl p31 p41 p51 hv1 S1 ?_;intro b2 w2 v2 s2 d2 p32 p42 p52 hv2 S2
 refine yl (k:=26) ZW rfl Zd Zd Zo Zl p32 p42 p52 hv2 S2 ?_;intro b3 w3 v3 s3 d3 p33 p43 p53 hv3 S3
 refine yl (k:=35) ZW rfl Zd Zd Zo Zl p33 p43 p53 hv3 S3 ?_;intro b4 w4 v4 s4 d4 p34 p44 p54 hv4 S4
 refine yl (k:=44) ZW rfl Zd Zd Zo Zl p34 p44 p54 hv4 S4 ?_;intro b5 w5 v5 s5 d5 p35 p45 p55 hv5 S5
 refine yl (k:=53) ZW rfl Zd Zd Zo Zl p35 p45 p55 hv5 S5 ?_;intro b6 w6 v6 s6 d6 p36 p46 p56 hv6 S6
 refine yl (k:=62) ZW rfl Zd Zd Zo Zl p36 p46 p56 hv6 S6 ?_;intro b7 w7 v7 s7 d7 p37 p47 p57 hv7 S7
 refine yl (k:=71) ZW rfl Zd Zd Zo Zl p37 p47 p57 hv7 S7 ?_;intro b8 w8 v8 s8 d8 p38 p48 p58 hv8 S8
 refine yl (k:=80) ZW rfl Zd Zd Zo Zl p38 p48 p58 hv8 S8 ?_;intro b9 w9 v9 s9 d9 p39 p49 p59 hv9 S9
 refine yl (k:=89) ZW rfl Zd Zd Zo Zl p39 p49 p59 hv9 S9 ?_;intro b10 w10 v10 s10 d10 p310 p410 p510 hv10 S10
 refine yl (k:=98) ZW rfl Zd Zd Zo Zl p310 p410 p510 hv10 S10 ?_;intro b11 w11 v11 s11 d11 p311 p411 p511 hv11 S11
 refine yl (k:=107) ZW rfl Zd Zd Zo Zl p311 p411 p511 hv11 S11 ?_;intro b12 w12 v12 s12 d12 p312 p412 p512 hv12 S12
 refine yl (k:=116) ZW rfl Zd Zd Zo Zl p312 p412 p512 hv12 S12 ?_;intro b13 w13 v13 s13 d13 p313 p413 p513 hv13 S13
 refine yl (k:=125) ZW rfl Zd Zd Zo Zl p313 p413 p513 hv13 S13 ?_;intro b14 w14 v14 s14 d14 p314 p414 p514 hv14 S14
 refine yl (k:=134) ZW rfl Zd Zd Zo Zl p314 p414 p514 hv14 S14 ?_;intro b15 w15 v15 s15 d15 p315 p415 p515 hv15 S15
 refine YG rfl (k:=143) Zd Zo (by rw [d15,d14,d13,d12,d11,d10,d9,d8,d7,d6,d5,d4,d3,d2,d1,d0];exact hdf) p415 p515 S15 ?_
 exact fun w' v' hR hB=>⟨v',rfl,hR,hB⟩
set_option maxRecDepth 100000 in
theorem Qx (onm:ByteArray) (x0 x1 x2 x3 x4 x5 x6 x7 x8 x9 x10 x11 x12 x13 x14:Int) (w:World):Calls Tryz.prog 105 #[.string onm,.agg #[.int .u32 x0,.int .u32 x1,.int .u32 x2,.int .u32 x3,.int .u32 x4,.int .u32 x5,.int .u32 x6,.int .u32 x7,.int .u32 x8,.int .u32 x9,.int .u32 x10,.int .u32 x11,.int .u32 x12,.int .u32 x13,.int .u32 x14]] w fun e w'=>∃ v,e=.returned (.agg (yK onm v))∧Kd.R k34 34 w' w.heap.size (fun _=>True) v [yz ⟨#[76,111,111,107,117,112]⟩ (IntKind.u64.wrap x0),yz ⟨#[67,111,109,112,97,114,101]⟩ (IntKind.u64.wrap x1),yz ⟨#[73,110,115,114,101,99]⟩ (IntKind.u64.wrap x2),yz ⟨#[68,101,108,114,101,99]⟩ (IntKind.u64.wrap x3),yz ⟨#[78,101,119,82,111,111,116]⟩ (IntKind.u64.wrap x4),yz ⟨#[75,105,108,108,82,111,111,116]⟩ (IntKind.u64.wrap x5),yz ⟨#[73,110,99,114,101,109,101,110,116]⟩ (IntKind.u64.wrap x6),yz ⟨#[68,101,99,114,101,109,101,110,116]⟩ (IntKind.u64.wrap x7),yz ⟨#[76,115,104,105,102,116]⟩ (IntKind.u64.wrap x8),yz ⟨#[82,115,104,105,102,116]⟩ (IntKind.u64.wrap x9),yz ⟨#[83,112,108,105,116]⟩ (IntKind.u64.wrap x10),yz ⟨#[74,111,105,110]⟩ (IntKind.u64.wrap x11),yz ⟨#[65,108,108,111,99]⟩ (IntKind.u64.wrap x12),yz ⟨#[70,114,101,101]⟩ (IntKind.u64.wrap x13),yz ⟨#[77,111,118,101,115]⟩ (IntKind.u64.wrap x14)]∧Below w.heap.size w w':=by
 go_enter Tryz.func105,Tryz.ntmps105
 generalize ha0:(Act.mk _ _)=a0
 have hsz:a0.tmps.size=Tryz.f105.ntmps:=by rw [← ha0];rfl
 replace hsz:a0.tmps.size=144:=hsz.trans Zk
 have hdf:a0.defers=[]:=by rw [← ha0]
 have e0:a0.eval (.tmp 0)=.string onm:=by rw [← ha0];rfl
 have e1:a0.eval (.tmp 1)=.agg #[.int .u32 x0,.int .u32 x1,.int .u32 x2,.int .u32 x3,.int .u32 x4,.int .u32 x5,.int .u32 x6,.int .u32 x7,.int .u32 x8,.int .u32 x9,.int .u32 x10,.int .u32 x11,.int .u32 x12,.int .u32 x13,.int .u32 x14]:=by rw [← ha0];rfl
 clear ha0
 refine Yl (vals:=#[.int .u32 x0,.int .u32 x1,.int .u32 x2,.int .u32 x3,.int .u32 x4,.int .u32 x5,.int .u32 x6,.int .u32 x7,.int .u32 x8,.int .u32 x9,.int .u32 x10,.int .u32 x11,.int .u32 x12,.int .u32 x13,.int .u32 x14]) ZW Zo e0 e1 ?_;intro b0 w0 g gr gv v0 s0 d0 p30 p40 p50 hv0 S0
 refine yl (k:=8) ZW rfl Zd Zd Zo Zl p30 p40 p50 hv0 S0 ?_;intro b1 w1 v1 s1 d1 p31 p41 p51 hv1 S1
 refine yl (k:=17) ZW rfl Zd Zd Zo Zl p31 p41 p51 hv1 S1 ?_;intro b2 w2 v2 s2 d2 p32 p42 p52 hv2 S2
 refine yl (k:=26) ZW rfl Zd Zd Zo Zl p32 p42 p52 hv2 S2 ?_;intro b3 w3 v3 s3 d3 p33 p43 p53 hv3 S3
 refine yl (k:=35) ZW rfl Zd Zd Zo Zl p33 p43 p53 hv3 S3 ?_;intro b4 w4 v4 s4 d4 p34 p44 p54 hv4 S4
 refine yl (k:=44) ZW rfl Zd Zd Zo Zl p34 p44 p54 hv4 S4 ?_;intro b5 w5 v5 s5 d5 p35 p45 p55 hv5 S5
 refine yl (k:=53) ZW rfl Zd Zd Zo Zl p35 p45 p55 hv5 S5 ?_;intro b6 w6 v6 s6 d6 p36 p46 p56 hv6 S6
 refine yl (k:=62) ZW rfl Zd Zd Zo Zl p36 p46 p56 hv6 S6 ?_;intro b7 w7 v7 s7 d7 p37 p47 p57 hv7 S7
 refine yl (k:=71) ZW rfl Zd Zd Zo Zl p37 p47 p57 hv7 S7 ?_;intro b8 w8 v8 s8 d8 p38 p48 p58 hv8 S8
 refine yl (k:=80) ZW rfl Zd Zd Zo Zl p38 p48 p58 hv8 S8 ?_;intro b9 w9 v9 s9 d9 p39 p49 p59 hv9 S9
 refine yl (k:=89) ZW rfl Zd Zd Zo Zl p39 p49 p59 hv9 S9 ?_;intro b10 w10 v10 s10 d10 p310 p410 p510 hv10 S10
 refine yl (k:=98) ZW rfl Zd Zd Zo Zl p310 p410 p510 hv10 S10 ?_;intro b11 w11 v11 s11 d11 p311 p411 p511 hv11 S11
 refine yl (k:=107) ZW rfl Zd Zd Zo Zl p311 p411 p511 hv11 S11 ?_;intro b12 w12 v12 s12 d12 p312 p412 p512 hv12 S12
 refine yl (k:=116) ZW rfl Zd Zd Zo Zl p312 p412 p512 hv12 S12 ?_;intro b13 w13 v13 s13 d13 p313 p413 p513 hv13 S13
 refine yl (k:=125) ZW rfl Zd Zd Zo Zl p313 p413 p513 hv13 S13 ?_;intro b14 w14 v14 s14 d14 p314 p414 p514 hv14 S14
 refine yl (k:=134) ZW rfl Zd Zd Zo Zl p314 p414 p514 hv14 S14 ?_;intro b15 w15 v15 s15 d15 p315 p415 p515 hv15 S15
 refine YG rfl (k:=143) Zd Zo (by rw [d15,d14,d13,d12,d11,d10,d9,d8,d7,d6,d5,d4,d3,d2,d1,d0];exact hdf) p415 p515 S15 ?_
 exact fun w' v' hR hB=>⟨v',rfl,hR,hB⟩
set_option maxRecDepth 100000 in
theorem QH (onm:ByteArray) (x0 x1 x2 x3 x4 x5 x6 x7 x8 x9 x10 x11 x12 x13 x14:Int) (w:World):Calls Tryz.prog 106 #[.string onm,.agg #[.int .u32 x0,.int .u32 x1,.int .u32 x2,.int .u32 x3,.int .u32 x4,.int .u32 x5,.int .u32 x6,.int .u32 x7,.int .u32 x8,.int .u32 x9,.int .u32 x10,.int .u32 x11,.int .u32 x12,.int .u32 x13,.int .u32 x14]] w fun e w'=>∃ v,e=.returned (.agg (yK onm v))∧Kd.R k34 34 w' w.heap.size (fun _=>True) v [yz ⟨#[76,111,111,107,117,112]⟩ (IntKind.u64.wrap x0),yz ⟨#[67,111,109,112,97,114,101]⟩ (IntKind.u64.wrap x1),yz ⟨#[73,110,115,114,101,99]⟩ (IntKind.u64.wrap x2),yz ⟨#[68,101,108,114,101,99]⟩ (IntKind.u64.wrap x3),yz ⟨#[78,101,119,82,111,111,116]⟩ (IntKind.u64.wrap x4),yz ⟨#[75,105,108,108,82,111,111,116]⟩ (IntKind.u64.wrap x5),yz ⟨#[73,110,99,114,101,109,101,110,116]⟩ (IntKind.u64.wrap x6),yz ⟨#[68,101,99,114,101,109,101,110,116]⟩ (IntKind.u64.wrap x7),yz ⟨#[76,115,104,105,102,116]⟩ (IntKind.u64.wrap x8),yz ⟨#[82,115,104,105,102,116]⟩ (IntKind.u64.wrap x9),yz ⟨#[83,112,108,105,116]⟩ (IntKind.u64.wrap x10),yz ⟨#[74,111,105,110]⟩ (IntKind.u64.wrap x11),yz ⟨#[65,108,108,111,99]⟩ (IntKind.u64.wrap x12),yz ⟨#[70,114,101,101]⟩ (IntKind.u64.wrap x13),yz ⟨#[77,111,118,101,115]⟩ (IntKind.u64.wrap x14)]∧Below w.heap.size w w':=by
 go_enter Tryz.func106,Tryz.ntmps106
 generalize ha0:(Act.mk _ _)=a0
 have hsz:a0.tmps.size=Tryz.f106.ntmps:=by rw [← ha0];rfl
 replace hsz:a0.tmps.size=144:=hsz.trans Zk
 have hdf:a0.defers=[]:=by rw [← ha0]
 have e0:a0.eval (.tmp 0)=.string onm:=by rw [← ha0];rfl
 have e1:a0.eval (.tmp 1)=.agg #[.int .u32 x0,.int .u32 x1,.int .u32 x2,.int .u32 x3,.int .u32 x4,.int .u32 x5,.int .u32 x6,.int .u32 x7,.int .u32 x8,.int .u32 x9,.int .u32 x10,.int .u32 x11,.int .u32 x12,.int .u32 x13,.int .u32 x14]:=by rw [← ha0];rfl
 clear ha0
 refine Yl (vals:=#[.int .u32 x0,.int .u32 x1,.int .u32 x2,.int .u32 x3,.int .u32 x4,.int .u32 x5,.int .u32 x6,.int .u32 x7,.int .u32 x8,.int .u32 x9,.int .u32 x10,.int .u32 x11,.int .u32 x12,.int .u32 x13,.int .u32 x14]) ZW Zo e0 e1 ?_;intro b0 w0 g gr gv v0 s0 d0 p30 p40 p50 hv0 S0
 refine yl (k:=8) ZW rfl Zd Zd Zo Zl p30 p40 p50 hv0 S0 ?_;intro b1 w1 v1 s1 d1 p31 p41 p51 hv1 S1
 refine yl (k:=17) ZW rfl Zd Zd Zo Zl p31 p41 p51 hv1 S1 ?_;intro b2 w2 v2 s2 d2 p32 p42 p52 hv2 S2
 refine yl (k:=26) ZW rfl Zd Zd Zo Zl p32 p42 p52 hv2 S2 ?_;intro b3 w3 v3 s3 d3 p33 p43 p53 hv3 S3
 refine yl (k:=35) ZW rfl Zd Zd Zo Zl p33 p43 p53 hv3 S3 ?_;intro b4 w4 v4 s4 d4 p34 p44 p54 hv4 S4
 refine yl (k:=44) ZW rfl Zd Zd Zo Zl p34 p44 p54 hv4 S4 ?_;intro b5 w5 v5 s5 d5 p35 p45 p55 hv5 S5
 refine yl (k:=53) ZW rfl Zd Zd Zo Zl p35 p45 p55 hv5 S5 ?_;intro b6 w6 v6 s6 d6 p36 p46 p56 hv6 S6
 refine yl (k:=62) ZW rfl Zd Zd Zo Zl p36 p46 p56 hv6 S6 ?_;intro b7 w7 v7 s7 d7 p37 p47 p57 hv7 S7
 refine yl (k:=71) ZW rfl Zd Zd Zo Zl p37 p47 p57 hv7 S7 ?_;intro b8 w8 v8 s8 d8 p38 p48 p58 hv8 S8
 refine yl (k:=80) ZW rfl Zd Zd Zo Zl p38 p48 p58 hv8 S8 ?_;intro b9 w9 v9 s9 d9 p39 p49 p59 hv9 S9
 refine yl (k:=89) ZW rfl Zd Zd Zo Zl p39 p49 p59 hv9 S9 ?_;intro b10 w10 v10 s10 d10 p310 p410 p510 hv10 S10
 refine yl (k:=98) ZW rfl Zd Zd Zo Zl p310 p410 p510 hv10 S10 ?_;intro b11 w11 v11 s11 d11 p311 p411 p511 hv11 S11
 refine yl (k:=107) ZW rfl Zd Zd Zo Zl p311 p411 p511 hv11 S11 ?_;intro b12 w12 v12 s12 d12 p312 p412 p512 hv12 S12
 refine yl (k:=116) ZW rfl Zd Zd Zo Zl p312 p412 p512 hv12 S12 ?_;intro b13 w13 v13 s13 d13 p313 p413 p513 hv13 S13
 refine yl (k:=125) ZW rfl Zd Zd Zo Zl p313 p413 p513 hv13 S13 ?_;intro b14 w14 v14 s14 d14 p314 p414 p514 hv14 S14
 refine yl (k:=134) ZW rfl Zd Zd Zo Zl p314 p414 p514 hv14 S14 ?_;intro b15 w15 v15 s15 d15 p315 p415 p515 hv15 S15
 refine YG rfl (k:=143) Zd Zo (by rw [d15,d14,d13,d12,d11,d10,d9,d8,d7,d6,d5,d4,d3,d2,d1,d0];exact hdf) p415 p515 S15 ?_
 exact fun w' v' hR hB=>⟨v',rfl,hR,hB⟩
set_option maxRecDepth 100000 in
theorem qP (onm:ByteArray) (x0 x1 x2 x3 x4 x5 x6 x7 x8 x9 x10 x11 x12 x13 x14:Int) (w:World):Calls Tryz.prog 107 #[.string onm,.agg #[.int .u32 x0,.int .u32 x1,.int .u32 x2,.int .u32 x3,.int .u32 x4,.int .u32 x5,.int .u32 x6,.int .u32 x7,.int .u32 x8,.int .u32 x9,.int .u32 x10,.int .u32 x11,.int .u32 x12,.int .u32 x13,.int .u32 x14]] w fun e w'=>∃ v,e=.returned (.agg (yK onm v))∧Kd.R k34 34 w' w.heap.size (fun _=>True) v [yz ⟨#[76,111,111,107,117,112]⟩ (IntKind.u64.wrap x0),yz ⟨#[67,111,109,112,97,114,101]⟩ (IntKind.u64.wrap x1),yz ⟨#[73,110,115,114,101,99]⟩ (IntKind.u64.wrap x2),yz ⟨#[68,101,108,114,101,99]⟩ (IntKind.u64.wrap x3),yz ⟨#[78,101,119,82,111,111,116]⟩ (IntKind.u64.wrap x4),yz ⟨#[75,105,108,108,82,111,111,116]⟩ (IntKind.u64.wrap x5),yz ⟨#[73,110,99,114,101,109,101,110,116]⟩ (IntKind.u64.wrap x6),yz ⟨#[68,101,99,114,101,109,101,110,116]⟩ (IntKind.u64.wrap x7),yz ⟨#[76,115,104,105,102,116]⟩ (IntKind.u64.wrap x8),yz ⟨#[82,115,104,105,102,116]⟩ (IntKind.u64.wrap x9),yz ⟨#[83,112,108,105,116]⟩ (IntKind.u64.wrap x10),yz ⟨#[74,111,105,110]⟩ (IntKind.u64.wrap x11),yz ⟨#[65,108,108,111,99]⟩ (IntKind.u64.wrap x12),yz ⟨#[70,114,101,101]⟩ (IntKind.u64.wrap x13),yz ⟨#[77,111,118,101,115]⟩ (IntKind.u64.wrap x14)]∧Below w.heap.size w w':=by
 go_enter Tryz.func107,Tryz.ntmps107
 generalize ha0:(Act.mk _ _)=a0
 have hsz:a0.tmps.size=Tryz.f107.ntmps:=by rw [← ha0];rfl
 replace hsz:a0.tmps.size=144:=hsz.trans Zk
 have hdf:a0.defers=[]:=by rw [← ha0]
 have e0:a0.eval (.tmp 0)=.string onm:=by rw [← ha0];rfl
 have e1:a0.eval (.tmp 1)=.agg #[.int .u32 x0,.int .u32 x1,.int .u32 x2,.int .u32 x3,.int .u32 x4,.int .u32 x5,.int .u32 x6,.int .u32 x7,.int .u32 x8,.int .u32 x9,.int .u32 x10,.int .u32 x11,.int .u32 x12,.int .u32 x13,.int .u32 x14]:=by rw [← ha0];rfl
 clear ha0
 refine Yl (vals:=#[.int .u32 x0,.int .u32 x1,.int .u32 x2,.int .u32 x3,.int .u32 x4,.int .u32 x5,.int .u32 x6,.int .u32 x7,.int .u32 x8,.int .u32 x9,.int .u32 x10,.int .u32 x11,.int .u32 x12,.int .u32 x13,.int .u32 x14]) ZW Zo e0 e1 ?_;intro b0 w0 g gr gv v0 s0 d0 p30 p40 p50 hv0 S0
 refine yl (k:=8) ZW rfl Zd Zd Zo Zl p30 p40 p50 hv0 S0 ?_;intro b1 w1 v1 s1 d1 p31 p41 p51 hv1 S1
 refine yl (k:=17) ZW rfl Zd Zd Zo Zl p31 p41 p51 hv1 S1 ?_;intro b2 w2 v2 s2 d2 p32 p42 p52 hv2 S2
 refine yl (k:=26) ZW rfl Zd Zd Zo Zl p32 p42 p52 hv2 S2 ?_;intro b3 w3 v3 s3 d3 p33 p43 p53 hv3 S3
 refine yl (k:=35) ZW rfl Zd Zd Zo Zl p33 p43 p53 hv3 S3 ?_;intro b4 w4 v4 s4 d4 p34 p44 p54 hv4 S4
 refine yl (k:=44) ZW rfl Zd Zd Zo Zl p34 p44 p54 hv4 S4 ?_;intro b5 w5 v5 s5 d5 p35 p45 p55 hv5 S5
 refine yl (k:=53) ZW rfl Zd Zd Zo Zl p35 p45 p55 hv5 S5 ?_;intro b6 w6 v6 s6 d6 p36 p46 p56 hv6 S6
 refine yl (k:=62) ZW rfl Zd Zd Zo Zl p36 p46 p56 hv6 S6 ?_;intro b7 w7 v7 s7 d7 p37 p47 p57 hv7 S7
 refine yl (k:=71) ZW rfl Zd Zd Zo Zl p37 p47 p57 hv7 S7 ?_;intro b8 w8 v8 s8 d8 p38 p48 p58 hv8 S8
 refine yl (k:=80) ZW rfl Zd Zd Zo Zl p38 p48 p58 hv8 S8 ?_;intro b9 w9 v9 s9 d9 p39 p49 p59 hv9 S9
 refine yl (k:=89) ZW rfl Zd Zd Zo Zl p39 p49 p59 hv9 S9 ?_;intro b10 w10 v10 s10 d10 p310 p410 p510 hv10 S10
 refine yl (k:=98) ZW rfl Zd Zd Zo Zl p310 p410 p510 hv10 S10 ?_;intro b11 w11 v11 s11 d11 p311 p411 p511 hv11 S11
 refine yl (k:=107) ZW rfl Zd Zd Zo Zl p311 p411 p511 hv11 S11 ?_;intro b12 w12 v12 s12 d12 p312 p412 p512 hv12 S12
 refine yl (k:=116) ZW rfl Zd Zd Zo Zl p312 p412 p512 hv12 S12 ?_;intro b13 w13 v13 s13 d13 p313 p413 p513 hv13 S13
 refine yl (k:=125) ZW rfl Zd Zd Zo Zl p313 p413 p513 hv13 S13 ?_;intro b14 w14 v14 s14 d14 p314 p414 p514 hv14 S14
 refine yl (k:=134) ZW rfl Zd Zd Zo Zl p314 p414 p514 hv14 S14 ?_;intro b15 w15 v15 s15 d15 p315 p415 p515 hv15 S15
 refine YG rfl (k:=143) Zd Zo (by rw [d15,d14,d13,d12,d11,d10,d9,d8,d7,d6,d5,d4,d3,d2,d1,d0];exact hdf) p415 p515 S15 ?_
 exact fun w' v' hR hB=>⟨v',rfl,hR,hB⟩
set_option maxRecDepth 100000 in
theorem yal (onm:ByteArray) (x0 x1 x2 x3 x4 x5 x6 x7 x8 x9 x10 x11 x12 x13 x14:Int) (w:World):Calls Tryz.prog 108 #[.string onm,.agg #[.int .u32 x0,.int .u32 x1,.int .u32 x2,.int .u32 x3,.int .u32 x4,.int .u32 x5,.int .u32 x6,.int .u32 x7,.int .u32 x8,.int .u32 x9,.int .u32 x10,.int .u32 x11,.int .u32 x12,.int .u32 x13,.int .u32 x14]] w fun e w'=>∃ v,e=.returned (.agg (yK onm v))∧Kd.R k34 34 w' w.heap.size (fun _=>True) v [yz ⟨#[76,111,111,107,117,112]⟩ (IntKind.u64.wrap x0),yz ⟨#[67,111,109,112,97,114,101]⟩ (IntKind.u64.wrap x1),yz ⟨#[73,110,115,114,101,99]⟩ (IntKind.u64.wrap x2),yz ⟨#[68,101,108,114,101,99]⟩ (IntKind.u64.wrap x3),yz ⟨#[78,101,119,82,111,111,116]⟩ (IntKind.u64.wrap x4),yz ⟨#[75,105,108,108,82,111,111,116]⟩ (IntKind.u64.wrap x5),yz ⟨#[73,110,99,114,101,109,101,110,116]⟩ (IntKind.u64.wrap x6),yz ⟨#[68,101,99,114,101,109,101,110,116]⟩ (IntKind.u64.wrap x7),yz ⟨#[76,115,104,105,102,116]⟩ (IntKind.u64.wrap x8),yz ⟨#[82,115,104,105,102,116]⟩ (IntKind.u64.wrap x9),yz ⟨#[83,112,108,105,116]⟩ (IntKind.u64.wrap x10),yz ⟨#[74,111,105,110]⟩ (IntKind.u64.wrap x11),yz ⟨#[65,108,108,111,99]⟩ (IntKind.u64.wrap x12),yz ⟨#[70,114,101,101]⟩ (IntKind.u64.wrap x13),yz ⟨#[77,111,118,101,115]⟩ (IntKind.u64.wrap x14)]∧Below w.heap.size w w':=by
 go_enter Tryz.func108,Tryz.ntmps108
 generalize ha0:(Act.mk _ _)=a0
 have hsz:a0.tmps.size=Tryz.f108.ntmps:=by rw [← ha0];rfl
 replace hsz:a0.tmps.size=144:=hsz.trans Zk
 have hdf:a0.defers=[]:=by rw [← ha0]
 have e0:a0.eval (.tmp 0)=.string onm:=by rw [← ha0];rfl
 have e1:a0.eval (.tmp 1)=.agg #[.int .u32 x0,.int .u32 x1,.int .u32 x2,.int .u32 x3,.int .u32 x4,.int .u32 x5,.int .u32 x6,.int .u32 x7,.int .u32 x8,.int .u32 x9,.int .u32 x10,.int .u32 x11,.int .u32 x12,.int .u32 x13,.int .u32 x14]:=by rw [← ha0];rfl
 clear ha0
 refine Yl (vals:=#[.int .u32 x0,.int .u32 x1,.int .u32 x2,.int .u32 x3,.int .u32 x4,.int .u32 x5,.int .u32 x6,.int .u32 x7,.int .u32 x8,.int .u32 x9,.int .u32 x10,.int .u32 x11,.int .u32 x12,.int .u32 x13,.int .u32 x14]) ZW Zo e0 e1 ?_;intro b0 w0 g gr gv v0 s0 d0 p30 p40 p50 hv0 S0
 refine yl (k:=8) ZW rfl Zd Zd Zo Zl p30 p40 p50 hv0 S0 ?_;intro b1 w1 v1 s1 d1 p31 p41 p51 hv1 S1
 refine yl (k:=17) ZW rfl Zd Zd Zo Zl p31 p41 p51 hv1 S1 ?_;intro b2 w2 v2 s2 d2 p32 p42 p52 hv2 S2
 refine yl (k:=26) ZW rfl Zd Zd Zo Zl p32 p42 p52 hv2 S2 ?_;intro b3 w3 v3 s3 d3 p33 p43 p53 hv3 S3
 refine yl (k:=35) ZW rfl Zd Zd Zo Zl p33 p43 p53 hv3 S3 ?_;intro b4 w4 v4 s4 d4 p34 p44 p54 hv4 S4
 refine yl (k:=44) ZW rfl Zd Zd Zo Zl p34 p44 p54 hv4 S4 ?_;intro b5 w5 v5 s5 d5 p35 p45 p55 hv5 S5
 refine yl (k:=53) ZW rfl Zd Zd Zo Zl p35 p45 p55 hv5 S5 ?_;intro b6 w6 v6 s6 d6 p36 p46 p56 hv6 S6
 refine yl (k:=62) ZW rfl Zd Zd Zo Zl p36 p46 p56 hv6 S6 ?_;intro b7 w7 v7 s7 d7 p37 p47 p57 hv7 S7
 refine yl (k:=71) ZW rfl Zd Zd Zo Zl p37 p47 p57 hv7 S7 ?_;intro b8 w8 v8 s8 d8 p38 p48 p58 hv8 S8
 refine yl (k:=80) ZW rfl Zd Zd Zo Zl p38 p48 p58 hv8 S8 ?_;intro b9 w9 v9 s9 d9 p39 p49 p59 hv9 S9
 refine yl (k:=89) ZW rfl Zd Zd Zo Zl p39 p49 p59 hv9 S9 ?_;intro b10 w10 v10 s10 d10 p310 p410 p510 hv10 S10
 refine yl (k:=98) ZW rfl Zd Zd Zo Zl p310 p410 p510 hv10 S10 ?_;intro b11 w11 v11 s11 d11 p311 p411 p511 hv11 S11
 refine yl (k:=107) ZW rfl Zd Zd Zo Zl p311 p411 p511 hv11 S11 ?_;intro b12 w12 v12 s12 d12 p312 p412 p512 hv12 S12
 refine yl (k:=116) ZW rfl Zd Zd Zo Zl p312 p412 p512 hv12 S12 ?_;intro b13 w13 v13 s13 d13 p313 p413 p513 hv13 S13
 refine yl (k:=125) ZW rfl Zd Zd Zo Zl p313 p413 p513 hv13 S13 ?_;intro b14 w14 v14 s14 d14 p314 p414 p514 hv14 S14
 refine yl (k:=134) ZW rfl Zd Zd Zo Zl p314 p414 p514 hv14 S14 ?_;intro b15 w15 v15 s15 d15 p315 p415 p515 hv15 S15
 refine YG rfl (k:=143) Zd Zo (by rw [d15,d14,d13,d12,d11,d10,d9,d8,d7,d6,d5,d4,d3,d2,d1,d0];exact hdf) p415 p515 S15 ?_
 exact fun w' v' hR hB=>⟨v',rfl,hR,hB⟩
set_option maxRecDepth 100000 in
theorem qT (onm:ByteArray) (x0 x1 x2 x3 x4 x5 x6 x7 x8 x9 x10 x11 x12 x13 x14:Int) (w:World):Calls Tryz.prog 109 #[.string onm,.agg #[.int .u32 x0,.int .u32 x1,.int .u32 x2,.int .u32 x3,.int .u32 x4,.int .u32 x5,.int .u32 x6,.int .u32 x7,.int .u32 x8,.int .u32 x9,.int .u32 x10,.int .u32 x11,.int .u32 x12,.int .u32 x13,.int .u32 x14]] w fun e w'=>∃ v,e=.returned (.agg (yK onm v))∧Kd.R k34 34 w' w.heap.size (fun _=>True) v [yz ⟨#[76,111,111,107,117,112]⟩ (IntKind.u64.wrap x0),yz ⟨#[67,111,109,112,97,114,101]⟩ (IntKind.u64.wrap x1),yz ⟨#[73,110,115,114,101,99]⟩ (IntKind.u64.wrap x2),yz ⟨#[68,101,108,114,101,99]⟩ (IntKind.u64.wrap x3),yz ⟨#[78,101,119,82,111,111,116]⟩ (IntKind.u64.wrap x4),yz ⟨#[75,105,108,108,82,111,111,116]⟩ (IntKind.u64.wrap x5),yz ⟨#[73,110,99,114,101,109,101,110,116]⟩ (IntKind.u64.wrap x6),yz ⟨#[68,101,99,114,101,109,101,110,116]⟩ (IntKind.u64.wrap x7),yz ⟨#[76,115,104,105,102,116]⟩ (IntKind.u64.wrap x8),yz ⟨#[82,115,104,105,102,116]⟩ (IntKind.u64.wrap x9),yz ⟨#[83,112,108,105,116]⟩ (IntKind.u64.wrap x10),yz ⟨#[74,111,105,110]⟩ (IntKind.u64.wrap x11),yz ⟨#[65,108,108,111,99]⟩ (IntKind.u64.wrap x12),yz ⟨#[70,114,101,101]⟩ (IntKind.u64.wrap x13),yz ⟨#[77,111,118,101,115]⟩ (IntKind.u64.wrap x14)]∧Below w.heap.size w w':=by
 go_enter Tryz.func109,Tryz.ntmps109
 generalize ha0:(Act.mk _ _)=a0
 have hsz:a0.tmps.size=Tryz.f109.ntmps:=by rw [← ha0];rfl
 replace hsz:a0.tmps.size=144:=hsz.trans Zk
 have hdf:a0.defers=[]:=by rw [← ha0]
 have e0:a0.eval (.tmp 0)=.string onm:=by rw [← ha0];rfl
 have e1:a0.eval (.tmp 1)=.agg #[.int .u32 x0,.int .u32 x1,.int .u32 x2,.int .u32 x3,.int .u32 x4,.int .u32 x5,.int .u32 x6,.int .u32 x7,.int .u32 x8,.int .u32 x9,.int .u32 x10,.int .u32 x11,.int .u32 x12,.int .u32 x13,.int .u32 x14]:=by rw [← ha0];rfl
 clear ha0
 refine Yl (vals:=#[.int .u32 x0,.int .u32 x1,.int .u32 x2,.int .u32 x3,.int .u32 x4,.int .u32 x5,.int .u32 x6,.int .u32 x7,.int .u32 x8,.int .u32 x9,.int .u32 x10,.int .u32 x11,.int .u32 x12,.int .u32 x13,.int .u32 x14]) ZW Zo e0 e1 ?_;intro b0 w0 g gr gv v0 s0 d0 p30 p40 p50 hv0 S0
 refine yl (k:=8) ZW rfl Zd Zd Zo Zl p30 p40 p50 hv0 S0 ?_;intro b1 w1 v1 s1 d1 p31 p41 p51 hv1 S1
 refine yl (k:=17) ZW rfl Zd Zd Zo Zl p31 p41 p51 hv1 S1 ?_;intro b2 w2 v2 s2 d2 p32 p42 p52 hv2 S2
 refine yl (k:=26) ZW rfl Zd Zd Zo Zl p32 p42 p52 hv2 S2 ?_;intro b3 w3 v3 s3 d3 p33 p43 p53 hv3 S3
 refine yl (k:=35) ZW rfl Zd Zd Zo Zl p33 p43 p53 hv3 S3 ?_;intro b4 w4 v4 s4 d4 p34 p44 p54 hv4 S4
 refine yl (k:=44) ZW rfl Zd Zd Zo Zl p34 p44 p54 hv4 S4 ?_;intro b5 w5 v5 s5 d5 p35 p45 p55 hv5 S5
 refine yl (k:=53) ZW rfl Zd Zd Zo Zl p35 p45 p55 hv5 S5 ?_;intro b6 w6 v6 s6 d6 p36 p46 p56 hv6 S6
 refine yl (k:=62) ZW rfl Zd Zd Zo Zl p36 p46 p56 hv6 S6 ?_;intro b7 w7 v7 s7 d7 p37 p47 p57 hv7 S7
 refine yl (k:=71) ZW rfl Zd Zd Zo Zl p37 p47 p57 hv7 S7 ?_;intro b8 w8 v8 s8 d8 p38 p48 p58 hv8 S8
 refine yl (k:=80) ZW rfl Zd Zd Zo Zl p38 p48 p58 hv8 S8 ?_;intro b9 w9 v9 s9 d9 p39 p49 p59 hv9 S9
 refine yl (k:=89) ZW rfl Zd Zd Zo Zl p39 p49 p59 hv9 S9 ?_;intro b10 w10 v10 s10 d10 p310 p410 p510 hv10 S10
 refine yl (k:=98) ZW rfl Zd Zd Zo Zl p310 p410 p510 hv10 S10 ?_;intro b11 w11 v11 s11 d11 p311 p411 p511 hv11 S11
 refine yl (k:=107) ZW rfl Zd Zd Zo Zl p311 p411 p511 hv11 S11 ?_;intro b12 w12 v12 s12 d12 p312 p412 p512 hv12 S12
 refine yl (k:=116) ZW rfl Zd Zd Zo Zl p312 p412 p512 hv12 S12 ?_;intro b13 w13 v13 s13 d13 p313 p413 p513 hv13 S13
 refine yl (k:=125) ZW rfl Zd Zd Zo Zl p313 p413 p513 hv13 S13 ?_;intro b14 w14 v14 s14 d14 p314 p414 p514 hv14 S14
 refine yl (k:=134) ZW rfl Zd Zd Zo Zl p314 p414 p514 hv14 S14 ?_;intro b15 w15 v15 s15 d15 p315 p415 p515 hv15 S15
 refine YG rfl (k:=143) Zd Zo (by rw [d15,d14,d13,d12,d11,d10,d9,d8,d7,d6,d5,d4,d3,d2,d1,d0];exact hdf) p415 p515 S15 ?_
 exact fun w' v' hR hB=>⟨v',rfl,hR,hB⟩
set_option maxRecDepth 100000 in
theorem qK (onm:ByteArray) (x0 x1 x2 x3 x4 x5 x6 x7 x8 x9 x10 x11 x12 x13 x14:Int) (w:World):Calls Tryz.prog 110 #[.string onm,.agg #[.int .u32 x0,.int .u32 x1,.int .u32 x2,.int .u32 x3,.int .u32 x4,.int .u32 x5,.int .u32 x6,.int .u32 x7,.int .u32 x8,.int .u32 x9,.int .u32 x10,.int .u32 x11,.int .u32 x12,.int .u32 x13,.int .u32 x14]] w fun e w'=>∃ v,e=.returned (.agg (yK onm v))∧Kd.R k34 34 w' w.heap.size (fun _=>True) v [yz ⟨#[76,111,111,107,117,112]⟩ (IntKind.u64.wrap x0),yz ⟨#[67,111,109,112,97,114,101]⟩ (IntKind.u64.wrap x1),yz ⟨#[73,110,115,114,101,99]⟩ (IntKind.u64.wrap x2),yz ⟨#[68,101,108,114,101,99]⟩ (IntKind.u64.wrap x3),yz ⟨#[78,101,119,82,111,111,116]⟩ (IntKind.u64.wrap x4),yz ⟨#[75,105,108,108,82,111,111,116]⟩ (IntKind.u64.wrap x5),yz ⟨#[73,110,99,114,101,109,101,110,116]⟩ (IntKind.u64.wrap x6),yz ⟨#[68,101,99,114,101,109,101,110,116]⟩ (IntKind.u64.wrap x7),yz ⟨#[76,115,104,105,102,116]⟩ (IntKind.u64.wrap x8),yz ⟨#[82,115,104,105,102,116]⟩ (IntKind.u64.wrap x9),yz ⟨#[83,112,108,105,116]⟩ (IntKind.u64.wrap x10),yz ⟨#[74,111,105,110]⟩ (IntKind.u64.wrap x11),yz ⟨#[65,108,108,111,99]⟩ (IntKind.u64.wrap x12),yz ⟨#[70,114,101,101]⟩ (IntKind.u64.wrap x13),yz ⟨#[77,111,118,101,115]⟩ (IntKind.u64.wrap x14)]∧Below w.heap.size w w':=by
 go_enter Tryz.func110,Tryz.ntmps110
 generalize ha0:(Act.mk _ _)=a0
 have hsz:a0.tmps.size=Tryz.f110.ntmps:=by rw [← ha0];rfl
 replace hsz:a0.tmps.size=144:=hsz.trans Zk
 have hdf:a0.defers=[]:=by rw [← ha0]
 have e0:a0.eval (.tmp 0)=.string onm:=by rw [← ha0];rfl
 have e1:a0.eval (.tmp 1)=.agg #[.int .u32 x0,.int .u32 x1,.int .u32 x2,.int .u32 x3,.int .u32 x4,.int .u32 x5,.int .u32 x6,.int .u32 x7,.int .u32 x8,.int .u32 x9,.int .u32 x10,.int .u32 x11,.int .u32 x12,.int .u32 x13,.int .u32 x14]:=by rw [← ha0];rfl
 clear ha0
 refine Yl (vals:=#[.int .u32 x0,.int .u32 x1,.int .u32 x2,.int .u32 x3,.int .u32 x4,.int .u32 x5,.int .u32 x6,.int .u32 x7,.int .u32 x8,.int .u32 x9,.int .u32 x10,.int .u32 x11,.int .u32 x12,.int .u32 x13,.int .u32 x14]) ZW Zo e0 e1 ?_;intro b0 w0 g gr gv v0 s0 d0 p30 p40 p50 hv0 S0
 refine yl (k:=8) ZW rfl Zd Zd Zo Zl p30 p40 p50 hv0 S0 ?_;intro b1 w1 v1 s1 d1 p31 p41 p51 hv1 S1
 refine yl (k:=17) ZW rfl Zd Zd Zo Zl p31 p41 p51 hv1 S1 ?_;intro b2 w2 v2 s2 d2 p32 p42 p52 hv2 S2
 refine yl (k:=26) ZW rfl Zd Zd Zo Zl p32 p42 p52 hv2 S2 ?_;intro b3 w3 v3 s3 d3 p33 p43 p53 hv3 S3
 refine yl (k:=35) ZW rfl Zd Zd Zo Zl p33 p43 p53 hv3 S3 ?_;intro b4 w4 v4 s4 d4 p34 p44 p54 hv4 S4
 refine yl (k:=44) ZW rfl Zd Zd Zo Zl p34 p44 p54 hv4 S4 ?_;intro b5 w5 v5 s5 d5 p35 p45 p55 hv5 S5
 refine yl (k:=53) ZW rfl Zd Zd Zo Zl p35 p45 p55 hv5 S5 ?_;intro b6 w6 v6 s6 d6 p36 p46 p56 hv6 S6
 refine yl (k:=62) ZW rfl Zd Zd Zo Zl p36 p46 p56 hv6 S6 ?_;intro b7 w7 v7 s7 d7 p37 p47 p57 hv7 S7
 refine yl (k:=71) ZW rfl Zd Zd Zo Zl p37 p47 p57 hv7 S7 ?_;intro b8 w8 v8 s8 d8 p38 p48 p58 hv8 S8
 refine yl (k:=80) ZW rfl Zd Zd Zo Zl p38 p48 p58 hv8 S8 ?_;intro b9 w9 v9 s9 d9 p39 p49 p59 hv9 S9
 refine yl (k:=89) ZW rfl Zd Zd Zo Zl p39 p49 p59 hv9 S9 ?_;intro b10 w10 v10 s10 d10 p310 p410 p510 hv10 S10
 refine yl (k:=98) ZW rfl Zd Zd Zo Zl p310 p410 p510 hv10 S10 ?_;intro b11 w11 v11 s11 d11 p311 p411 p511 hv11 S11
 refine yl (k:=107) ZW rfl Zd Zd Zo Zl p311 p411 p511 hv11 S11 ?_;intro b12 w12 v12 s12 d12 p312 p412 p512 hv12 S12
 refine yl (k:=116) ZW rfl Zd Zd Zo Zl p312 p412 p512 hv12 S12 ?_;intro b13 w13 v13 s13 d13 p313 p413 p513 hv13 S13
 refine yl (k:=125) ZW rfl Zd Zd Zo Zl p313 p413 p513 hv13 S13 ?_;intro b14 w14 v14 s14 d14 p314 p414 p514 hv14 S14
 refine yl (k:=134) ZW rfl Zd Zd Zo Zl p314 p414 p514 hv14 S14 ?_;intro b15 w15 v15 s15 d15 p315 p415 p515 hv15 S15
 refine YG rfl (k:=143) Zd Zo (by rw [d15,d14,d13,d12,d11,d10,d9,d8,d7,d6,d5,d4,d3,d2,d1,d0];exact hdf) p415 p515 S15 ?_
 exact fun w' v' hR hB=>⟨v',rfl,hR,hB⟩
set_option maxRecDepth 100000 in
theorem Qr (onm:ByteArray) (x0 x1 x2 x3 x4 x5 x6 x7 x8 x9 x10 x11 x12 x13 x14:Int) (w:World):Calls Tryz.prog 111 #[.string onm,.agg #[.int .u32 x0,.int .u32 x1,.int .u32 x2,.int .u32 x3,.int .u32 x4,.int .u32 x5,.int .u32 x6,.int .u32 x7,.int .u32 x8,.int .u32 x9,.int .u32 x10,.int .u32 x11,.int .u32 x12,.int .u32 x13,.int .u32 x14]] w fun e w'=>∃ v,e=.returned (.agg (yK onm v))∧Kd.R k34 34 w' w.heap.size (fun _=>True) v [yz ⟨#[76,111,111,107,117,112]⟩ (IntKind.u64.wrap x0),yz ⟨#[67,111,109,112,97,114,101]⟩ (IntKind.u64.wrap x1),yz ⟨#[73,110,115,114,101,99]⟩ (IntKind.u64.wrap x2),yz ⟨#[68,101,108,114,101,99]⟩ (IntKind.u64.wrap x3),yz ⟨#[78,101,119,82,111,111,116]⟩ (IntKind.u64.wrap x4),yz ⟨#[75,105,108,108,82,111,111,116]⟩ (IntKind.u64.wrap x5),yz ⟨#[73,110,99,114,101,109,101,110,116]⟩ (IntKind.u64.wrap x6),yz ⟨#[68,101,99,114,101,109,101,110,116]⟩ (IntKind.u64.wrap x7),yz ⟨#[76,115,104,105,102,116]⟩ (IntKind.u64.wrap x8),yz ⟨#[82,115,104,105,102,116]⟩ (IntKind.u64.wrap x9),yz ⟨#[83,112,108,105,116]⟩ (IntKind.u64.wrap x10),yz ⟨#[74,111,105,110]⟩ (IntKind.u64.wrap x11),yz ⟨#[65,108,108,111,99]⟩ (IntKind.u64.wrap x12),yz ⟨#[70,114,101,101]⟩ (IntKind.u64.wrap x13),yz ⟨#[77,111,118,101,115]⟩ (IntKind.u64.wrap x14)]∧Below w.heap.size w w':=by
 go_enter Tryz.func111,Tryz.ntmps111
 generalize ha0:(Act.mk _ _)=a0
 have hsz:a0.tmps.size=Tryz.f111.ntmps:=by rw [← ha0];rfl
 replace hsz:a0.tmps.size=144:=hsz.trans Zk
 have hdf:a0.defers=[]:=by rw [← ha0]
 have e0:a0.eval (.tmp 0)=.string onm:=by rw [← ha0];rfl
 have e1:a0.eval (.tmp 1)=.agg #[.int .u32 x0,.int .u32 x1,.int .u32 x2,.int .u32 x3,.int .u32 x4,.int .u32 x5,.int .u32 x6,.int .u32 x7,.int .u32 x8,.int .u32 x9,.int .u32 x10,.int .u32 x11,.int .u32 x12,.int .u32 x13,.int .u32 x14]:=by rw [← ha0];rfl
 clear ha0
 refine Yl (vals:=#[.int .u32 x0,.int .u32 x1,.int .u32 x2,.int .u32 x3,.int .u32 x4,.int .u32 x5,.int .u32 x6,.int .u32 x7,.int .u32 x8,.int .u32 x9,.int .u32 x10,.int .u32 x11,.int .u32 x12,.int .u32 x13,.int .u32 x14]) ZW Zo e0 e1 ?_;intro b0 w0 g gr gv v0 s0 d0 p30 p40 p50 hv0 S0
 refine yl (k:=8) ZW rfl Zd Zd Zo Zl p30 p40 p50 hv0 S0 ?_;intro b1 w1 v1 s1 d1 p31 p41 p51 hv1 S1
 refine yl (k:=17) ZW rfl Zd Zd Zo Zl p31 p41 p51 hv1 S1 ?_;intro b2 w2 v2 s2 d2 p32 p42 p52 hv2 S2
 refine yl (k:=26) ZW rfl Zd Zd Zo Zl p32 p42 p52 hv2 S2 ?_;intro b3 w3 v3 s3 d3 p33 p43 p53 hv3 S3
 refine yl (k:=35) ZW rfl Zd Zd Zo Zl p33 p43 p53 hv3 S3 ?_;intro b4 w4 v4 s4 d4 p34 p44 p54 hv4 S4
 refine yl (k:=44) ZW rfl Zd Zd Zo Zl p34 p44 p54 hv4 S4 ?_;intro b5 w5 v5 s5 d5 p35 p45 p55 hv5 S5
 refine yl (k:=53) ZW rfl Zd Zd Zo Zl p35 p45 p55 hv5 S5 ?_;intro b6 w6 v6 s6 d6 p36 p46 p56 hv6 S6
 refine yl (k:=62) ZW rfl Zd Zd Zo Zl p36 p46 p56 hv6 S6 ?_;intro b7 w7 v7 s7 d7 p37 p47 p57 hv7 S7
 refine yl (k:=71) ZW rfl Zd Zd Zo Zl p37 p47 p57 hv7 S7 ?_;intro b8 w8 v8 s8 d8 p38 p48 p58 hv8 S8
 refine yl (k:=80) ZW rfl Zd Zd Zo Zl p38 p48 p58 hv8 S8 ?_;intro b9 w9 v9 s9 d9 p39 p49 p59 hv9 S9
 refine yl (k:=89) ZW rfl Zd Zd Zo Zl p39 p49 p59 hv9 S9 ?_;intro b10 w10 v10 s10 d10 p310 p410 p510 hv10 S10
 refine yl (k:=98) ZW rfl Zd Zd Zo Zl p310 p410 p510 hv10 S10 ?_;intro b11 w11 v11 s11 d11 p311 p411 p511 hv11 S11
 refine yl (k:=107) ZW rfl Zd Zd Zo Zl p311 p411 p511 hv11 S11 ?_;intro b12 w12 v12 s12 d12 p312 p412 p512 hv12 S12
 refine yl (k:=116) ZW rfl Zd Zd Zo Zl p312 p412 p512 hv12 S12 ?_;intro b13 w13 v13 s13 d13 p313 p413 p513 hv13 S13
 refine yl (k:=125) ZW rfl Zd Zd Zo Zl p313 p413 p513 hv13 S13 ?_;intro b14 w14 v14 s14 d14 p314 p414 p514 hv14 S14
 refine yl (k:=134) ZW rfl Zd Zd Zo Zl p314 p414 p514 hv14 S14 ?_;intro b15 w15 v15 s15 d15 p315 p415 p515 hv15 S15
 refine YG rfl (k:=143) Zd Zo (by rw [d15,d14,d13,d12,d11,d10,d9,d8,d7,d6,d5,d4,d3,d2,d1,d0];exact hdf) p415 p515 S15 ?_
 exact fun w' v' hR hB=>⟨v',rfl,hR,hB⟩
set_option maxRecDepth 100000 in
theorem ybB (onm:ByteArray) (x0 x1 x2:Int) (w:World):Calls Tryz.prog 112 #[.string onm,.agg #[.int .u32 x0,.int .u32 x1,.int .u32 x2]] w fun e w'=>∃ v,e=.returned (.agg (yK onm v))∧Kd.R k34 34 w' w.heap.size (fun _=>True) v [yz ⟨#[71,99,82,101,97,100,67,97,108,108,115]⟩ (IntKind.u64.wrap x0),yz ⟨#[71,99,87,114,105,116,101,67,97,108,108,115]⟩ (IntKind.u64.wrap x1),yz ⟨#[71,99,90,111,110,101,82,101,115,101,116,67,97,108,108,115]⟩ (IntKind.u64.wrap x2)]∧Below w.heap.size w w':=by
 go_enter Tryz.func112,Tryz.ntmps112
 generalize ha0:(Act.mk _ _)=a0
 have hsz:a0.tmps.size=Tryz.f112.ntmps:=by rw [← ha0];rfl
 replace hsz:a0.tmps.size=36:=hsz.trans Zk
 have hdf:a0.defers=[]:=by rw [← ha0]
 have e0:a0.eval (.tmp 0)=.string onm:=by rw [← ha0];rfl
 have e1:a0.eval (.tmp 1)=.agg #[.int .u32 x0,.int .u32 x1,.int .u32 x2]:=by rw [← ha0];rfl
 clear ha0
 refine Yl (vals:=#[.int .u32 x0,.int .u32 x1,.int .u32 x2]) ZW Zo e0 e1 ?_;intro b0 w0 g gr gv v0 s0 d0 p30 p40 p50 hv0 S0
 refine yl (k:=8) ZW rfl Zd Zd Zo Zl p30 p40 p50 hv0 S0 ?_;intro b1 w1 v1 s1 d1 p31 p41 p51 hv1 S1
 refine yl (k:=17) ZW rfl Zd Zd Zo Zl p31 p41 p51 hv1 S1 ?_;intro b2 w2 v2 s2 d2 p32 p42 p52 hv2 S2
 refine yl (k:=26) ZW rfl Zd Zd Zo Zl p32 p42 p52 hv2 S2 ?_;intro b3 w3 v3 s3 d3 p33 p43 p53 hv3 S3
 refine YG rfl (k:=35) Zd Zo (by rw [d3,d2,d1,d0];exact hdf) p43 p53 S3 ?_
 exact fun w' v' hR hB=>⟨v',rfl,hR,hB⟩
set_option maxRecDepth 100000 in
theorem yaL (onm:ByteArray) (x0:Int) (w:World):Calls Tryz.prog 113 #[.string onm,.agg #[.int .u32 x0]] w fun e w'=>∃ v,e=.returned (.agg (yK onm v))∧Kd.R k34 34 w' w.heap.size (fun _=>True) v [yz ⟨#[73,110,111,100,101,115]⟩ (IntKind.u64.wrap x0)]∧Below w.heap.size w w':=by
 go_enter Tryz.func113,Tryz.ntmps113
 generalize ha0:(Act.mk _ _)=a0
 have hsz:a0.tmps.size=Tryz.f113.ntmps:=by rw [← ha0];rfl
 replace hsz:a0.tmps.size=18:=hsz.trans Zk
 have hdf:a0.defers=[]:=by rw [← ha0]
 have e0:a0.eval (.tmp 0)=.string onm:=by rw [← ha0];rfl
 have e1:a0.eval (.tmp 1)=.agg #[.int .u32 x0]:=by rw [← ha0];rfl
 clear ha0
 refine Yl (vals:=#[.int .u32 x0]) ZW Zo e0 e1 ?_;intro b0 w0 g gr gv v0 s0 d0 p30 p40 p50 hv0 S0
 refine yl (k:=8) ZW rfl Zd Zd Zo Zl p30 p40 p50 hv0 S0 ?_;intro b1 w1 v1 s1 d1 p31 p41 p51 hv1 S1
 refine YG rfl (k:=17) Zd Zo (by rw [d1,d0];exact hdf) p41 p51 S1 ?_
 exact fun w' v' hR hB=>⟨v',rfl,hR,hB⟩
set_option maxRecDepth 100000 in
theorem yam (onm:ByteArray) (x0:Int) (w:World):Calls Tryz.prog 114 #[.string onm,.agg #[.int .u64 x0]] w fun e w'=>∃ v,e=.returned (.agg (yK onm v))∧Kd.R k34 34 w' w.heap.size (fun _=>True) v [yz ⟨#[67,111,117,110,116]⟩ x0]∧Below w.heap.size w w':=by
 go_enter Tryz.func114,Tryz.ntmps114
 generalize ha0:(Act.mk _ _)=a0
 have hsz:a0.tmps.size=Tryz.f114.ntmps:=by rw [← ha0];rfl
 replace hsz:a0.tmps.size=17:=hsz.trans Zk
 have hdf:a0.defers=[]:=by rw [← ha0]
 have e0:a0.eval (.tmp 0)=.string onm:=by rw [← ha0];rfl
 have e1:a0.eval (.tmp 1)=.agg #[.int .u64 x0]:=by rw [← ha0];rfl
 clear ha0
 refine Yl (vals:=#[.int .u64 x0]) ZW Zo e0 e1 ?_;intro b0 w0 g gr gv v0 s0 d0 p30 p40 p50 hv0 S0
 refine ybS (k:=8) ZW rfl Zd Zd Zo Zl p30 p40 p50 hv0 S0 ?_;intro b1 w1 v1 s1 d1 p31 p41 p51 hv1 S1
 refine YG rfl (k:=16) Zd Zo (by rw [d1,d0];exact hdf) p41 p51 S1 ?_
 exact fun w' v' hR hB=>⟨v',rfl,hR,hB⟩
set_option maxRecDepth 100000 in
theorem ybz (onm:ByteArray) (x0:Int) (w:World):Calls Tryz.prog 115 #[.string onm,.agg #[.int .u64 x0]] w fun e w'=>∃ v,e=.returned (.agg (yK onm v))∧Kd.R k34 34 w' w.heap.size (fun _=>True) v [yz ⟨#[66,121,116,101,115]⟩ x0]∧Below w.heap.size w w':=by
 go_enter Tryz.func115,Tryz.ntmps115
 generalize ha0:(Act.mk _ _)=a0
 have hsz:a0.tmps.size=Tryz.f115.ntmps:=by rw [← ha0];rfl
 replace hsz:a0.tmps.size=17:=hsz.trans Zk
 have hdf:a0.defers=[]:=by rw [← ha0]
 have e0:a0.eval (.tmp 0)=.string onm:=by rw [← ha0];rfl
 have e1:a0.eval (.tmp 1)=.agg #[.int .u64 x0]:=by rw [← ha0];rfl
 clear ha0
 refine Yl (vals:=#[.int .u64 x0]) ZW Zo e0 e1 ?_;intro b0 w0 g gr gv v0 s0 d0 p30 p40 p50 hv0 S0
 refine ybS (k:=8) ZW rfl Zd Zd Zo Zl p30 p40 p50 hv0 S0 ?_;intro b1 w1 v1 s1 d1 p31 p41 p51 hv1 S1
 refine YG rfl (k:=16) Zd Zo (by rw [d1,d0];exact hdf) p41 p51 S1 ?_
 exact fun w' v' hR hB=>⟨v',rfl,hR,hB⟩
end Go.Proofs.YtdcaggoicdfehaaGreatDoor
