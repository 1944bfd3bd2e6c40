/- Part 17 of 44 of the proof of the tied card of FnXfsRead. -/
import Derived.Test.YtdcaggoicdfehaaGreatDoorVz
import Derived.Test.YtdcaggoicdfehaaGreatDoorV16
set_option linter.unusedVariables false
set_option linter.unusedSimpArgs false
namespace Go.Proofs.YtdcaggoicdfehaaGreatDoor
open Go.RowKit Go.Proofs.YtdcaggoicdfehaaGreatDoorW.PrintWords Go.Proofs.YtdcaggoicdfehaaGreatDoorW.PrintLast Go.Proofs.YtdcaggoicdfehaaGreatDoorW.PrintMore
theorem yaD (s:ByteArray) (n:Nat→Nat→Int):(yj s n).size=276:=by kernel_rfl
set_option maxRecDepth 100000 in
theorem lay0 (s:ByteArray) (n:Nat→Nat→Int) (x:Nat→Int):yT (yj s n) 1 [.int .u32 (x 0),.int .u32 (x 1),.int .u32 (x 2),.int .u32 (x 3)]=yj s (upd n 0 x):=by kernel_rfl
set_option maxRecDepth 100000 in
theorem lay1 (s:ByteArray) (n:Nat→Nat→Int) (x:Nat→Int):yT (yj s n) 5 [.int .u32 (x 0),.int .u32 (x 1),.int .u32 (x 2),.int .u32 (x 3)]=yj s (upd n 1 x):=by kernel_rfl
set_option maxRecDepth 100000 in
theorem lay2 (s:ByteArray) (n:Nat→Nat→Int) (x:Nat→Int):yT (yj s n) 9 [.int .u32 (x 0),.int .u32 (x 1),.int .u32 (x 2),.int .u32 (x 3),.int .u32 (x 4),.int .u32 (x 5),.int .u32 (x 6)]=yj s (upd n 2 x):=by kernel_rfl
set_option maxRecDepth 100000 in
theorem lay3 (s:ByteArray) (n:Nat→Nat→Int) (x:Nat→Int):yT (yj s n) 16 [.int .u32 (x 0),.int .u32 (x 1),.int .u32 (x 2),.int .u32 (x 3)]=yj s (upd n 3 x):=by kernel_rfl
set_option maxRecDepth 100000 in
theorem lay4 (s:ByteArray) (n:Nat→Nat→Int) (x:Nat→Int):yT (yj s n) 20 [.int .u32 (x 0),.int .u32 (x 1),.int .u32 (x 2),.int .u32 (x 3)]=yj s (upd n 4 x):=by kernel_rfl
set_option maxRecDepth 100000 in
theorem lay5 (s:ByteArray) (n:Nat→Nat→Int) (x:Nat→Int):yT (yj s n) 24 [.int .u32 (x 0),.int .u32 (x 1),.int .u32 (x 2)]=yj s (upd n 5 x):=by kernel_rfl
set_option maxRecDepth 100000 in
theorem lay6 (s:ByteArray) (n:Nat→Nat→Int) (x:Nat→Int):yT (yj s n) 27 [.int .u32 (x 0),.int .u32 (x 1),.int .u32 (x 2),.int .u32 (x 3),.int .u32 (x 4),.int .u32 (x 5),.int .u32 (x 6)]=yj s (upd n 6 x):=by kernel_rfl
set_option maxRecDepth 100000 in
theorem lay7 (s:ByteArray) (n:Nat→Nat→Int) (x:Nat→Int):yT (yj s n) 34 [.int .u32 (x 0),.int .u32 (x 1),.int .u32 (x 2),.int .u32 (x 3),.int .u32 (x 4)]=yj s (upd n 7 x):=by kernel_rfl
set_option maxRecDepth 100000 in
theorem lay8 (s:ByteArray) (n:Nat→Nat→Int) (x:Nat→Int):yT (yj s n) 39 [.int .u32 (x 0),.int .u32 (x 1)]=yj s (upd n 8 x):=by kernel_rfl
set_option maxRecDepth 100000 in
theorem lay9 (s:ByteArray) (n:Nat→Nat→Int) (x:Nat→Int):yT (yj s n) 41 [.int .u32 (x 0),.int .u32 (x 1),.int .u32 (x 2),.int .u32 (x 3)]=yj s (upd n 9 x):=by kernel_rfl
set_option maxRecDepth 100000 in
theorem lay10 (s:ByteArray) (n:Nat→Nat→Int) (x:Nat→Int):yT (yj s n) 45 [.int .u32 (x 0),.int .u32 (x 1),.int .u32 (x 2)]=yj s (upd n 10 x):=by kernel_rfl
set_option maxRecDepth 100000 in
theorem lay11 (s:ByteArray) (n:Nat→Nat→Int) (x:Nat→Int):yT (yj s n) 48 [.int .u32 (x 0),.int .u32 (x 1),.int .u32 (x 2),.int .u32 (x 3),.int .u32 (x 4),.int .u32 (x 5),.int .u32 (x 6),.int .u32 (x 7)]=yj s (upd n 11 x):=by kernel_rfl
set_option maxRecDepth 100000 in
theorem lay12 (s:ByteArray) (n:Nat→Nat→Int) (x:Nat→Int):yT (yj s n) 56 [.int .u32 (x 0),.int .u32 (x 1),.int .u32 (x 2),.int .u32 (x 3),.int .u32 (x 4),.int .u32 (x 5),.int .u32 (x 6),.int .u32 (x 7),.int .u32 (x 8)]=yj s (upd n 12 x):=by kernel_rfl
set_option maxRecDepth 100000 in
theorem lay15 (s:ByteArray) (n:Nat→Nat→Int) (x:Nat→Int):yT (yj s n) 70 [.int .u32 (x 0),.int .u32 (x 1),.int .u32 (x 2),.int .u32 (x 3),.int .u32 (x 4),.int .u32 (x 5),.int .u32 (x 6),.int .u32 (x 7),.int .u32 (x 8),.int .u32 (x 9)]=yj s (upd n 15 x):=by kernel_rfl
set_option maxRecDepth 100000 in
theorem lay14 (s:ByteArray) (n:Nat→Nat→Int) (x:Nat→Int):yT (yj s n) 68 [.int .u32 (x 0),.int .u32 (x 1)]=yj s (upd n 14 x):=by kernel_rfl
set_option maxRecDepth 100000 in
theorem lay18 (s:ByteArray) (n:Nat→Nat→Int) (x:Nat→Int):yT (yj s n) 90 [.int .u32 (x 0),.int .u32 (x 1),.int .u32 (x 2),.int .u32 (x 3),.int .u32 (x 4),.int .u32 (x 5),.int .u32 (x 6),.int .u32 (x 7),.int .u32 (x 8),.int .u32 (x 9),.int .u32 (x 10),.int .u32 (x 11),.int .u32 (x 12),.int .u32 (x 13),.int .u32 (x 14)]=yj s (upd n 18 x):=by kernel_rfl
set_option maxRecDepth 100000 in
theorem lay19 (s:ByteArray) (n:Nat→Nat→Int) (x:Nat→Int):yT (yj s n) 105 [.int .u32 (x 0),.int .u32 (x 1),.int .u32 (x 2),.int .u32 (x 3),.int .u32 (x 4),.int .u32 (x 5),.int .u32 (x 6),.int .u32 (x 7),.int .u32 (x 8),.int .u32 (x 9),.int .u32 (x 10),.int .u32 (x 11),.int .u32 (x 12),.int .u32 (x 13),.int .u32 (x 14)]=yj s (upd n 19 x):=by kernel_rfl
set_option maxRecDepth 100000 in
theorem lay20 (s:ByteArray) (n:Nat→Nat→Int) (x:Nat→Int):yT (yj s n) 120 [.int .u32 (x 0),.int .u32 (x 1),.int .u32 (x 2),.int .u32 (x 3),.int .u32 (x 4),.int .u32 (x 5),.int .u32 (x 6),.int .u32 (x 7),.int .u32 (x 8),.int .u32 (x 9),.int .u32 (x 10),.int .u32 (x 11),.int .u32 (x 12),.int .u32 (x 13),.int .u32 (x 14)]=yj s (upd n 20 x):=by kernel_rfl
set_option maxRecDepth 100000 in
theorem lay21 (s:ByteArray) (n:Nat→Nat→Int) (x:Nat→Int):yT (yj s n) 135 [.int .u32 (x 0),.int .u32 (x 1),.int .u32 (x 2),.int .u32 (x 3),.int .u32 (x 4),.int .u32 (x 5),.int .u32 (x 6),.int .u32 (x 7),.int .u32 (x 8),.int .u32 (x 9),.int .u32 (x 10),.int .u32 (x 11),.int .u32 (x 12),.int .u32 (x 13),.int .u32 (x 14)]=yj s (upd n 21 x):=by kernel_rfl
set_option maxRecDepth 100000 in
theorem lay22 (s:ByteArray) (n:Nat→Nat→Int) (x:Nat→Int):yT (yj s n) 150 [.int .u32 (x 0),.int .u32 (x 1),.int .u32 (x 2),.int .u32 (x 3),.int .u32 (x 4),.int .u32 (x 5),.int .u32 (x 6),.int .u32 (x 7),.int .u32 (x 8),.int .u32 (x 9),.int .u32 (x 10),.int .u32 (x 11),.int .u32 (x 12),.int .u32 (x 13),.int .u32 (x 14)]=yj s (upd n 22 x):=by kernel_rfl
set_option maxRecDepth 100000 in
theorem lay23 (s:ByteArray) (n:Nat→Nat→Int) (x:Nat→Int):yT (yj s n) 165 [.int .u32 (x 0),.int .u32 (x 1),.int .u32 (x 2),.int .u32 (x 3),.int .u32 (x 4),.int .u32 (x 5),.int .u32 (x 6),.int .u32 (x 7),.int .u32 (x 8),.int .u32 (x 9),.int .u32 (x 10),.int .u32 (x 11),.int .u32 (x 12),.int .u32 (x 13),.int .u32 (x 14)]=yj s (upd n 23 x):=by kernel_rfl
set_option maxRecDepth 100000 in
theorem lay24 (s:ByteArray) (n:Nat→Nat→Int) (x:Nat→Int):yT (yj s n) 180 [.int .u32 (x 0),.int .u32 (x 1),.int .u32 (x 2),.int .u32 (x 3),.int .u32 (x 4),.int .u32 (x 5),.int .u32 (x 6),.int .u32 (x 7),.int .u32 (x 8),.int .u32 (x 9),.int .u32 (x 10),.int .u32 (x 11),.int .u32 (x 12),.int .u32 (x 13),.int .u32 (x 14)]=yj s (upd n 24 x):=by kernel_rfl
set_option maxRecDepth 100000 in
theorem lay25 (s:ByteArray) (n:Nat→Nat→Int) (x:Nat→Int):yT (yj s n) 195 [.int .u32 (x 0),.int .u32 (x 1),.int .u32 (x 2),.int .u32 (x 3),.int .u32 (x 4),.int .u32 (x 5),.int .u32 (x 6),.int .u32 (x 7),.int .u32 (x 8),.int .u32 (x 9),.int .u32 (x 10),.int .u32 (x 11),.int .u32 (x 12),.int .u32 (x 13),.int .u32 (x 14)]=yj s (upd n 25 x):=by kernel_rfl
set_option maxRecDepth 100000 in
theorem lay26 (s:ByteArray) (n:Nat→Nat→Int) (x:Nat→Int):yT (yj s n) 210 [.int .u32 (x 0),.int .u32 (x 1),.int .u32 (x 2),.int .u32 (x 3),.int .u32 (x 4),.int .u32 (x 5),.int .u32 (x 6),.int .u32 (x 7),.int .u32 (x 8),.int .u32 (x 9),.int .u32 (x 10),.int .u32 (x 11),.int .u32 (x 12),.int .u32 (x 13),.int .u32 (x 14)]=yj s (upd n 26 x):=by kernel_rfl
set_option maxRecDepth 100000 in
theorem lay27 (s:ByteArray) (n:Nat→Nat→Int) (x:Nat→Int):yT (yj s n) 225 [.int .u32 (x 0),.int .u32 (x 1),.int .u32 (x 2),.int .u32 (x 3),.int .u32 (x 4),.int .u32 (x 5),.int .u32 (x 6),.int .u32 (x 7),.int .u32 (x 8),.int .u32 (x 9),.int .u32 (x 10),.int .u32 (x 11),.int .u32 (x 12),.int .u32 (x 13),.int .u32 (x 14)]=yj s (upd n 27 x):=by kernel_rfl
set_option maxRecDepth 100000 in
theorem lay28 (s:ByteArray) (n:Nat→Nat→Int) (x:Nat→Int):yT (yj s n) 240 [.int .u32 (x 0),.int .u32 (x 1),.int .u32 (x 2),.int .u32 (x 3),.int .u32 (x 4),.int .u32 (x 5),.int .u32 (x 6),.int .u32 (x 7),.int .u32 (x 8),.int .u32 (x 9),.int .u32 (x 10),.int .u32 (x 11),.int .u32 (x 12),.int .u32 (x 13),.int .u32 (x 14)]=yj s (upd n 28 x):=by kernel_rfl
set_option maxRecDepth 100000 in
theorem lay29 (s:ByteArray) (n:Nat→Nat→Int) (x:Nat→Int):yT (yj s n) 255 [.int .u32 (x 0),.int .u32 (x 1),.int .u32 (x 2),.int .u32 (x 3),.int .u32 (x 4),.int .u32 (x 5),.int .u32 (x 6),.int .u32 (x 7),.int .u32 (x 8),.int .u32 (x 9),.int .u32 (x 10),.int .u32 (x 11),.int .u32 (x 12),.int .u32 (x 13),.int .u32 (x 14)]=yj s (upd n 29 x):=by kernel_rfl
set_option maxRecDepth 100000 in
theorem lay17 (s:ByteArray) (n:Nat→Nat→Int) (x:Nat→Int):yT (yj s n) 81 [.int .u32 (x 0),.int .u32 (x 1),.int .u32 (x 2),.int .u32 (x 3),.int .u32 (x 4),.int .u32 (x 5),.int .u32 (x 6),.int .u32 (x 7),.int .u32 (x 8)]=yj s (upd n 17 x):=by kernel_rfl
set_option maxRecDepth 100000 in
theorem lay16 (s:ByteArray) (n:Nat→Nat→Int) (x:Nat→Int):yT (yj s n) 80 [.int .u32 (x 0)]=yj s (upd n 16 x):=by kernel_rfl
set_option maxRecDepth 100000 in
theorem lay30 (s:ByteArray) (n:Nat→Nat→Int) (x:Nat→Int):yT (yj s n) 270 [.int .u32 (x 0),.int .u32 (x 1),.int .u32 (x 2)]=yj s (upd n 30 x):=by kernel_rfl
set_option maxRecDepth 100000 in
theorem lay31 (s:ByteArray) (n:Nat→Nat→Int) (x:Nat→Int):yT (yj s n) 273 [.int .u32 (x 0)]=yj s (upd n 31 x):=by kernel_rfl
set_option maxRecDepth 100000 in
theorem lay13 (s:ByteArray) (n:Nat→Nat→Int) (x:Nat→Int):yT (yj s n) 65 [.int .u64 (x 0),.int .u64 (x 1),.int .u64 (x 2)]=yj s (upd n 13 x):=by kernel_rfl
set_option maxRecDepth 100000 in
theorem lay32 (s:ByteArray) (n:Nat→Nat→Int) (x:Nat→Int):yT (yj s n) 274 [.int .u64 (x 0)]=yj s (upd n 32 x):=by kernel_rfl
end Go.Proofs.YtdcaggoicdfehaaGreatDoor
