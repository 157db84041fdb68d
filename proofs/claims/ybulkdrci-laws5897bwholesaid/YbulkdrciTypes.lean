import Derived.Test.YbulkdrciRows
import Derived.Test.YbulkdrciOps
namespace Go.Proofs.Ybulkdrci
open Go Go.Proofs.Ybulkdrci.Sym
theorem mixed : Yba.prog.follows .mixedOrders = true := by kernel_rfl
theorem fo50_0 : fieldOff Yba.prog 50 0 = some 0 := by kernel_rfl
theorem fo56_0 : fieldOff Yba.prog 56 0 = some 0 := by kernel_rfl
theorem fo56_1 : fieldOff Yba.prog 56 1 = some 1 := by kernel_rfl
theorem fo56_2 : fieldOff Yba.prog 56 2 = some 2 := by kernel_rfl
theorem fo56_5 : fieldOff Yba.prog 56 5 = some 5 := by kernel_rfl
theorem fo66_0 : fieldOff Yba.prog 66 0 = some 0 := by kernel_rfl
theorem fo74_0 : fieldOff Yba.prog 74 0 = some 0 := by kernel_rfl
theorem fo74_1 : fieldOff Yba.prog 74 1 = some 3 := by kernel_rfl
theorem fo74_3 : fieldOff Yba.prog 74 3 = some 5 := by kernel_rfl
theorem fo74_4 : fieldOff Yba.prog 74 4 = some 6 := by kernel_rfl
theorem fo74_20 : fieldOff Yba.prog 74 20 = some 22 := by kernel_rfl
theorem fo74_22 : fieldOff Yba.prog 74 22 = some 26 := by kernel_rfl
theorem in3 : infoIs Yba.prog 3 (.int .i64 0) 8 := by unfold infoIs; kernel_rfl
theorem in4 : infoIs Yba.prog 4 (.bool false) 1 := by unfold infoIs; kernel_rfl
theorem in21 : infoIs Yba.prog 21 (.int .i32 0) 4 := by unfold infoIs; kernel_rfl
theorem in61 : infoIs Yba.prog 61 (.int .u32 0) 4 := by unfold infoIs; kernel_rfl
theorem sc3 : scalar Yba.prog 3 = true := by kernel_rfl
theorem sc4 : scalar Yba.prog 4 = true := by kernel_rfl
theorem sc5 : scalar Yba.prog 5 = true := by kernel_rfl
theorem sc21 : scalar Yba.prog 21 = true := by kernel_rfl
theorem sc46 : scalar Yba.prog 46 = true := by kernel_rfl
theorem sc47 : scalar Yba.prog 47 = true := by kernel_rfl
theorem sc48 : scalar Yba.prog 48 = true := by kernel_rfl
theorem sc51 : scalar Yba.prog 51 = true := by kernel_rfl
theorem sc60 : scalar Yba.prog 60 = true := by kernel_rfl
theorem sc61 : scalar Yba.prog 61 = true := by kernel_rfl
theorem sc71 : scalar Yba.prog 71 = true := by kernel_rfl
theorem se22 : size1 Yba.prog 5 = true := by kernel_rfl
theorem se23 : size1 Yba.prog 4 = true := by kernel_rfl
theorem se47 : size1 Yba.prog 21 = true := by kernel_rfl
theorem se51 : size1 Yba.prog 3 = true := by kernel_rfl
theorem se60 : size1 Yba.prog 61 = true := by kernel_rfl
theorem sz3 : size1 Yba.prog 3 = true := by kernel_rfl
theorem sz4 : size1 Yba.prog 4 = true := by kernel_rfl
theorem sz21 : size1 Yba.prog 21 = true := by kernel_rfl
theorem sz51 : size1 Yba.prog 51 = true := by kernel_rfl
theorem sz60 : size1 Yba.prog 60 = true := by kernel_rfl
theorem sz61 : size1 Yba.prog 61 = true := by kernel_rfl
theorem u3 : Yba.prog.underlying 3 = some (.int .i64) := by kernel_rfl
theorem u4 : Yba.prog.underlying 4 = some (.bool) := by kernel_rfl
theorem u5 : Yba.prog.underlying 5 = some (.int .u8) := by kernel_rfl
theorem u9 : Yba.prog.underlying 9 = some (.string) := by kernel_rfl
theorem u21 : Yba.prog.underlying 21 = some (.int .i32) := by kernel_rfl
theorem u22 : Yba.prog.underlying 22 = some (.slice 5) := by kernel_rfl
theorem u23 : Yba.prog.underlying 23 = some (.slice 4) := by kernel_rfl
theorem u46 : Yba.prog.underlying 46 = some (.slice 50) := by kernel_rfl
theorem u47 : Yba.prog.underlying 47 = some (.slice 21) := by kernel_rfl
theorem u48 : Yba.prog.underlying 48 = some (.int .u8) := by kernel_rfl
theorem u51 : Yba.prog.underlying 51 = some (.slice 3) := by kernel_rfl
theorem u52 : Yba.prog.underlying 52 = some (.int .u64) := by kernel_rfl
theorem u60 : Yba.prog.underlying 60 = some (.slice 61) := by kernel_rfl
theorem u61 : Yba.prog.underlying 61 = some (.int .u32) := by kernel_rfl
end Go.Proofs.Ybulkdrci
