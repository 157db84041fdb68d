import Derived.Test.YbulkdrciRows
import Derived.Test.YbulkdrciAOps6
namespace Go.Proofs.Ybulkdrci.A
open Go Go.Proofs.Ybulkdrci.A.Sym
theorem mixed : Yba.prog.follows .mixedOrders = true := by kernel_rfl
theorem fo28_0 : fieldOff Yba.prog 28 0 = some 0 := by kernel_rfl
theorem fo28_1 : fieldOff Yba.prog 28 1 = some 1 := by kernel_rfl
theorem fo28_2 : fieldOff Yba.prog 28 2 = some 2 := by kernel_rfl
theorem fo28_3 : fieldOff Yba.prog 28 3 = some 3 := by kernel_rfl
theorem fo34_0 : fieldOff Yba.prog 34 0 = some 0 := by kernel_rfl
theorem fo34_1 : fieldOff Yba.prog 34 1 = some 1 := by kernel_rfl
theorem fo34_2 : fieldOff Yba.prog 34 2 = some 2 := by kernel_rfl
theorem fo36_0 : fieldOff Yba.prog 36 0 = some 0 := by kernel_rfl
theorem fo36_1 : fieldOff Yba.prog 36 1 = some 1 := by kernel_rfl
theorem fo36_2 : fieldOff Yba.prog 36 2 = some 2 := by kernel_rfl
theorem fo36_3 : fieldOff Yba.prog 36 3 = some 3 := by kernel_rfl
theorem fo36_4 : fieldOff Yba.prog 36 4 = some 4 := by kernel_rfl
theorem fo36_5 : fieldOff Yba.prog 36 5 = some 5 := by kernel_rfl
theorem fo36_6 : fieldOff Yba.prog 36 6 = some 8 := by kernel_rfl
theorem fo84_0 : fieldOff Yba.prog 84 0 = some 0 := by kernel_rfl
theorem fo84_1 : fieldOff Yba.prog 84 1 = some 1 := by kernel_rfl
theorem fo84_2 : fieldOff Yba.prog 84 2 = some 2 := by kernel_rfl
theorem fo88_0 : fieldOff Yba.prog 88 0 = some 0 := by kernel_rfl
theorem fo88_1 : fieldOff Yba.prog 88 1 = some 4 := by kernel_rfl
theorem fo88_2 : fieldOff Yba.prog 88 2 = some 5 := by kernel_rfl
theorem fo88_3 : fieldOff Yba.prog 88 3 = some 6 := by kernel_rfl
theorem fo88_4 : fieldOff Yba.prog 88 4 = some 9 := by kernel_rfl
theorem fo88_5 : fieldOff Yba.prog 88 5 = some 10 := by kernel_rfl
theorem fo88_6 : fieldOff Yba.prog 88 6 = some 11 := by kernel_rfl
theorem fo88_7 : fieldOff Yba.prog 88 7 = some 12 := by kernel_rfl
theorem fo92_0 : fieldOff Yba.prog 92 0 = some 0 := by kernel_rfl
theorem fo92_1 : fieldOff Yba.prog 92 1 = some 1 := by kernel_rfl
theorem fo92_2 : fieldOff Yba.prog 92 2 = some 2 := by kernel_rfl
theorem fo92_3 : fieldOff Yba.prog 92 3 = some 3 := by kernel_rfl
theorem fo92_4 : fieldOff Yba.prog 92 4 = some 4 := by kernel_rfl
theorem fo112_0 : fieldOff Yba.prog 112 0 = some 0 := by kernel_rfl
theorem fo112_1 : fieldOff Yba.prog 112 1 = some 1 := by kernel_rfl
theorem fo118_0 : fieldOff Yba.prog 118 0 = some 0 := by kernel_rfl
theorem fo118_1 : fieldOff Yba.prog 118 1 = some 1 := by kernel_rfl
theorem fo118_2 : fieldOff Yba.prog 118 2 = some 2 := by kernel_rfl
theorem fo118_3 : fieldOff Yba.prog 118 3 = some 3 := by kernel_rfl
theorem fo118_4 : fieldOff Yba.prog 118 4 = some 4 := by kernel_rfl
theorem fo118_5 : fieldOff Yba.prog 118 5 = some 5 := by kernel_rfl
theorem fo121_0 : fieldOff Yba.prog 121 0 = some 0 := by kernel_rfl
theorem fo121_1 : fieldOff Yba.prog 121 1 = some 1 := by kernel_rfl
theorem fo121_2 : fieldOff Yba.prog 121 2 = some 2 := by kernel_rfl
theorem in3 : infoIs Yba.prog 3 (.int .i64 0) 8 := by unfold infoIs; kernel_rfl
theorem in4 : infoIs Yba.prog 4 (.bool false) 1 := by unfold infoIs; kernel_rfl
theorem in5 : infoIs Yba.prog 5 (.int .u8 0) 1 := by unfold infoIs; kernel_rfl
theorem in9 : infoIs Yba.prog 9 (.string ByteArray.empty) 16 := by unfold infoIs; kernel_rfl
theorem in26 : infoIs Yba.prog 26 (.int .u8 0) 1 := by unfold infoIs; kernel_rfl
theorem in42 : infoIs Yba.prog 42 (.int .u8 0) 1 := by unfold infoIs; kernel_rfl
theorem in90 : infoIs Yba.prog 90 (.int .u8 0) 1 := by unfold infoIs; kernel_rfl
theorem sc3 : scalar Yba.prog 3 = true := by kernel_rfl
theorem sc4 : scalar Yba.prog 4 = true := by kernel_rfl
theorem sc5 : scalar Yba.prog 5 = true := by kernel_rfl
theorem sc9 : scalar Yba.prog 9 = true := by kernel_rfl
theorem sc24 : scalar Yba.prog 24 = true := by kernel_rfl
theorem sc26 : scalar Yba.prog 26 = true := by kernel_rfl
theorem sc31 : scalar Yba.prog 31 = true := by kernel_rfl
theorem sc32 : scalar Yba.prog 32 = true := by kernel_rfl
theorem sc37 : scalar Yba.prog 37 = true := by kernel_rfl
theorem sc41 : scalar Yba.prog 41 = true := by kernel_rfl
theorem sc42 : scalar Yba.prog 42 = true := by kernel_rfl
theorem sc81 : scalar Yba.prog 81 = true := by kernel_rfl
theorem sc85 : scalar Yba.prog 85 = true := by kernel_rfl
theorem sc86 : scalar Yba.prog 86 = true := by kernel_rfl
theorem sc89 : scalar Yba.prog 89 = true := by kernel_rfl
theorem sc90 : scalar Yba.prog 90 = true := by kernel_rfl
theorem sc116 : scalar Yba.prog 116 = true := by kernel_rfl
theorem se22 : size1 Yba.prog 5 = true := by kernel_rfl
theorem se23 : size1 Yba.prog 4 = true := by kernel_rfl
theorem se29 : size1 Yba.prog 9 = true := by kernel_rfl
theorem se30 : size1 Yba.prog 26 = true := by kernel_rfl
theorem se43 : size1 Yba.prog 42 = true := by kernel_rfl
theorem sz3 : size1 Yba.prog 3 = true := by kernel_rfl
theorem sz4 : size1 Yba.prog 4 = true := by kernel_rfl
theorem sz5 : size1 Yba.prog 5 = true := by kernel_rfl
theorem sz9 : size1 Yba.prog 9 = true := by kernel_rfl
theorem sz24 : size1 Yba.prog 24 = true := by kernel_rfl
theorem sz26 : size1 Yba.prog 26 = true := by kernel_rfl
theorem sz37 : size1 Yba.prog 37 = true := by kernel_rfl
theorem sz42 : size1 Yba.prog 42 = true := by kernel_rfl
theorem sz81 : size1 Yba.prog 81 = true := by kernel_rfl
theorem sz86 : size1 Yba.prog 86 = true := by kernel_rfl
theorem sz89 : size1 Yba.prog 89 = true := by kernel_rfl
theorem sz90 : size1 Yba.prog 90 = true := by kernel_rfl
theorem u3 : Yba.prog.underlying 3 = some (.int .i64) := by kernel_rfl
theorem u4 : Yba.prog.underlying 4 = some (.bool) := by kernel_rfl
theorem u5 : Yba.prog.underlying 5 = some (.int .u8) := by kernel_rfl
theorem u9 : Yba.prog.underlying 9 = some (.string) := by kernel_rfl
theorem u21 : Yba.prog.underlying 21 = some (.int .i32) := by kernel_rfl
theorem u22 : Yba.prog.underlying 22 = some (.slice 5) := by kernel_rfl
theorem u23 : Yba.prog.underlying 23 = some (.slice 4) := by kernel_rfl
theorem u24 : Yba.prog.underlying 24 = some (.slice 28) := by kernel_rfl
theorem u26 : Yba.prog.underlying 26 = some (.int .u8) := by kernel_rfl
theorem u29 : Yba.prog.underlying 29 = some (.slice 9) := by kernel_rfl
theorem u30 : Yba.prog.underlying 30 = some (.slice 26) := by kernel_rfl
theorem u31 : Yba.prog.underlying 31 = some (.int .u8) := by kernel_rfl
theorem u32 : Yba.prog.underlying 32 = some (.int .u8) := by kernel_rfl
theorem u37 : Yba.prog.underlying 37 = some (.slice 40) := by kernel_rfl
theorem u42 : Yba.prog.underlying 42 = some (.int .u8) := by kernel_rfl
theorem u43 : Yba.prog.underlying 43 = some (.slice 42) := by kernel_rfl
theorem u81 : Yba.prog.underlying 81 = some (.pointer 88) := by kernel_rfl
theorem u86 : Yba.prog.underlying 86 = some (.slice 92) := by kernel_rfl
theorem u89 : Yba.prog.underlying 89 = some (.pointer 28) := by kernel_rfl
theorem u90 : Yba.prog.underlying 90 = some (.int .u8) := by kernel_rfl
theorem u100 : Yba.prog.underlying 100 = some (.pointer 92) := by kernel_rfl
theorem u113 : Yba.prog.underlying 113 = some (.slice 112) := by kernel_rfl
theorem u116 : Yba.prog.underlying 116 = some (.int .u8) := by kernel_rfl
theorem u122 : Yba.prog.underlying 122 = some (.slice 121) := by kernel_rfl
end Go.Proofs.Ybulkdrci.A
