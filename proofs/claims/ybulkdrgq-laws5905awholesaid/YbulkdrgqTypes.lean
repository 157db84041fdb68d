import Derived.Test.YbulkdrgqRows
import Derived.Test.YbulkdrgqOps
namespace Go.Proofs.Ybulkdrgq
open Go Go.Proofs.Ybulkdrgq.Sym
theorem mixed : Yba.prog.follows .mixedOrders = true := by kernel_rfl
theorem fo25_0 : fieldOff Yba.prog 25 0 = some 0 := by kernel_rfl
theorem fo25_1 : fieldOff Yba.prog 25 1 = some 1 := by kernel_rfl
theorem fo62_9 : fieldOff Yba.prog 62 9 = some 11 := by kernel_rfl
theorem fo62_10 : fieldOff Yba.prog 62 10 = some 12 := by kernel_rfl
theorem fo62_11 : fieldOff Yba.prog 62 11 = some 15 := by kernel_rfl
theorem fo65_0 : fieldOff Yba.prog 65 0 = some 0 := by kernel_rfl
theorem sc2 : scalar Yba.prog 2 = true := by kernel_rfl
theorem sc22 : scalar Yba.prog 22 = true := by kernel_rfl
theorem sc30 : scalar Yba.prog 30 = true := by kernel_rfl
theorem sz2 : size1 Yba.prog 2 = true := by kernel_rfl
theorem sz22 : size1 Yba.prog 22 = true := by kernel_rfl
theorem u2 : Yba.prog.underlying 2 = some (.int .i64) := by kernel_rfl
theorem u4 : Yba.prog.underlying 4 = some (.bool) := by kernel_rfl
theorem u21 : Yba.prog.underlying 21 = some (.int .i32) := by kernel_rfl
theorem u22 : Yba.prog.underlying 22 = some (.int .u64) := by kernel_rfl
theorem u27 : Yba.prog.underlying 27 = some (.int .i64) := by kernel_rfl
theorem u63 : Yba.prog.underlying 63 = some (.pointer 65) := by kernel_rfl
theorem u75 : Yba.prog.underlying 75 = some (.pointer 25) := by kernel_rfl
theorem u76 : Yba.prog.underlying 76 = some (.int .u64) := by kernel_rfl
end Go.Proofs.Ybulkdrgq
