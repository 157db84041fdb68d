import Derived.Test.YbulkdrdyRows
import Derived.Test.YbulkdrdyOps
namespace Go.Proofs.Ybulkdrdy
open Go Go.Proofs.Ybulkdrdy.Sym
theorem mixed : Yba.prog.follows .mixedOrders = true := by kernel_rfl
theorem fo29_0 : fieldOff Yba.prog 29 0 = some 0 := by kernel_rfl
theorem fo32_0 : fieldOff Yba.prog 32 0 = some 0 := by kernel_rfl
theorem fo32_1 : fieldOff Yba.prog 32 1 = some 1 := by kernel_rfl
theorem fo32_2 : fieldOff Yba.prog 32 2 = some 2 := by kernel_rfl
theorem fo34_0 : fieldOff Yba.prog 34 0 = some 0 := by kernel_rfl
theorem fo34_1 : fieldOff Yba.prog 34 1 = some 1 := by kernel_rfl
theorem fo34_2 : fieldOff Yba.prog 34 2 = some 2 := by kernel_rfl
theorem sc2 : scalar Yba.prog 2 = true := by kernel_rfl
theorem sc3 : scalar Yba.prog 3 = true := by kernel_rfl
theorem sc4 : scalar Yba.prog 4 = true := by kernel_rfl
theorem sc5 : scalar Yba.prog 5 = true := by kernel_rfl
theorem sc9 : scalar Yba.prog 9 = true := by kernel_rfl
theorem sc20 : scalar Yba.prog 20 = true := by kernel_rfl
theorem sc25 : scalar Yba.prog 25 = true := by kernel_rfl
theorem sc30 : scalar Yba.prog 30 = true := by kernel_rfl
theorem sz2 : size1 Yba.prog 2 = true := by kernel_rfl
theorem sz3 : size1 Yba.prog 3 = true := by kernel_rfl
theorem sz4 : size1 Yba.prog 4 = true := by kernel_rfl
theorem sz9 : size1 Yba.prog 9 = true := by kernel_rfl
theorem sz30 : size1 Yba.prog 30 = true := by kernel_rfl
theorem u2 : Yba.prog.underlying 2 = some (.int .i64) := by kernel_rfl
theorem u3 : Yba.prog.underlying 3 = some (.int .i64) := by kernel_rfl
theorem u4 : Yba.prog.underlying 4 = some (.bool) := by kernel_rfl
theorem u5 : Yba.prog.underlying 5 = some (.int .u8) := by kernel_rfl
theorem u9 : Yba.prog.underlying 9 = some (.string) := by kernel_rfl
theorem u22 : Yba.prog.underlying 22 = some (.slice 32) := by kernel_rfl
theorem u24 : Yba.prog.underlying 24 = some (.pointer 29) := by kernel_rfl
theorem u30 : Yba.prog.underlying 30 = some (.slice 34) := by kernel_rfl
end Go.Proofs.Ybulkdrdy
