import Derived.Test.YbulkdrciDoorRows
import Derived.Test.YbulkdrciDoorOps
namespace Go.Proofs.YbulkdrciDoor
open Go Go.Proofs.YbulkdrciDoor.Sym
theorem mixed : Ybad.prog.follows .mixedOrders = true := by kernel_rfl
theorem fo26_0 : fieldOff Ybad.prog 26 0 = some 0 := by kernel_rfl
theorem fo30_0 : fieldOff Ybad.prog 30 0 = some 0 := by kernel_rfl
theorem fo30_1 : fieldOff Ybad.prog 30 1 = some 1 := by kernel_rfl
theorem fo30_2 : fieldOff Ybad.prog 30 2 = some 2 := by kernel_rfl
theorem fo30_3 : fieldOff Ybad.prog 30 3 = some 3 := by kernel_rfl
theorem fo36_0 : fieldOff Ybad.prog 36 0 = some 0 := by kernel_rfl
theorem fo36_1 : fieldOff Ybad.prog 36 1 = some 5 := by kernel_rfl
theorem fo36_2 : fieldOff Ybad.prog 36 2 = some 6 := by kernel_rfl
theorem fo36_3 : fieldOff Ybad.prog 36 3 = some 7 := by kernel_rfl
theorem sc3 : scalar Ybad.prog 3 = true := by kernel_rfl
theorem sc4 : scalar Ybad.prog 4 = true := by kernel_rfl
theorem sc5 : scalar Ybad.prog 5 = true := by kernel_rfl
theorem sc9 : scalar Ybad.prog 9 = true := by kernel_rfl
theorem sc28 : scalar Ybad.prog 28 = true := by kernel_rfl
theorem sc42 : scalar Ybad.prog 42 = true := by kernel_rfl
theorem se22 : size1 Ybad.prog 5 = true := by kernel_rfl
theorem se43 : size1 Ybad.prog 9 = true := by kernel_rfl
theorem sz3 : size1 Ybad.prog 3 = true := by kernel_rfl
theorem sz4 : size1 Ybad.prog 4 = true := by kernel_rfl
theorem sz9 : size1 Ybad.prog 9 = true := by kernel_rfl
theorem u3 : Ybad.prog.underlying 3 = some (.int .i64) := by kernel_rfl
theorem u4 : Ybad.prog.underlying 4 = some (.bool) := by kernel_rfl
theorem u5 : Ybad.prog.underlying 5 = some (.int .u8) := by kernel_rfl
theorem u9 : Ybad.prog.underlying 9 = some (.string) := by kernel_rfl
theorem u22 : Ybad.prog.underlying 22 = some (.slice 5) := by kernel_rfl
theorem u23 : Ybad.prog.underlying 23 = some (.slice 26) := by kernel_rfl
theorem u28 : Ybad.prog.underlying 28 = some (.int .u8) := by kernel_rfl
theorem u42 : Ybad.prog.underlying 42 = some (.slice 30) := by kernel_rfl
theorem u43 : Ybad.prog.underlying 43 = some (.slice 9) := by kernel_rfl
end Go.Proofs.YbulkdrciDoor
