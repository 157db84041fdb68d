import Derived.Test.YbulkdrfaRows
import Derived.Test.YbulkdrfaOps
namespace Go.Proofs.Ybulkdrfa
open Go Go.Proofs.Ybulkdrfa.Sym
theorem mixed : Yba.prog.follows .mixedOrders = true := by kernel_rfl
theorem sc3 : scalar Yba.prog 3 = true := by kernel_rfl
theorem sc43 : scalar Yba.prog 43 = true := by kernel_rfl
theorem sz3 : size1 Yba.prog 3 = true := by kernel_rfl
theorem sz43 : size1 Yba.prog 43 = true := by kernel_rfl
theorem u3 : Yba.prog.underlying 3 = some (.int .i64) := by kernel_rfl
theorem u4 : Yba.prog.underlying 4 = some (.bool) := by kernel_rfl
theorem u22 : Yba.prog.underlying 22 = some (.slice 23) := by kernel_rfl
theorem u30 : Yba.prog.underlying 30 = some (.int .u64) := by kernel_rfl
theorem u42 : Yba.prog.underlying 42 = some (.int .u64) := by kernel_rfl
theorem u43 : Yba.prog.underlying 43 = some (.int .u64) := by kernel_rfl

theorem u23 : Yba.prog.underlying 23 = some (.float .f64) := by kernel_rfl
theorem sc23 : scalar Yba.prog 23 = true := by kernel_rfl
theorem sz23 : size1 Yba.prog 23 = true := by kernel_rfl
theorem se22 : size1 Yba.prog 23 = true := by kernel_rfl
end Go.Proofs.Ybulkdrfa
