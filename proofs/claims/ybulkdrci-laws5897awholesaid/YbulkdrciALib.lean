import Derived.Test.YbulkdrciAAns
import Derived.ChangeKeysEq
namespace Go.Proofs.Ybulkdrci.A
open Go Go.RowKit Go.Proofs.Ybulkdrci.A.Sym
set_option linter.unusedVariables false
set_option linter.unusedSimpArgs false
set_option maxRecDepth 100000

theorem eqIn_int {P : Program} {d : Nat} (w : World) {T : TypeId} {k' : IntKind} (h : P.underlying T = some (.int k')) (k : IntKind) (a b : Int) : (Op.equalIn (d + 1) T (.int k a) (.int k b)).run P w = .ok (a == b) w := by
  simp [Op.equalIn, run_underlying h]
theorem ce3 : Yba.prog.cellsOf 3 = 1 := by kernel_rfl
theorem eqItems_self (c : Nat → Int) (w : World) : ∀ is : List Nat, (∀ i ∈ is, i < 10) → (Op.eqItems 9999 3 1 (c10 c).toArray (c10 c).toArray is).run Yba.prog w = .ok true w
  | [], _ => by simp [Op.eqItems]
  | i :: r, h => by
    have hi : i < 10 := h i (by simp)
    have e1 : (c10 c)[i]? = some (.int .i64 (c i)) := tab_get hi
    have ih := eqItems_self c w r (fun j hj => h j (by simp [hj]))
    have e0 := eqIn_int (P := Yba.prog) (d := 9998) w u3 .i64 (c i) (c i)
    simp only [Nat.reduceAdd] at e0
    simp [Op.eqItems, part, isAgg, run_underlying u3, e1, e0, ih]
theorem opEq40 (c : Nat → Int) (w : World) : (Op.equal 40 (.agg (c10 c).toArray) (.agg (c10 c).toArray)).run Yba.prog w = .ok true w := by
  obtain ⟨i3, hi3, hz3, hs3, hb3⟩ := info_parts info3
  have h := run_equalIn_array (P := Yba.prog) (w := w) 9999 (c10 c).toArray (c10 c).toArray u40 hi3
  unfold Op.equal Op.maxDepth
  rw [h, ce3]
  exact eqItems_self c w _ (fun i hi => by simpa using hi)
theorem eg40 : Yba.prog.eqGuardType Yba.prog.depth 40 = false := by kernel_rfl
section
variable {P : Program} {w0 : World} {F : List Nat} {env : Env} {m : List Blk} {d : Option Nat} {ty : TypeId} {pos : String} {af : Array Edge} {g : Option (Nat × Bool)} {x : Operand} {T T' : TypeId}
theorem Sym.OV.convStr {k : IntKind} {a : Int} {D : TypeDesc} (hT : P.underlying T = some D) (hT' : P.underlying T' = some .string) (hx : ev env x = some (.int k a)) : OV P env w0 F m ⟨d, .convert T T' x, ty, pos, af, g⟩ (.string (Utf8.encode a)) :=
  ⟨fun A w hE hM => by simp [execOp, hE x _ hx, convert, run_underlying hT, run_underlying hT', Conv.intToString]⟩
end
end Go.Proofs.Ybulkdrci.A
