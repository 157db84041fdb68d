import Derived.Test.YbulkdrfaPdq
namespace Go.Proofs.Ybulkdrfa
open Go Go.RowKit Go.Proofs.Ybulkdrfa.Sym Go.Sort
set_option linter.unusedVariables false
set_option linter.unusedSimpArgs false
set_option maxRecDepth 100000

theorem bits_le16 {x : Nat} (hx : x < 65536) : bitsLen x ≤ 16 := by
  by_cases h : 256 ≤ x
  · rw [bits_256 h]; have := bits_le (i := x / 256) (by omega); omega
  · have := bits_le (i := x) (by omega); omega
/-- slices.Sort -/
theorem call7 {w : World} {blk n c : Nat} {d : Array Nat} (hn : n ≤ 60000) (hds : d.size = n) (hw : w.heap[blk]? = some (fr d)) :
    Calls Yba.prog 7 #[sl blk n c] w fun e w' => e = .returned (.tuple #[]) ∧ Mm w [blk] [(blk, fr (sort Fl.lt d))] w' := by
  have hb := bits_le16 (x := n) (by omega)
  have hs : sort Fl.lt d = pdq Fl.lt d 0 n (bitsLen n) true true := by unfold sort; rw [hds]
  rw [hs]
  refine Calls.of_SC (args := [sl blk n c]) Yba.func7 rfl (by simp [Yba.f7]) (Mm.ofRow hw) ?_
  refine SC.seq ?_
  refine SC.region ?_
  refine SL.y (OV.move rfl) rfl ?_
  refine SL.y (OV.len u22 rfl) rfl ?_
  refine SL.y (OV.assign rfl) rfl ?_
  refine SL.nil ?_
  refine SC.then ?_
  refine SC.region ?_
  refine SL.y (OV.move rfl) rfl ?_
  refine SL.y (OV.move rfl) rfl ?_
  refine SL.y (OV.move rfl) rfl ?_
  refine SL.y (OV.conv u3 u30 rfl (wrap_u64 (by omega) (by omega))) rfl ?_
  refine SL.callQ pf9 (args1 rfl) (fun w hM => call9 (by omega) w) rfl ?_
  refine SL.callB (j := 0) pf8 (args4 rfl rfl rfl rfl) rfl (fun w h => call8 (a := 0) hn n (by omega) (by omega) (Nat.le_refl _) (by omega) hds (.inl rfl) h) rfl ?_
  refine SL.nil ?_
  exact SE.end0 Yba.results7 (fun w' hM => ⟨rfl, hM⟩)
theorem pf7 : plainFunc Yba.prog 7 = true := by kernel_rfl
end Go.Proofs.Ybulkdrfa
