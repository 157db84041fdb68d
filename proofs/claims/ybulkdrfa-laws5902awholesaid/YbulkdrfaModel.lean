import Derived.Test.YbulkdrfaWith
import Derived.Laws.CopyRow
import Derived.Laws.IdiomCopy
namespace Go.Proofs.Ybulkdrfa
open Go Go.RowKit Go.Proofs.Ybulkdrfa.Sym Go.Sort
set_option linter.unusedVariables false
set_option linter.unusedSimpArgs false
set_option maxRecDepth 100000

/-- What a world holds behind the slice handed in. -/
def Came (w : World) (sA : Option Addr) (z : Array Nat) : Prop := ∀ i, i < z.size → ∃ A, sA = some A ∧ w.cell? (A.add i) = some (.float .f64 z[i]!)
theorem info23 : (Yba.prog.info? 23).map (·.size) = some 1 := by kernel_rfl
/-- copy(dst, src) of a whole slice that came in. -/
theorem Sym.OE.copyF {w0 : World} {F : List Nat} {env : Env} {m : List Blk} {d : Option Nat} {ty : TypeId} {pos : String} {af : Array Edge} {g : Option (Nat × Bool)} {x y : Operand} {blk n c c2 : Nat} {sA : Option Addr} {z : Array Nat} {cs : List Value} (j : Nat) (hx : ev env x = some (.slice (some ⟨blk, 0, none⟩) n c)) (hy : ev env y = some (.slice sA n c2)) (hm : m[j]? = some (blk, row 23 cs)) (hcs : cs.length = n) (hz : z.size = n) (hc : Came w0 sA z) (hF : ∀ A, sA = some A → A.block ∉ F) :
    OE Yba.prog env w0 F m ⟨d, .call ⟨.builtin .copy, #[x, y], #[22, 22]⟩, ty, pos, af, g⟩ (fun _ : Unit => .int .i64 n) (fun _ => m.set j (blk, fr z)) := by
  refine ⟨fun A w hE hM => ?_⟩
  have hb := hM.block hm
  by_cases h0 : n = 0
  · subst h0
    have hr := run_copy_none (P := Yba.prog) w 22 22 ty 23 (some ⟨blk, 0, none⟩) sA 0 c 0 c2 u22 info23 rfl
    have e1 : fr z = row 23 cs := by
      have hz0 : z = #[] := Array.eq_empty_of_size_eq_zero hz
      have hc0 : cs = [] := List.eq_nil_of_length_eq_zero hcs
      subst hz0 hc0
      rfl
    have e2 : m.set j (blk, fr z) = m := by
      rw [e1]
      refine List.ext_getElem? fun i => ?_
      rw [List.getElem?_set]
      split
      · rename_i e; subst e
        obtain ⟨h1, h2⟩ := List.getElem?_eq_some_iff.1 hm
        simp [h1, h2]
      · rfl
    refine ⟨(), w, ?_, by rw [e2]; exact hM⟩
    simp only [execOp, resolve, invoke, builtin, Sem.run_bind, Sem.run_pure, Result.andThen_ok, List.map_toArray, List.map_cons, List.map_nil, hE x _ hx, hE y _ hy, hr]
    rfl
  · obtain ⟨B, rfl, _⟩ := hc 0 (by omega)
    have hsrc : ∀ q v, (fcs z)[q]? = some v → w.cell? (B.add q) = some v := by
      intro q v hq
      have hqn : q < z.size := by
        have := (List.getElem?_eq_some_iff.1 hq).1
        rwa [fcs_len] at this
      obtain ⟨B', hB', hcell⟩ := hc q hqn
      cases hB'
      rw [fcs_at hqn] at hq
      cases hq
      have hbl : (B.add q).block = B.block := by unfold Addr.add; split <;> rfl
      rw [← hcell]
      exact World.cell?_of_block (hM.old _ (block_lt_of_cell hcell) (by rw [hbl]; exact hF B rfl))
    have hb' : w.heap[blk]? = some (.cells cs.toArray 23 (0, 0)) := hb
    have hr := run_copy_row (P := Yba.prog) w 22 22 ty 23 blk 0 n c B n c2 cs.toArray 23 (fcs z) u22 info23 hb' (by rw [fcs_len, hz]; exact (Nat.min_self n).symm) hsrc (by simp [fcs_len, hz, hcs]) (by intro v hv; simp only [fcs, List.mem_map] at hv; obtain ⟨_, _, rfl⟩ := hv; rfl)
    have e1 : cs.toArray.toList.take 0 ++ fcs z ++ cs.toArray.toList.drop (0 + (fcs z).length) = fcs z := by
      rw [fcs_len, hz]
      simp [hcs]
    rw [e1, fcs_len, hz] at hr
    refine ⟨(), _, ?_, hM.setRow hm⟩
    simp only [execOp, resolve, invoke, builtin, Sem.run_bind, Sem.run_pure, Result.andThen_ok, List.map_toArray, List.map_cons, List.map_nil, hE x _ hx, hE y _ hy, hr]
    rfl
end Go.Proofs.Ybulkdrfa
