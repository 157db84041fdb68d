import Derived.Test.YbulkdrciDoorCrash
namespace Go.Proofs.YbulkdrciDoor
open Go Go.RowKit Go.Proofs.YbulkdrciDoor.Sym
set_option linter.unusedVariables false

/-- The first of the forms below i with the most words in place. -/
def bestf (Mf : Nat → Nat) : Nat → Nat
  | 0 => 0
  | i + 1 => if Mf (bestf Mf i) < Mf i then i else bestf Mf i
/-- Whether the forms below j that match as well as b crash the same side. -/
def wantf (Mf : Nat → Nat) (b : Nat) : Nat → Bool
  | 0 => true
  | j + 1 => if Mf j = Mf b ∧ (cf j).coord ≠ (cf b).coord then false else wantf Mf b j

theorem bestf_lt (Mf : Nat → Nat) (i : Nat) : bestf Mf (i + 1) ≤ i := by
  induction i with
  | zero => unfold bestf; split <;> simp [bestf]
  | succ i ih => unfold bestf; split <;> omega
theorem bestf_max (Mf : Nat → Nat) (i : Nat) : ∀ j, j < i → Mf j ≤ Mf (bestf Mf i) := by
  induction i with
  | zero => intro j hj; omega
  | succ i ih =>
    intro j hj
    unfold bestf
    split
    · rename_i h
      by_cases e : j = i
      · subst e; exact Nat.le_refl _
      · have := ih j (by omega); omega
    · rename_i h
      by_cases e : j = i
      · subst e; omega
      · exact ih j (by omega)
theorem wantf_iff (Mf : Nat → Nat) (b j : Nat) : wantf Mf b j = true ↔ ∀ k, k < j → Mf k = Mf b → (cf k).coord = (cf b).coord := by
  induction j with
  | zero => simp [wantf]
  | succ j ih =>
    unfold wantf
    split
    · rename_i h
      constructor
      · intro e; cases e
      · intro hall; exact absurd (hall j (by omega) h.1) h.2
    · rename_i h
      rw [ih]
      constructor
      · intro hall k hk e
        by_cases ek : k = j
        · subst ek
          exact Decidable.byContradiction fun hne => h ⟨e, hne⟩
        · exact hall k (by omega) e
      · intro hall k hk; exact hall k (by omega)

theorem fold6_is (Mf : Nat → Nat) (i : Nat) : (fold6 Mf (i + 1)).c = cf (bestf Mf (i + 1)) ∧ (fold6 Mf (i + 1)).most = (Mf (bestf Mf (i + 1)) : Int) ∧ ((fold6 Mf (i + 1)).settled = true ↔ ∀ k, k < i + 1 → Mf k = Mf (bestf Mf (i + 1)) → (cf k).coord = (cf (bestf Mf (i + 1))).coord) := by
  induction i with
  | zero =>
    have e : fold6 Mf 1 = ⟨cf 0, Mf 0, true⟩ := by
      show step6 Mf s6start 0 = _
      unfold step6
      rw [if_pos (by show (-1 : Int) < _; omega)]
    have e2 : bestf Mf 1 = 0 := Nat.le_zero.1 (bestf_lt Mf 0)
    rw [e, e2]
    refine ⟨rfl, rfl, fun _ k hk _ => ?_, fun _ => rfl⟩
    obtain rfl : k = 0 := by omega
    rfl
  | succ i ih =>
    obtain ⟨h1, h2, h3⟩ := ih
    have hmax := bestf_max Mf (i + 1)
    have e : fold6 Mf (i + 2) = step6 Mf (fold6 Mf (i + 1)) (i + 1) := rfl
    have eb : bestf Mf (i + 2) = if Mf (bestf Mf (i + 1)) < Mf (i + 1) then i + 1 else bestf Mf (i + 1) := rfl
    rw [show i + 1 + 1 = i + 2 from rfl, e, eb]
    generalize fold6 Mf (i + 1) = s at *
    generalize bestf Mf (i + 1) = b at *
    unfold step6
    rw [h1, h2]
    by_cases hlt : Mf b < Mf (i + 1)
    · rw [if_pos (by omega), if_pos hlt]
      refine ⟨rfl, rfl, fun _ k hk ek => ?_, fun _ => rfl⟩
      by_cases e : k = i + 1
      · subst e; rfl
      · have := hmax k (by omega); omega
    · rw [if_neg (by omega), if_neg hlt]
      by_cases hd : ((Mf (i + 1) : Nat) : Int) = (Mf b : Int) ∧ (cf (i + 1)).coord ≠ (cf b).coord
      · rw [if_pos hd]
        refine ⟨rfl, rfl, fun e => (by cases e), fun hall => ?_⟩
        exact absurd (hall (i + 1) (by omega) (by omega)) hd.2
      · rw [if_neg hd]
        refine ⟨h1, h2, ?_⟩
        rw [h3]
        constructor
        · intro hall k hk ek
          by_cases e : k = i + 1
          · subst e
            exact Decidable.byContradiction fun hne => hd ⟨by omega, hne⟩
          · exact hall k (by omega) ek
        · intro hall k hk; exact hall k (by omega)

/-- THE PLAIN LAW: the fold has the first best form, and settles it as the law says. -/
theorem fold6_law (Mf : Nat → Nat) : (fold6 Mf 6).c = cf (bestf Mf 6) ∧ (fold6 Mf 6).settled = wantf Mf (bestf Mf 6) 6 := by
  obtain ⟨h1, h2, h3⟩ := fold6_is Mf 5
  refine ⟨h1, ?_⟩
  have h4 := wantf_iff Mf (bestf Mf 6) 6
  rw [Bool.eq_iff_iff]
  exact h3.trans h4.symm
end Go.Proofs.YbulkdrciDoor
