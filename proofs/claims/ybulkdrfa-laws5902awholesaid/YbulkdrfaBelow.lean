import Derived.Test.YbulkdrfaBrk
namespace Go.Proofs.Ybulkdrfa
open Go Go.RowKit Go.Proofs.Ybulkdrfa.Sym Go.Sort
set_option linter.unusedVariables false

theorem below_perm {a b : Nat} {d d' : Array Nat} (hB : Go.Sort.Below Fl.lt a b d) (hP : PermIn a b d d') (hb : b ≤ d.size) : Go.Sort.Below Fl.lt a b d' := by
  rcases hB with h | h
  · exact .inl h
  · by_cases ha : a = 0
    · exact .inl ha
    · refine .inr fun i h1 h2 => ?_
      have e : d'[a - 1]! = d[a - 1]! := hP.2.1 (a - 1) (.inl (by omega))
      rw [e]
      exact permIn_all d d' a b (fun x => Fl.lt x d[a - 1]! = false) hb hP h i h1 h2
theorem below_sub {a b mid : Nat} {d : Array Nat} (hB : Go.Sort.Below Fl.lt a b d) (h : mid ≤ b) : Go.Sort.Below Fl.lt a mid d := by
  rcases hB with h0 | h0
  · exact .inl h0
  · exact .inr fun i h1 h2 => h0 i h1 (by omega)
theorem below_right {mid b : Nat} {d : Array Nat} (h : ∀ i, mid < i → i < b → Fl.lt d[i]! d[mid]! = false) : Go.Sort.Below Fl.lt (mid + 1) b d :=
  .inr fun i h1 h2 => by rw [Nat.add_sub_cancel]; exact h i (by omega) h2
theorem ge_pivot {a b p : Nat} {d : Array Nat} (hB : Go.Sort.Below Fl.lt a b d) (ha : 0 < a) (hl : Fl.lt d[a - 1]! d[p]! = false) : ∀ i, a ≤ i → i < b → Fl.lt d[i]! d[p]! = false := by
  intro i h1 h2
  rcases hB with h | h
  · omega
  · exact swo.ntrans _ _ _ (h i h1 h2) hl
/-- partitionEqual: the range, the rest lies above. -/
theorem pe_facts {a b p : Nat} {d : Array Nat} (hp1 : a ≤ p) (hp2 : p < b) (hb : b ≤ d.size) (hge : ∀ i, a ≤ i → i < b → Fl.lt d[i]! d[p]! = false) :
    a < (partitionEqual Fl.lt d a b p).1 ∧ (partitionEqual Fl.lt d a b p).1 ≤ b ∧ (partitionEqual Fl.lt d a b p).2.size = d.size ∧ Go.Sort.Below Fl.lt (partitionEqual Fl.lt d a b p).1 b (partitionEqual Fl.lt d a b p).2 := by
  obtain ⟨h1, h2, h3, h4, h5⟩ := partitionEqual_holds Fl.lt swo d a b p hp1 hp2 hb hge
  refine ⟨h1, h2, h3.1, .inr fun i hi1 hi2 => ?_⟩
  have e1 := h5 i hi1 hi2
  have e2 := h4 ((partitionEqual Fl.lt d a b p).1 - 1) (by omega) (by omega)
  rw [Bool.eq_false_iff]
  intro e3
  have := swo.trans _ _ _ e1 e3
  rw [e2] at this
  cases this
/-- partition: the range, the two sides. -/
theorem pt_facts {a b p : Nat} {d : Array Nat} (hp1 : a ≤ p) (hp2 : p < b) (hb : b ≤ d.size) (hB : Go.Sort.Below Fl.lt a b d) :
    a ≤ (partition Fl.lt d a b p).1 ∧ (partition Fl.lt d a b p).1 < b ∧ (partition Fl.lt d a b p).2.2.size = d.size ∧ Go.Sort.Below Fl.lt a (partition Fl.lt d a b p).1 (partition Fl.lt d a b p).2.2 ∧ Go.Sort.Below Fl.lt ((partition Fl.lt d a b p).1 + 1) b (partition Fl.lt d a b p).2.2 := by
  obtain ⟨h1, h2, h3, h4, h5⟩ := partition_holds Fl.lt swo d a b p hp1 hp2 hb
  exact ⟨h1, h2, h3.1, below_sub (below_perm hB h3 hb) (by omega), below_right h5⟩
/-- A side that another's sort leaves alone keeps its place. -/
theorem below_left_kept {a mid b : Nat} {d d' : Array Nat} (hB : Go.Sort.Below Fl.lt (mid + 1) b d) (hP : PermIn a mid d d') : Go.Sort.Below Fl.lt (mid + 1) b d' := by
  rcases hB with h | h
  · omega
  · refine .inr fun i h1 h2 => ?_
    rw [hP.2.1 i (.inr (by omega)), hP.2.1 (mid + 1 - 1) (.inr (by omega))]
    exact h i h1 h2
theorem below_right_kept {a mid b : Nat} {d d' : Array Nat} (hB : Go.Sort.Below Fl.lt a mid d) (hP : PermIn (mid + 1) b d d') (hab : a ≤ mid) : Go.Sort.Below Fl.lt a mid d' := by
  rcases hB with h | h
  · exact .inl h
  · by_cases ha : a = 0
    · exact .inl ha
    · refine .inr fun i h1 h2 => ?_
      rw [hP.2.1 i (.inl (by omega)), hP.2.1 (a - 1) (.inl (by omega))]
      exact h i h1 h2
end Go.Proofs.Ybulkdrfa
