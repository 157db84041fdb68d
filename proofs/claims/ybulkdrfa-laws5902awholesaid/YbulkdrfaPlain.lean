import Derived.Test.YbulkdrfaWith
namespace Go.Proofs.Ybulkdrfa
open Go Go.RowKit Go.Proofs.Ybulkdrfa.Sym Go.Sort
set_option linter.unusedVariables false
set_option linter.unusedSimpArgs false

theorem countP_le' {p : Nat → Bool} {l : List Nat} {k : Nat} (h : ∀ j (hj : j < l.length), k ≤ j → p l[j] = false) : l.countP p ≤ k := by
  have e : l.countP p = (l.take k).countP p + (l.drop k).countP p := by rw [← List.countP_append, List.take_append_drop]
  have e2 : (l.drop k).countP p = 0 := by
    rw [List.countP_eq_zero]
    intro a ha
    obtain ⟨j, hj, rfl⟩ := List.mem_iff_getElem.1 ha
    rw [List.getElem_drop, h _ _ (Nat.le_add_right _ _)]
    decide
  have e3 : (l.take k).countP p ≤ (l.take k).length := List.countP_le_length
  have e4 : (l.take k).length ≤ k := List.length_take_le k l
  omega
theorem countP_ge' {p : Nat → Bool} {l : List Nat} {k : Nat} (hk : k ≤ l.length) (h : ∀ j (hj : j < l.length), j < k → p l[j] = true) : k ≤ l.countP p := by
  have e : l.countP p = (l.take k).countP p + (l.drop k).countP p := by rw [← List.countP_append, List.take_append_drop]
  have e2 : (l.take k).countP p = (l.take k).length := by
    rw [List.countP_eq_length]
    intro a ha
    obtain ⟨j, hj, rfl⟩ := List.mem_iff_getElem.1 ha
    have hj' : j < k ∧ j < l.length := by rw [List.length_take] at hj; omega
    rw [List.getElem_take, h _ hj'.2 hj'.1]
  have e4 : (l.take k).length = k := by rw [List.length_take]; omega
  omega
theorem not_lt_sorted {s t : Array Nat} {n i : Nat} (hs : s.size = n) (ht : t.size = n) (hp : s.toList.Perm t.toList) (Ss : SortedIn Fl.lt 0 n s) (St : SortedIn Fl.lt 0 n t) (hi : i < n) : Fl.lt s[i]! t[i]! = false := by
  cases hlt : Fl.lt s[i]! t[i]! with
  | false => rfl
  | true =>
    exfalso
    have c1 : t.toList.countP (fun x => Fl.lt x t[i]!) ≤ i := by
      refine countP_le' fun j hj hij => ?_
      have hj' : j < t.size := by simpa using hj
      have e : t.toList[j] = t[j]! := by simp [hj']
      rw [e]
      rcases Nat.lt_or_eq_of_le hij with h | h
      · exact St i j (Nat.zero_le _) h (by omega)
      · subst h; exact swo.irrefl _
    have c2 : i + 1 ≤ s.toList.countP (fun x => Fl.lt x t[i]!) := by
      refine countP_ge' (by simp; omega) fun j hj hij => ?_
      have hj' : j < s.size := by simpa using hj
      have e : s.toList[j] = s[j]! := by simp [hj']
      rw [e]
      cases hf : Fl.lt s[j]! t[i]! with
      | true => rfl
      | false =>
        have h1 : Fl.lt s[i]! s[j]! = false := by
          rcases Nat.lt_or_eq_of_le (Nat.lt_succ_iff.1 hij) with h | h
          · exact Ss j i (Nat.zero_le _) h hi
          · subst h; exact swo.irrefl _
        have := swo.ntrans _ _ _ h1 hf
        rw [hlt] at this; cases this
    have := hp.countP_eq (fun x => Fl.lt x t[i]!)
    omega
/-- Two sorted forms of one row agree, place by place, up to equals. -/
theorem eqv_sorted {s t : Array Nat} {n i : Nat} (hs : s.size = n) (ht : t.size = n) (hp : s.toList.Perm t.toList) (Ss : SortedIn Fl.lt 0 n s) (St : SortedIn Fl.lt 0 n t) (hi : i < n) : Fl.Eqv s[i]! t[i]! :=
  (Fl.eqv_iff _ _).2 ⟨not_lt_sorted hs ht hp Ss St hi, not_lt_sorted ht hs hp.symm St Ss hi⟩
def model (z : Array Nat) : Array Nat := insertionSort Fl.lt z 0 z.size
theorem model_size (z : Array Nat) : (model z).size = z.size := (insertionSort_holds swo z 0 z.size (Nat.zero_le _) (Nat.le_refl _)).1.1
theorem whole_perm {z s : Array Nat} (h : PermIn 0 z.size z s) : s.toList.Perm z.toList := by
  obtain ⟨h1, _, h3⟩ := h
  have e1 : s.extract 0 z.size = s := by rw [← h1]; simp
  have e2 : z.extract 0 z.size = z := by simp
  rw [e1, e2] at h3
  exact h3
theorem sort_eqv (z : Array Nat) {i : Nat} (hi : i < z.size) : Fl.Eqv (sort Fl.lt z)[i]! (model z)[i]! := by
  have h1 := insertionSort_holds swo z 0 z.size (Nat.zero_le _) (Nat.le_refl _)
  have h2 := sort_sorts Fl.lt swo z
  exact eqv_sorted (sort_size z) (model_size z) ((whole_perm h2.1).trans (whole_perm h1.1).symm) h2.2 h1.2 hi
theorem spans_model (z : Array Nat) {mm e : Nat} (hm : 1 ≤ mm) : Spans (sort Fl.lt z) z.size mm e ↔ Spans (model z) z.size mm e := by
  unfold Spans
  constructor <;> rintro ⟨i, h1, h2⟩ <;> refine ⟨i, h1, ?_⟩
  · rw [← h2]; symm; exact Fl.within_congr (sort_eqv z (by omega)) (sort_eqv z (by omega)) e
  · rw [← h2]; exact Fl.within_congr (sort_eqv z (by omega)) (sort_eqv z (by omega)) e
end Go.Proofs.Ybulkdrfa
