import Derived.Test.YbulkdrciPlain
namespace Go.Proofs.Ybulkdrci.Pl
open Go Go.Proofs.Ybulkdrci.Sym
/-! ### What the law's own model computes -/
structure S7m where
  any : Bool
  touch : Nat → Bool
  wr : Nat → Bool
  rbw : Nat → Bool
  cnt : Nat
def step7m (it tx : Nat → Nat) (kd nd : Nat → Int) (x : Nat) (s : S7m) (p : Nat) : S7m :=
  if it p ≠ x then s
  else if nd (tx p) < 0 then s
  else if kd p = 2 then ⟨true, if s.touch (tx p) = true then s.touch else upd s.touch (tx p) true, upd s.wr (tx p) true, s.rbw, if s.touch (tx p) = true then s.cnt else s.cnt + 1⟩
  else ⟨s.any, if s.touch (tx p) = true then s.touch else upd s.touch (tx p) true, s.wr, if s.wr (tx p) = true then s.rbw else upd s.rbw (tx p) true, if s.touch (tx p) = true then s.cnt else s.cnt + 1⟩
def fold7m (it tx : Nat → Nat) (kd nd : Nat → Int) (x k : Nat) : S7m := (List.range k).foldl (step7m it tx kd nd x) ⟨false, fun _ => false, fun _ => false, fun _ => false, 0⟩

structure S8m where
  isN : Nat → Bool
  steps : Nat → Int
def step8m (nd : Nat → Int) (r : S7m) (s : S8m) (t : Nat) : S8m :=
  if r.touch t = false then s
  else if r.any = true ∧ 2 ≤ r.cnt then { s with isN := upd s.isN (nd t).toNat true }
  else if r.wr t = true then
    if r.rbw t = true then { s with steps := upd (upd s.steps (nd t).toNat (IntKind.u32.wrap (s.steps (nd t).toNat + 2))) (nd t).toNat (IntKind.u32.wrap (upd s.steps (nd t).toNat (IntKind.u32.wrap (s.steps (nd t).toNat + 2)) (nd t).toNat + 1)) }
    else { s with steps := upd s.steps (nd t).toNat (IntKind.u32.wrap (s.steps (nd t).toNat + 2)) }
  else { s with steps := upd s.steps (nd t).toNat (IntKind.u32.wrap (s.steps (nd t).toNat + 1)) }
def fold8m (nd : Nat → Int) (r : S7m) (s : S8m) (k : Nat) : S8m := (List.range k).foldl (step8m nd r) s
def step6m (n T : Nat) (it tx : Nat → Nat) (kd nd : Nat → Int) (s : S8m) (x : Nat) : S8m := fold8m nd (fold7m it tx kd nd x n) s T
def fold6m (n T : Nat) (it tx : Nat → Nat) (kd nd : Nat → Int) (k : Nat) : S8m := (List.range k).foldl (step6m n T it tx kd nd) ⟨fun _ => false, fun _ => 1⟩

structure S9m where
  rank : Nat → Int
  names : List Int
  al : List Int
  als : List Int
def step9m (isN : Nat → Bool) (st txl : Nat → Int) (s : S9m) (v : Nat) : S9m :=
  if isN v = true then { s with rank := upd s.rank v (s.names.length : Int), names := s.names ++ [txl v] }
  else { s with rank := upd s.rank v (-1), al := s.al ++ [txl v], als := s.als ++ [st v] }
def fold9m (isN : Nat → Bool) (st txl : Nat → Int) (k : Nat) : S9m := (List.range k).foldl (step9m isN st txl) ⟨fun _ => 0, [], [], []⟩
def step10m (nd rank : Nat → Int) (wn : Nat → Int) (t : Nat) : Nat → Int := if 0 ≤ nd t then upd (upd wn t (-1)) t (rank (nd t).toNat) else upd wn t (-1)
def fold10m (nd rank : Nat → Int) (k : Nat) : Nat → Int := (List.range k).foldl (step10m nd rank) fun _ => 0

theorem fold7m_succ (it tx : Nat → Nat) (kd nd : Nat → Int) (x k : Nat) : fold7m it tx kd nd x (k + 1) = step7m it tx kd nd x (fold7m it tx kd nd x k) k := foldl_range_succ _ _ _
theorem fold8m_succ (nd : Nat → Int) (r : S7m) (s : S8m) (k : Nat) : fold8m nd r s (k + 1) = step8m nd r (fold8m nd r s k) k := foldl_range_succ _ _ _
theorem fold6m_succ (n T : Nat) (it tx : Nat → Nat) (kd nd : Nat → Int) (k : Nat) : fold6m n T it tx kd nd (k + 1) = step6m n T it tx kd nd (fold6m n T it tx kd nd k) k := foldl_range_succ _ _ _
theorem fold9m_succ (isN : Nat → Bool) (st txl : Nat → Int) (k : Nat) : fold9m isN st txl (k + 1) = step9m isN st txl (fold9m isN st txl k) k := foldl_range_succ _ _ _
theorem fold10m_succ (nd rank : Nat → Int) (k : Nat) : fold10m nd rank (k + 1) = step10m nd rank (fold10m nd rank k) k := foldl_range_succ _ _ _

/-- Whoever is touched has a node; the count stays small. -/
theorem fold7m_touch (it tx : Nat → Nat) (kd nd : Nat → Int) (x k : Nat) : (∀ t, (fold7m it tx kd nd x k).touch t = true → 0 ≤ nd t) ∧ (fold7m it tx kd nd x k).cnt ≤ k := by
  induction k with
  | zero => simp [fold7m]
  | succ k ih =>
    rw [fold7m_succ]
    generalize fold7m it tx kd nd x k = s at *
    obtain ⟨h1, h2⟩ := ih
    unfold step7m
    split
    · exact ⟨h1, by omega⟩
    · split
      · exact ⟨h1, by omega⟩
      · rename_i hn
        have key : ∀ t, (if s.touch (tx k) = true then s.touch else upd s.touch (tx k) true) t = true → 0 ≤ nd t := by
          intro t ht
          split at ht
          · exact h1 t ht
          · unfold upd at ht
            split at ht
            · rename_i e; rw [e]; omega
            · exact h1 t ht
        have key2 : (if s.touch (tx k) = true then s.cnt else s.cnt + 1) ≤ k + 1 := by split <;> omega
        split
        · exact ⟨key, key2⟩
        · exact ⟨key, key2⟩
theorem fold9m_len (isN : Nat → Bool) (st txl : Nat → Int) (k : Nat) : (fold9m isN st txl k).names.length ≤ k ∧ (fold9m isN st txl k).al.length ≤ k ∧ (fold9m isN st txl k).als.length ≤ k := by
  induction k with
  | zero => simp [fold9m]
  | succ k ih =>
    rw [fold9m_succ]
    generalize fold9m isN st txl k = s at *
    unfold step9m
    split <;> simp <;> omega

/-! ### The law's data -/
/-- The positions of the items below x. -/
def posTo (n : Nat) (it : Nat → Nat) (x : Nat) : List Nat := (List.range x).flatMap (opsOf n it)
theorem posTo_succ (n : Nat) (it : Nat → Nat) (x : Nat) : posTo n it (x + 1) = posTo n it x ++ opsOf n it x := by
  simp [posTo, List.range_succ]
theorem opsOf_succ (k : Nat) (it : Nat → Nat) (x : Nat) : opsOf (k + 1) it x = if it k = x then opsOf k it x ++ [k] else opsOf k it x := by
  unfold opsOf
  rw [List.range_succ, List.filter_append]
  by_cases h : it k = x <;> simp [h]
theorem posTo_len (n : Nat) (it : Nat → Nat) (x : Nat) : (posTo n it x).length ≤ x * n := by
  induction x with
  | zero => simp [posTo]
  | succ x ih =>
    rw [posTo_succ, List.length_append]
    have := opsOf_len n it x
    rw [Nat.add_mul]
    omega
theorem posTo_mono (n : Nat) (it : Nat → Nat) {x I : Nat} (h : x < I) : (posTo n it (x + 1)).length ≤ (posTo n it I).length := by
  induction I with
  | zero => omega
  | succ I ih =>
    by_cases e : x = I
    · subst e; exact Nat.le_refl _
    · have := ih (by omega)
      rw [posTo_succ n it I, List.length_append]
      omega
theorem pos_at (n : Nat) (it : Nat → Nat) (I x : Nat) (hx : x < I) (j : Nat) (hj : j < (opsOf n it x).length) : (posTo n it I)[(posTo n it x).length + j]? = some ((opsOf n it x)[j]) := by
  induction I with
  | zero => omega
  | succ I ih =>
    rw [posTo_succ]
    by_cases e : x = I
    · subst e
      rw [List.getElem?_append_right (by omega)]
      simp [hj]
    · have h1 := ih (by omega)
      rw [List.getElem?_append_left (List.getElem?_eq_some_iff.1 h1).1]
      exact h1
def cntTo (alive : Nat → Bool) (t : Nat) : Nat := ((List.range t).filter alive).length
def ndOf (alive : Nat → Bool) (t : Nat) : Int := if alive t = true then (cntTo alive t : Int) else -1
def txnsTo (alive : Nat → Bool) (t : Nat) : List Int := ((List.range t).filter alive).map fun q : Nat => 10 * (q : Int) + 3
theorem txnsTo_len (alive : Nat → Bool) (t : Nat) : (txnsTo alive t).length = cntTo alive t := by simp [txnsTo, cntTo]
theorem txnsTo_succ (alive : Nat → Bool) (t : Nat) : txnsTo alive (t + 1) = if alive t = true then txnsTo alive t ++ [10 * (t : Int) + 3] else txnsTo alive t := by
  unfold txnsTo
  rw [List.range_succ, List.filter_append]
  by_cases h : alive t = true <;> simp [h]
theorem cntTo_succ (alive : Nat → Bool) (t : Nat) : cntTo alive (t + 1) = if alive t = true then cntTo alive t + 1 else cntTo alive t := by
  unfold cntTo
  rw [List.range_succ, List.filter_append]
  by_cases h : alive t = true <;> simp [h]
theorem cntTo_le (alive : Nat → Bool) (t : Nat) : cntTo alive t ≤ t := by
  unfold cntTo
  have := List.length_filter_le alive (List.range t)
  simpa using this
theorem cntTo_mono (alive : Nat → Bool) {s t : Nat} (h : s ≤ t) : cntTo alive s ≤ cntTo alive t := by
  induction t with
  | zero => have : s = 0 := by omega
            subst this; exact Nat.le_refl _
  | succ t ih =>
    by_cases e : s = t + 1
    · subst e; exact Nat.le_refl _
    · have := ih (by omega)
      rw [cntTo_succ]
      split <;> omega
theorem ndOf_range (alive : Nat → Bool) {t T : Nat} (h : t < T) : -1 ≤ ndOf alive t ∧ ndOf alive t < cntTo alive T := by
  unfold ndOf
  split
  · rename_i ha
    have h1 := cntTo_mono alive (show t + 1 ≤ T from h)
    rw [cntTo_succ, if_pos ha] at h1
    omega
  · omega
end Go.Proofs.Ybulkdrci.Pl
