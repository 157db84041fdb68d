import Derived.Test.YbulkdrciOps
namespace Go.Proofs.Ybulkdrci.Pl
open Go Go.Proofs.Ybulkdrci.Sym
/-! ### What setApart computes, loop by loop, as plain functions -/
structure S3 where
  first : Int
  alone : Bool
  written : Bool
def step3 (kd vv : Nat → Int) (s : S3) (p : Nat) : S3 :=
  if 0 ≤ vv p then
    ⟨if s.first < 0 then vv p else s.first, s.alone && decide (vv p = if s.first < 0 then vv p else s.first), s.written || decide (kd p = 2)⟩
  else s
def fold3 (kd vv : Nat → Int) (l : List Nat) : S3 := l.foldl (step3 kd vv) ⟨-1, true, false⟩

structure S4 where
  wrote : Bool
  steps : Nat → Int
  searched : Nat → Int
  counted : Nat → Int
def step4 (kd vv : Nat → Int) (x : Nat) (sw sa : Bool) (s : S4) (p : Nat) : S4 :=
  if vv p < 0 then s
  else if (sw && !sa) = true then { s with searched := upd s.searched (vv p).toNat 0 }
  else if kd p = 2 then { s with wrote := true, steps := if s.wrote = true then s.steps else upd s.steps (vv p).toNat (IntKind.u32.wrap (s.steps (vv p).toNat + 2)) }
  else if s.wrote = false ∧ s.counted (vv p).toNat ≠ (x : Int) + 1 then { s with steps := upd s.steps (vv p).toNat (IntKind.u32.wrap (s.steps (vv p).toNat + 1)), counted := upd s.counted (vv p).toNat ((x : Int) + 1) }
  else s
def fold4 (kd vv : Nat → Int) (x : Nat) (sw sa : Bool) (s : S4) (l : List Nat) : S4 := l.foldl (step4 kd vv x sw sa) s

structure S2 where
  steps : Nat → Int
  searched : Nat → Int
  counted : Nat → Int
def opsOf (n : Nat) (it : Nat → Nat) (x : Nat) : List Nat := (List.range n).filter fun p => it p = x
def step2 (n : Nat) (it : Nat → Nat) (kd vv : Nat → Int) (s : S2) (x : Nat) : S2 :=
  let r := fold3 kd vv (opsOf n it x)
  let q := fold4 kd vv x r.written r.alone ⟨false, s.steps, s.searched, s.counted⟩ (opsOf n it x)
  ⟨q.steps, q.searched, q.counted⟩
def fold2 (n : Nat) (it : Nat → Nat) (kd vv : Nat → Int) (k : Nat) : S2 := (List.range k).foldl (step2 n it kd vv) ⟨fun _ => 1, fun _ => -1, fun _ => 0⟩

structure S5 where
  nodes : Nat
  searched : Nat → Int
def step5 (s : S5) (v : Nat) : S5 := if 0 ≤ s.searched v then ⟨s.nodes + 1, upd s.searched v (s.nodes : Int)⟩ else s
def fold5 (se : Nat → Int) (k : Nat) : S5 := (List.range k).foldl step5 ⟨0, se⟩

structure S6 where
  names : List Int
  al : List Int
  als : List Int
def step6 (se st txl : Nat → Int) (s : S6) (v : Nat) : S6 := if 0 ≤ se v then { s with names := s.names ++ [txl v] } else { s with al := s.al ++ [txl v], als := s.als ++ [st v] }
def fold6 (se st txl : Nat → Int) (k : Nat) : S6 := (List.range k).foldl (step6 se st txl) ⟨[], [], []⟩

def step7 (se : Nat → Int) (nd : Nat → Int) (t : Nat) : Nat → Int := if 0 ≤ nd t then upd nd t (se (nd t).toNat) else nd
def fold7 (se nd : Nat → Int) (k : Nat) : Nat → Int := (List.range k).foldl (step7 se) nd

theorem foldl_range_succ {α : Type} (f : α → Nat → α) (a : α) (k : Nat) : (List.range (k + 1)).foldl f a = f ((List.range k).foldl f a) k := by
  rw [List.range_succ, List.foldl_append]; rfl
theorem foldl_take_succ {α β : Type} (f : α → β → α) (a : α) (l : List β) (k : Nat) (h : k < l.length) : (l.take (k + 1)).foldl f a = f ((l.take k).foldl f a) l[k] := by
  rw [List.take_succ_eq_append_getElem h, List.foldl_append]; rfl

theorem opsOf_lt {n : Nat} {it : Nat → Nat} {x p : Nat} (h : p ∈ opsOf n it x) : p < n ∧ it p = x := by
  simpa [opsOf] using h

theorem opsOf_len (k : Nat) (it : Nat → Nat) (x : Nat) : (opsOf k it x).length ≤ k := by
  unfold opsOf
  have := List.length_filter_le (fun p => decide (it p = x)) (List.range k)
  simpa using this

/-- Every slot of the numbering stays among -1 .. C-1; so does what the search finds. -/
theorem fold4_searched (kd vv : Nat → Int) (x : Nat) (sw sa : Bool) (l : List Nat) : ∀ s : S4, (∀ v, -1 ≤ s.searched v ∧ s.searched v ≤ 0) → ∀ v, -1 ≤ (fold4 kd vv x sw sa s l).searched v ∧ (fold4 kd vv x sw sa s l).searched v ≤ 0 := by
  induction l with
  | nil => exact fun s h => h
  | cons p r ih =>
    intro s h
    refine ih (step4 kd vv x sw sa s p) ?_
    intro v
    have hv := h v
    unfold step4
    split
    · exact hv
    · split
      · simp only [upd]; split <;> simp_all
      · split
        · exact hv
        · split
          · exact hv
          · exact hv
theorem fold2_searched (n : Nat) (it : Nat → Nat) (kd vv : Nat → Int) (k : Nat) : ∀ v, -1 ≤ (fold2 n it kd vv k).searched v ∧ (fold2 n it kd vv k).searched v ≤ 0 := by
  induction k with
  | zero => intro v; simp [fold2]
  | succ k ih =>
    unfold fold2
    rw [foldl_range_succ]
    exact fold4_searched kd vv k _ _ _ _ ih
theorem fold2_succ (n : Nat) (it : Nat → Nat) (kd vv : Nat → Int) (k : Nat) : fold2 n it kd vv (k + 1) = step2 n it kd vv (fold2 n it kd vv k) k := foldl_range_succ _ _ _
theorem fold5_succ (se : Nat → Int) (k : Nat) : fold5 se (k + 1) = step5 (fold5 se k) k := foldl_range_succ _ _ _
theorem fold6_succ (se st txl : Nat → Int) (k : Nat) : fold6 se st txl (k + 1) = step6 se st txl (fold6 se st txl k) k := foldl_range_succ _ _ _
theorem fold7_succ (se nd : Nat → Int) (k : Nat) : fold7 se nd (k + 1) = step7 se (fold7 se nd k) k := foldl_range_succ _ _ _
theorem fold3_succ (kd vv : Nat → Int) (l : List Nat) (k : Nat) (h : k < l.length) : fold3 kd vv (l.take (k + 1)) = step3 kd vv (fold3 kd vv (l.take k)) l[k] := foldl_take_succ _ _ _ _ h
theorem fold4_succ (kd vv : Nat → Int) (x : Nat) (sw sa : Bool) (s : S4) (l : List Nat) (k : Nat) (h : k < l.length) : fold4 kd vv x sw sa s (l.take (k + 1)) = step4 kd vv x sw sa (fold4 kd vv x sw sa s (l.take k)) l[k] := foldl_take_succ _ _ _ _ h

theorem fold5_nodes (se : Nat → Int) (k : Nat) : (fold5 se k).nodes ≤ k := by
  induction k with
  | zero => simp [fold5]
  | succ k ih =>
    rw [fold5_succ]
    generalize fold5 se k = s at *
    unfold step5
    split
    · simp; omega
    · omega
theorem fold5_later (se : Nat → Int) (k v : Nat) (h : k ≤ v) : (fold5 se k).searched v = se v := by
  induction k with
  | zero => simp [fold5]
  | succ k ih =>
    have ih' := ih (by omega)
    rw [fold5_succ]
    generalize fold5 se k = s at *
    unfold step5
    split
    · simp only [upd]; rw [if_neg (by omega)]; exact ih'
    · exact ih'
theorem fold7_later (se nd : Nat → Int) (k t : Nat) (h : k ≤ t) : fold7 se nd k t = nd t := by
  induction k with
  | zero => simp [fold7]
  | succ k ih =>
    have ih' := ih (by omega)
    rw [fold7_succ]
    generalize fold7 se nd k = s at *
    unfold step7
    split
    · simp only [upd]; rw [if_neg (by omega)]; exact ih'
    · exact ih'
end Go.Proofs.Ybulkdrci.Pl
