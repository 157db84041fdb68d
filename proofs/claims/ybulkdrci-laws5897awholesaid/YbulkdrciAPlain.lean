import Derived.Test.YbulkdrciATail
namespace Go.Proofs.Ybulkdrci.A
open Go Go.RowKit Go.Proofs.Ybulkdrci.A.Sym
set_option linter.unusedVariables false
set_option linter.unusedSimpArgs false
set_option maxRecDepth 100000

/-! ### How the nodes stand after the runs, node by node -/
def uM (f : Int) : Int := if f = 3 then 0 else 9
def pM (f : Int) : Int := if f = 3 then 0 else if f = 1 then 5 else if f = 2 then 0 else 2
def dM (d f : Int) : Int := if f = 3 then 0 else if f = 2 then 0 else d
def ansNd (f : Int) (d : Nd) : Nd := if d.dn = true then d else if f = 1 then { d with vt := 3 } else if f = 2 then { d with dn := true, vt := 2 } else { d with vt := 2 }
theorem ansSt_val (D : RD) (s : NSt) (k q : Nat) : ansSt D s k q = if q = k then ansNd (D.fl k) (s k) else s q := by
  unfold ansSt ansNd
  by_cases h1 : (s k).dn = true
  · rw [if_pos h1, if_pos h1]
    by_cases e : q = k
    · subst e; rw [if_pos rfl]
    · rw [if_neg e]
  · rw [if_neg h1, if_neg h1]
    by_cases h2 : D.fl k = 1
    · rw [if_pos h2, if_pos h2]; unfold setVt
      by_cases e : q = k
      · subst e; simp
      · rw [if_neg e, if_neg e]
    · rw [if_neg h2, if_neg h2]
      by_cases h3 : D.fl k = 2
      · rw [if_pos h3, if_pos h3]; unfold setDn setVt
        by_cases e : q = k
        · subst e; rw [if_pos rfl, if_pos rfl, if_pos rfl]
        · rw [if_neg e, if_neg e, if_neg e]
      · rw [if_neg h3, if_neg h3]; unfold setVt
        by_cases e : q = k
        · subst e; simp
        · rw [if_neg e, if_neg e]
theorem p1_val (D : RD) (till : Nat) (s : NSt) (k : Nat) : ∀ q, p1 D till s (k + 1) q = if 1 ≤ q ∧ q ≤ k ∧ q < till then ansNd (D.fl q) (s q) else s q := by
  induction k with
  | zero =>
    intro q
    rw [p1_one, if_neg (by omega)]
  | succ k ih =>
    intro q
    rw [p1_succ D till s (by omega)]
    unfold step1
    by_cases ht : till ≤ k + 1
    · rw [if_pos ht, ih q]
      have : (1 ≤ q ∧ q ≤ k + 1 ∧ q < till) ↔ (1 ≤ q ∧ q ≤ k ∧ q < till) := by omega
      simp only [this]
    · rw [if_neg ht, ansSt_val]
      by_cases e : q = k + 1
      · subst e
        rw [if_pos rfl, ih (k + 1), if_neg (by omega), if_pos (by omega)]
      · rw [if_neg e, ih q]
        have : (1 ≤ q ∧ q ≤ k + 1 ∧ q < till) ↔ (1 ≤ q ∧ q ≤ k ∧ q < till) := by omega
        simp only [this]
section
variable {n : Nat} {cl term : Int} {bc bp : Nat} {nm : Nat → ByteArray} {fl : Nat → Int} {ro : Nat → Bool}
theorem p0_val {D : RD} {k q : Nat} (h1 : 1 ≤ q) (h2 : q < k) : p0 D s0 k q = if D.fl q = 3 then ⟨true, 0, 0⟩ else ⟨false, 0, 0⟩ := by
  unfold p0
  by_cases h : D.fl q = 3
  · rw [if_pos ⟨h1, h2, h⟩, if_pos h]; rfl
  · rw [if_neg (fun hh => h hh.2.2), if_neg h]; rfl
theorem p0_zero {D : RD} {k : Nat} : p0 D s0 k 0 = ⟨false, 0, 0⟩ := by
  unfold p0
  rw [if_neg (by omega)]
  rfl
/-- The run that crashes before prepare reaches any. -/
abbrev DA (n : Nat) (cl term : Int) (bc bp : Nat) (nm : Nat → ByteArray) (fl : Nat → Int) (ro : Nat → Bool) : RD := mkD n cl term 1 bc bp nm (flC 4 fl) ro
abbrev DB (n : Nat) (cl term : Int) (bc bp : Nat) (nm : Nat → ByteArray) (fl : Nat → Int) (ro : Nat → Bool) : RD := mkD n cl term (n + 1) bc bp nm (flC 5 fl) ro
theorem flA (q : Nat) (h : 1 ≤ q) : flC 4 fl q = fl q := by unfold flC; rw [if_neg (by omega)]
theorem flB (q : Nat) (h : 1 ≤ q) : flC 5 fl q = fl q := by unfold flC; rw [if_neg (by omega)]
theorem sA_zero : (ph1 (DA n cl term bc bp nm fl ro) s0 0).dn = true := by
  unfold ph1
  have hcr : crOf (DA n cl term bc bp nm fl ro) = true := by unfold crOf; rfl
  rw [p1_val, if_neg (by omega), hcr]
  rfl
theorem sA_rep {q : Nat} (h1 : 1 ≤ q) (h2 : q ≤ n) : replyOf (ph1 (DA n cl term bc bp nm fl ro) s0 q) = uM (fl q) := by
  unfold ph1
  have hcr : crOf (DA n cl term bc bp nm fl ro) = true := by unfold crOf; rfl
  have ht : tillOf (DA n cl term bc bp nm fl ro) true = 1 := rfl
  rw [hcr, ht, p1_val, if_neg (by omega)]
  have e1 : annSt (p0 (DA n cl term bc bp nm fl ro) s0 ((DA n cl term bc bp nm fl ro).n + 1)) true q = p0 (DA n cl term bc bp nm fl ro) s0 (n + 1) q := by
    unfold annSt setDn
    rw [if_pos rfl, if_neg (by omega)]
    rfl
  have e2 : (DA n cl term bc bp nm fl ro).fl q = fl q := flA q h1
  rw [e1, p0_val h1 (by omega), e2]
  unfold uM
  by_cases h : fl q = 3
  · rw [if_pos h, if_pos h]; rfl
  · rw [if_neg h, if_neg h]; rfl
/-- The run that crashes once its decision has reached all: before it decides. -/
def ndB (f : Int) : Nd := if f = 3 then ⟨true, 0, 0⟩ else if f = 1 then ⟨false, 3, 0⟩ else if f = 2 then ⟨true, 2, 0⟩ else ⟨false, 2, 0⟩
theorem sB_zero : ph1 (DB n cl term bc bp nm fl ro) s0 0 = ⟨false, 0, 0⟩ := by
  unfold ph1
  have hcr : crOf (DB n cl term bc bp nm fl ro) = false := by unfold crOf; rfl
  rw [p1_val, if_neg (by omega), hcr]
  exact p0_zero (D := DB n cl term bc bp nm fl ro) (k := n + 1)
theorem sB_val {q : Nat} (h1 : 1 ≤ q) (h2 : q ≤ n) : ph1 (DB n cl term bc bp nm fl ro) s0 q = ndB (fl q) := by
  unfold ph1
  have hcr : crOf (DB n cl term bc bp nm fl ro) = false := by unfold crOf; rfl
  have ht : tillOf (DB n cl term bc bp nm fl ro) false = n + 1 := rfl
  have hN : (DB n cl term bc bp nm fl ro).n = n := rfl
  have e2 : (DB n cl term bc bp nm fl ro).fl q = fl q := flB q h1
  rw [hcr, ht, p1_val, if_pos ⟨h1, by rw [hN]; exact h2, by omega⟩, e2]
  have e1 : annSt (p0 (DB n cl term bc bp nm fl ro) s0 ((DB n cl term bc bp nm fl ro).n + 1)) false q = p0 (DB n cl term bc bp nm fl ro) s0 (n + 1) q := rfl
  rw [e1, p0_val h1 (by omega), e2]
  unfold ansNd ndB
  by_cases h : fl q = 3
  · simp [h]
  · simp [h]
theorem sB_rep {q : Nat} (h1 : 1 ≤ q) (h2 : q ≤ n) : replyOf (ph1 (DB n cl term bc bp nm fl ro) s0 q) = pM (fl q) := by
  rw [sB_val h1 h2]
  unfold ndB pM
  by_cases h3 : fl q = 3
  · simp only [h3, if_true]; rfl
  · by_cases h4 : fl q = 1
    · simp [h4]; rfl
    · by_cases h5 : fl q = 2
      · simp [h5]; rfl
      · simp [h3, h4, h5]; rfl
theorem sB_vt {q : Nat} (h1 : 1 ≤ q) (h2 : q ≤ n) : (ph1 (DB n cl term bc bp nm fl ro) s0 q).vt ≠ 7 := by
  rw [sB_val h1 h2]
  unfold ndB
  split
  · decide
  · split
    · decide
    · split <;> decide
theorem sB_dc {q : Nat} (h1 : 1 ≤ q) (h2 : q ≤ n) : (ph1 (DB n cl term bc bp nm fl ro) s0 q).dc = 0 := by
  rw [sB_val h1 h2]
  unfold ndB
  split
  · rfl
  · split
    · rfl
    · split <;> rfl
/-- None of the first i participants votes failed or is down from the start. -/
def allOk (fl : Nat → Int) : Nat → Bool
  | 0 => true
  | i + 1 => allOk fl i && !(decide (fl (i + 1) = 1) || decide (fl (i + 1) = 3))
theorem sB_agr : ∀ k, k ≤ n → agrB (ph1 (DB n cl term bc bp nm fl ro) s0) k = allOk fl k := by
  intro k
  induction k with
  | zero => intro _; rfl
  | succ k ih =>
    intro hk
    unfold agrB allOk
    rw [ih (by omega), sB_val (by omega) hk]
    congr 1
    unfold ndB
    by_cases h3 : fl (k + 1) = 3
    · simp [h3]
    · by_cases h4 : fl (k + 1) = 1
      · simp [h4]
      · by_cases h5 : fl (k + 1) = 2
        · simp [h5]
        · simp [h3, h4, h5]
theorem sD_rep {q : Nat} (h1 : 1 ≤ q) (h2 : q ≤ n) : replyOf (dec21 (DB n cl term bc bp nm fl ro) (ph1 (DB n cl term bc bp nm fl ro) s0) q) = dM (msgOf (recOf (allOk fl n))) (fl q) := by
  unfold dec21
  have hN : (DB n cl term bc bp nm fl ro).n = n := rfl
  rw [hN, sB_agr n (Nat.le_refl _)]
  generalize hrc : recOf (allOk fl n) = rc
  have hrc0 : rc ≠ 0 := by rw [← hrc]; unfold recOf; split <;> decide
  have e1 : annSt (ph1 (DB n cl term bc bp nm fl ro) s0) true q = ndB (fl q) := by
    unfold annSt setDn
    rw [if_pos rfl, if_neg (by omega), sB_val h1 h2]
  unfold p2
  rw [e1]
  unfold ndB dM
  by_cases h3 : fl q = 3
  · simp only [h3, if_true]
    rw [if_neg (fun h => by cases h.2.2)]
    rfl
  · by_cases h4 : fl q = 1
    · have h31 : ¬ ((1 : Int) = 3) := by decide
      have h21 : ¬ ((1 : Int) = 2) := by decide
      simp only [h4, h31, h21, if_true, if_false]
      rw [if_pos ⟨h1, by omega, by trivial⟩]
      unfold replyOf stateOf
      rw [if_neg (by simp), if_pos hrc0]
    · by_cases h5 : fl q = 2
      · have h32 : ¬ ((2 : Int) = 3) := by decide
        have h12 : ¬ ((2 : Int) = 1) := by decide
        simp only [h5, h32, h12, if_true, if_false]
        rw [if_neg (fun h => by cases h.2.2)]
        rfl
      · simp only [h3, h4, h5, if_false]
        rw [if_pos ⟨h1, by omega, by trivial⟩]
        unfold replyOf stateOf
        rw [if_neg (by simp), if_pos hrc0]
end
end Go.Proofs.Ybulkdrci.A
