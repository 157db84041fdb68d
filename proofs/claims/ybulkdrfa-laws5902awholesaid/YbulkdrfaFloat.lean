import Derived.Laws.FloatBits
namespace Go.Proofs.Ybulkdrfa.Fl
open Ieee
set_option linter.unusedVariables false

/-! ### Numbers in the order of their rungs -/
def L : Int := Ieee.double.leastPlace
def B : Nat := 2 ^ 52
def W : Nat := 2 ^ 63
def I : Nat := 2047 * 2 ^ 52
theorem binade_eq : Ieee.double.binade = B := rfl
theorem sw_eq : Ieee.double.signWeight = W := rfl
theorem inf_eq : Ieee.double.infRung = I := rfl
def neg (x : Nat) : Bool := x / W % 2 == 1
def rung (x : Nat) : Nat := x % W
def isNaN (x : Nat) : Bool := decide (I < rung x)
def key (x : Nat) : Int := if neg x then -(rung x : Int) else (rung x : Int)
/-- The magnitude of a rung, in units of the least place. -/
def mag (r : Nat) : Nat := if r < B then r else (B + r % B) * 2 ^ (r / B - 1)
def sg (s : Bool) (n : Nat) : Int := if s then -(n : Int) else (n : Int)

theorem mag_lt {r r' : Nat} (h : r < r') : mag r < mag r' := by
  have hB : 0 < B := Nat.two_pow_pos _
  unfold mag
  by_cases h1 : r < B
  · rw [if_pos h1]
    by_cases h2 : r' < B
    · rw [if_pos h2]; exact h
    · rw [if_neg h2]
      calc r < B := h1
        _ ≤ B + r' % B := Nat.le_add_right _ _
        _ = (B + r' % B) * 1 := (Nat.mul_one _).symm
        _ ≤ _ := Nat.mul_le_mul_left _ (Nat.two_pow_pos _)
  · have h2 : ¬ r' < B := by omega
    rw [if_neg h1, if_neg h2]
    have d1 := Nat.div_add_mod r B
    have d2 := Nat.div_add_mod r' B
    have m1 := Nat.mod_lt r hB
    have m2 := Nat.mod_lt r' hB
    have hq : r / B ≤ r' / B := Nat.div_le_div_right (Nat.le_of_lt h)
    have hq1 : 1 ≤ r / B := (Nat.le_div_iff_mul_le hB).2 (by omega)
    rcases Nat.lt_or_ge (r / B) (r' / B) with hlt | hge
    · obtain ⟨k, hk⟩ : ∃ k, r' / B - 1 = (r / B - 1) + 1 + k := ⟨r' / B - r / B - 1, by omega⟩
      rw [hk, Nat.pow_add, Nat.pow_succ]
      calc (B + r % B) * 2 ^ (r / B - 1) < (B + B) * 2 ^ (r / B - 1) := Nat.mul_lt_mul_of_pos_right (by omega) (Nat.two_pow_pos _)
        _ = B * (2 ^ (r / B - 1) * 2) := by rw [← Nat.two_mul, Nat.mul_comm 2 B, Nat.mul_assoc, Nat.mul_comm 2]
        _ ≤ (B + r' % B) * (2 ^ (r / B - 1) * 2) := Nat.mul_le_mul_right _ (Nat.le_add_right _ _)
        _ = (B + r' % B) * (2 ^ (r / B - 1) * 2 * 1) := by rw [Nat.mul_one]
        _ ≤ _ := Nat.mul_le_mul_left _ (Nat.mul_le_mul_left _ (Nat.two_pow_pos _))
    · have he : r / B = r' / B := by omega
      rw [he] at d1 ⊢
      exact Nat.mul_lt_mul_of_pos_right (by omega) (Nat.two_pow_pos _)
theorem mag_zero : mag 0 = 0 := rfl
theorem mag_le {r r' : Nat} (h : r ≤ r') : mag r ≤ mag r' := by
  rcases Nat.lt_or_ge r r' with h1 | h1
  · exact Nat.le_of_lt (mag_lt h1)
  · have : r = r' := by omega
    subst this; exact Nat.le_refl _

theorem cmp_scale (a b : Int) (k : Nat) : compare (a * 2 ^ k) (b * 2 ^ k) = compare a b := by
  have hp : (0 : Int) < 2 ^ k := Int.pow_pos (by decide)
  rcases Int.lt_trichotomy a b with h | h | h
  · rw [Int.compare_eq_lt.2 h, Int.compare_eq_lt]
    exact Int.mul_lt_mul_of_pos_right h hp
  · subst h; exact (Int.compare_eq_eq.2 rfl).trans (Int.compare_eq_eq.2 rfl).symm
  · rw [Int.compare_eq_gt.2 h, Int.compare_eq_gt]
    exact Int.mul_lt_mul_of_pos_right h hp
theorem cmp_key (s t : Bool) (r r' : Nat) : compare (sg s (mag r)) (sg t (mag r')) = compare (sg s r) (sg t r') := by
  have h0 : ∀ q, 0 < q → 0 < mag q := fun q hq => by have := mag_lt hq; rw [mag_zero] at this; exact this
  have key : ∀ x y : Int, ∀ x' y' : Int, (x < y ↔ x' < y') → (y < x ↔ y' < x') → compare x y = compare x' y' := by
    intro x y x' y' h1 h2
    rcases Int.lt_trichotomy x y with h | h | h
    · rw [Int.compare_eq_lt.2 h, Int.compare_eq_lt.2 (h1.1 h)]
    · subst h
      have e : x' = y' := by
        have a1 : ¬ x' < y' := fun e => absurd (h1.2 e) (Int.lt_irrefl _)
        have a2 : ¬ y' < x' := fun e => absurd (h2.2 e) (Int.lt_irrefl _)
        omega
      rw [Int.compare_eq_eq.2 rfl, Int.compare_eq_eq.2 e]
    · rw [Int.compare_eq_gt.2 h, Int.compare_eq_gt.2 (h2.1 h)]
  have mono : ∀ a b : Nat, (mag a < mag b ↔ a < b) := fun a b => ⟨fun h => by
    rcases Nat.lt_or_ge a b with h1 | h1
    · exact h1
    · have := mag_le h1; omega, mag_lt⟩
  have m1 := mono r r'
  have m2 := mono r' r
  have z1 : mag r = 0 ↔ r = 0 := ⟨fun h => by
    rcases Nat.eq_zero_or_pos r with e | e
    · exact e
    · have := h0 r e; omega, fun h => by subst h; rfl⟩
  have z2 : mag r' = 0 ↔ r' = 0 := ⟨fun h => by
    rcases Nat.eq_zero_or_pos r' with e | e
    · exact e
    · have := h0 r' e; omega, fun h => by subst h; rfl⟩
  apply key <;> cases s <;> cases t <;> simp only [sg, if_true, if_false, Bool.false_eq_true] <;> omega

/-- A number's datum, with its magnitude in units of the least place. -/
structure Num (d : Datum) (s : Bool) (n : Nat) : Prop where
  ex : ∃ m i, d = .number s m i ∧ L ≤ i ∧ n = m * 2 ^ (i - L).toNat
theorem signed_sg (s : Bool) (m k : Nat) : signed s m k = sg s (m * 2 ^ k) := by
  unfold signed sg
  rw [Nat.shiftLeft_eq]
theorem sg_mul (s : Bool) (a k : Nat) : sg s (a * 2 ^ k) = sg s a * 2 ^ k := by
  unfold sg
  cases s
  · simp [Int.natCast_mul, Int.natCast_pow]
  · simp [Int.natCast_mul, Int.natCast_pow, Int.neg_mul]
theorem num_order {d e : Datum} {s t : Bool} {n q : Nat} (hd : Num d s n) (he : Num e t q) : d.order e = some (compare (sg s n) (sg t q)) := by
  obtain ⟨m, i, rfl, hi, rfl⟩ := hd
  obtain ⟨m', j, rfl, hj, rfl⟩ := he
  show some (compare (signed s m (i - min i j).toNat) (signed t m' (j - min i j).toNat)) = _
  rw [signed_sg, signed_sg, ← cmp_scale _ _ (min i j - L).toNat, ← sg_mul, ← sg_mul, Nat.mul_assoc, Nat.mul_assoc, ← Nat.pow_add, ← Nat.pow_add]
  have e1 : (i - min i j).toNat + (min i j - L).toNat = (i - L).toNat := by omega
  have e2 : (j - min i j).toNat + (min i j - L).toNat = (j - L).toNat := by omega
  rw [e1, e2]

theorem read_num {x : Nat} (h : rung x < I) : Num (Ieee.double.read x) (neg x) (mag (rung x)) := by
  unfold Ieee.Format.read
  simp only [binade_eq, sw_eq, inf_eq]
  show Num (if rung x < B then .number (neg x) (rung x) L else if rung x < I then .number (neg x) (B + rung x % B) (L + (rung x / B - 1 : Nat)) else if rung x = I then .infinity (neg x) else .nan (neg x) (rung x - I)) _ _
  by_cases h1 : rung x < B
  · rw [if_pos h1]
    refine ⟨_, _, rfl, Int.le_refl _, ?_⟩
    unfold mag
    rw [if_pos h1]
    simp
  · rw [if_neg h1, if_pos h]
    refine ⟨_, _, rfl, by omega, ?_⟩
    unfold mag
    rw [if_neg h1]
    congr 2
    omega
theorem read_inf {x : Nat} (h : rung x = I) : Ieee.double.read x = .infinity (neg x) := by
  unfold Ieee.Format.read
  simp only [binade_eq, sw_eq, inf_eq]
  show (if rung x < B then Datum.number (neg x) (rung x) L else if rung x < I then .number (neg x) (B + rung x % B) (L + (rung x / B - 1 : Nat)) else if rung x = I then .infinity (neg x) else .nan (neg x) (rung x - I)) = _
  rw [if_neg (by rw [h]; decide), if_neg (by omega), if_pos h]
theorem read_nan {x : Nat} (h : I < rung x) : Ieee.double.read x = .nan (neg x) (rung x - I) := by
  unfold Ieee.Format.read
  simp only [binade_eq, sw_eq, inf_eq]
  show (if rung x < B then Datum.number (neg x) (rung x) L else if rung x < I then .number (neg x) (B + rung x % B) (L + (rung x / B - 1 : Nat)) else if rung x = I then .infinity (neg x) else .nan (neg x) (rung x - I)) = _
  have hBI : B < I := by decide
  rw [if_neg (by omega), if_neg (by omega), if_neg (by omega)]

theorem key_sg (x : Nat) : key x = sg (neg x) (rung x) := rfl
/-- THE ORDER OF TWO WORDS. -/
theorem order_key {x y : Nat} (hx : isNaN x = false) (hy : isNaN y = false) : Ieee.double.order x y = some (compare (key x) (key y)) := by
  have hx' : rung x ≤ I := by simpa [isNaN] using hx
  have hy' : rung y ≤ I := by simpa [isNaN] using hy
  show (Ieee.double.read x).order (Ieee.double.read y) = _
  rw [key_sg, key_sg]
  have hI : 0 < I := by decide
  rcases Nat.lt_or_eq_of_le hx' with h1 | h1
  · rcases Nat.lt_or_eq_of_le hy' with h2 | h2
    · rw [num_order (read_num h1) (read_num h2), cmp_key]
    · obtain ⟨m, i, e, _, _⟩ := (read_num h1).ex
      rw [e, read_inf h2]
      show some (if neg y then Ordering.gt else .lt) = _
      congr 1
      cases hn : neg y <;> simp only [if_true, if_false, Bool.false_eq_true] <;> symm
      · rw [Int.compare_eq_lt]
        unfold sg
        cases neg x <;> simp only [if_true, if_false, Bool.false_eq_true] <;> omega
      · rw [Int.compare_eq_gt]
        unfold sg
        cases neg x <;> simp only [if_true, if_false, Bool.false_eq_true] <;> omega
  · rcases Nat.lt_or_eq_of_le hy' with h2 | h2
    · obtain ⟨m, i, e, _, _⟩ := (read_num h2).ex
      rw [e, read_inf h1]
      show some (if neg x then Ordering.lt else .gt) = _
      congr 1
      cases hn : neg x <;> simp only [if_true, if_false, Bool.false_eq_true] <;> symm
      · rw [Int.compare_eq_gt]
        unfold sg
        cases neg y <;> simp only [if_true, if_false, Bool.false_eq_true] <;> omega
      · rw [Int.compare_eq_lt]
        unfold sg
        cases neg y <;> simp only [if_true, if_false, Bool.false_eq_true] <;> omega
    · rw [read_inf h1, read_inf h2]
      show some (compare (neg y).toNat (neg x).toNat) = _
      congr 1
      cases hn : neg x <;> cases hm : neg y <;> simp only [sg, if_true, if_false, Bool.false_eq_true, Bool.toNat_true, Bool.toNat_false] <;> symm
      · rw [h1, h2]; exact Int.compare_eq_eq.2 rfl
      · exact Int.compare_eq_gt.2 (by omega)
      · exact Int.compare_eq_lt.2 (by omega)
      · rw [h1, h2]; exact Int.compare_eq_eq.2 rfl
theorem order_nan_l {x y : Nat} (hx : isNaN x = true) : Ieee.double.order x y = none := by
  have hx' : I < rung x := by simpa [isNaN] using hx
  show (Ieee.double.read x).order (Ieee.double.read y) = _
  rw [read_nan hx']
  rfl
theorem order_nan_r {x y : Nat} (hy : isNaN y = true) : Ieee.double.order x y = none := by
  have hy' : I < rung y := by simpa [isNaN] using hy
  show (Ieee.double.read x).order (Ieee.double.read y) = _
  rw [read_nan hy']
  cases Ieee.double.read x <;> rfl

def lss (x y : Nat) : Bool := Ieee.double.order x y == some .lt
def eql (x y : Nat) : Bool := Ieee.double.order x y == some .eq
theorem lss_eq (x y : Nat) : lss x y = (!isNaN x && !isNaN y && decide (key x < key y)) := by
  unfold lss
  cases hx : isNaN x
  · cases hy : isNaN y
    · rw [order_key hx hy]
      by_cases h : key x < key y
      · rw [Int.compare_eq_lt.2 h]; simp [h]
      · have : compare (key x) (key y) ≠ .lt := fun e => h (Int.compare_eq_lt.1 e)
        simp [h, this]
    · rw [order_nan_r hy]; simp
  · rw [order_nan_l hx]; simp
theorem eql_eq (x y : Nat) : eql x y = (!isNaN x && !isNaN y && decide (key x = key y)) := by
  unfold eql
  cases hx : isNaN x
  · cases hy : isNaN y
    · rw [order_key hx hy]
      by_cases h : key x = key y
      · rw [Int.compare_eq_eq.2 h]; simp [h]
      · have : compare (key x) (key y) ≠ .eq := fun e => h (Int.compare_eq_eq.1 e)
        simp [h, this]
    · rw [order_nan_r hy]; simp
  · rw [order_nan_l hx]; simp

/-- cmp.Less at float64: a NaN ahead of every number. -/
def lt (x y : Nat) : Bool := (isNaN x && !isNaN y) || lss x y
/-- Neither is less. -/
def Eqv (x y : Nat) : Prop := (isNaN x = true ∧ isNaN y = true) ∨ (isNaN x = false ∧ isNaN y = false ∧ key x = key y)
theorem lt_eq (x y : Nat) : lt x y = true ↔ isNaN y = false ∧ (isNaN x = true ∨ key x < key y) := by
  unfold lt
  rw [lss_eq]
  cases isNaN x <;> cases isNaN y <;> simp
theorem eqv_iff (x y : Nat) : Eqv x y ↔ lt x y = false ∧ lt y x = false := by
  have h1 : lt x y = false ↔ ¬ (isNaN y = false ∧ (isNaN x = true ∨ key x < key y)) := by rw [← lt_eq]; simp
  have h2 : lt y x = false ↔ ¬ (isNaN x = false ∧ (isNaN y = true ∨ key y < key x)) := by rw [← lt_eq]; simp
  rw [h1, h2]
  unfold Eqv
  cases isNaN x <;> cases isNaN y <;> simp <;> omega
theorem eqv_refl (x : Nat) : Eqv x x := by
  unfold Eqv
  cases isNaN x <;> simp

/-! ### 'x - y <= e' does not tell equals apart -/
/-- x - y <= e, where the difference is no NaN (else false). -/
def leq (r e : Nat) : Bool := Ieee.double.order r e == some Ordering.lt || Ieee.double.order r e == some Ordering.eq
def ansOf (o : Option Nat) (e : Nat) : Bool := match o with
  | none => false
  | some r => leq r e
def within (x y e : Nat) : Bool := ansOf (Ieee.double.sub x y) e
theorem leq_key (r e : Nat) : leq r e = (!isNaN r && !isNaN e && decide (key r ≤ key e)) := by
  have h1 := lss_eq r e
  have h2 := eql_eq r e
  unfold lss at h1
  unfold eql at h2
  unfold leq
  rw [h1, h2]
  cases isNaN r <;> cases isNaN e <;> simp
  rw [Bool.eq_iff_iff]
  simp
  omega
/-- Two data that are the same, or zeros of the two signs. -/
def Same (d e : Datum) : Prop := d = e ∨ ∃ s t, d = .number s 0 L ∧ e = .number t 0 L
theorem same_of_eqv {x y : Nat} (h : Eqv x y) (hx : isNaN x = false) : Same (Ieee.double.read x) (Ieee.double.read y) := by
  rcases h with ⟨h1, _⟩ | ⟨_, hy, hk⟩
  · rw [hx] at h1; cases h1
  have hx' : rung x ≤ I := by simpa [isNaN] using hx
  rw [key_sg, key_sg] at hk
  have hr : rung x = rung y ∧ (neg x = neg y ∨ rung x = 0) := by
    unfold sg at hk
    cases h1 : neg x <;> cases h2 : neg y <;> simp only [h1, h2, if_true, if_false, Bool.false_eq_true] at hk <;> refine ⟨by omega, ?_⟩
    · exact .inl rfl
    · exact .inr (by omega)
    · exact .inr (by omega)
    · exact .inl rfl
  have hread : ∀ z, Ieee.double.read z = (if rung z < B then Datum.number (neg z) (rung z) L else if rung z < I then .number (neg z) (B + rung z % B) (L + (rung z / B - 1 : Nat)) else if rung z = I then .infinity (neg z) else .nan (neg z) (rung z - I)) := fun z => rfl
  rcases hr.2 with e | e
  · left
    rw [hread x, hread y, hr.1, e]
  · right
    refine ⟨neg x, neg y, ?_, ?_⟩
    · rw [hread x, if_pos (by rw [e]; decide), e]
    · rw [hread y, ← hr.1, if_pos (by rw [e]; decide), e]
theorem signed_zero (s : Bool) (k : Nat) : signed s 0 k = 0 := by unfold signed; cases s <;> simp
/-- A sum of equals: the same, or zeros. -/
def Alike (d e : Option Datum) : Prop := d = e ∨ ∃ s t b, d = some (.number s 0 b) ∧ e = some (.number t 0 b)
theorem sum_l {d e g : Datum} (h : Same d e) : Alike (d.sum g) (e.sum g) := by
  rcases h with rfl | ⟨s, t, rfl, rfl⟩
  · exact .inl rfl
  · cases g with
    | nan n f => exact .inl rfl
    | infinity n => exact .inl rfl
    | number n m i =>
      have e1 : ∀ u : Bool, (Datum.number u 0 L).sum (.number n m i) = some (.number (if signed n m (i - min L i).toNat = 0 then u && n else decide (signed n m (i - min L i).toNat < 0)) (signed n m (i - min L i).toNat).natAbs (min L i)) := by
        intro u
        show some (Datum.number (if signed u 0 (L - min L i).toNat + signed n m (i - min L i).toNat = 0 then u && n else decide (signed u 0 (L - min L i).toNat + signed n m (i - min L i).toNat < 0)) (signed u 0 (L - min L i).toNat + signed n m (i - min L i).toNat).natAbs (min L i)) = _
        rw [signed_zero, Int.zero_add]
      rw [e1 s, e1 t]
      by_cases hz : signed n m (i - min L i).toNat = 0
      · right
        refine ⟨s && n, t && n, min L i, ?_, ?_⟩ <;> simp [hz]
      · left
        simp [hz]
theorem sum_r {d e g : Datum} (h : Same d e) : Alike (g.sum d) (g.sum e) := by
  rcases h with rfl | ⟨s, t, rfl, rfl⟩
  · exact .inl rfl
  · cases g with
    | nan n f => exact .inl rfl
    | infinity n => exact .inl rfl
    | number n m i =>
      have e1 : ∀ u : Bool, (Datum.number n m i).sum (.number u 0 L) = some (.number (if signed n m (i - min i L).toNat = 0 then n && u else decide (signed n m (i - min i L).toNat < 0)) (signed n m (i - min i L).toNat).natAbs (min i L)) := by
        intro u
        show some (Datum.number (if signed n m (i - min i L).toNat + signed u 0 (L - min i L).toNat = 0 then n && u else decide (signed n m (i - min i L).toNat + signed u 0 (L - min i L).toNat < 0)) (signed n m (i - min i L).toNat + signed u 0 (L - min i L).toNat).natAbs (min i L)) = _
        rw [signed_zero, Int.add_zero]
      rw [e1 s, e1 t]
      by_cases hz : signed n m (i - min i L).toNat = 0
      · right
        refine ⟨n && s, n && t, min i L, ?_, ?_⟩ <;> simp [hz]
      · left
        simp [hz]
theorem same_opposite {d e : Datum} (h : Same d e) : Same d.opposite e.opposite := by
  rcases h with rfl | ⟨s, t, rfl, rfl⟩
  · exact .inl rfl
  · exact .inr ⟨!s, !t, rfl, rfl⟩
theorem within_alike {d e : Option Datum} (h : Alike d e) (g : Nat) : ansOf (d.map Ieee.double.write) g = ansOf (e.map Ieee.double.write) g := by
  rcases h with rfl | ⟨s, t, b, rfl, rfl⟩
  · rfl
  · have hw : ∀ u : Bool, Ieee.double.write (.number u 0 b) = Ieee.double.word u 0 := fun u => rfl
    show leq (Ieee.double.write (.number s 0 b)) g = leq (Ieee.double.write (.number t 0 b)) g
    rw [hw, hw, leq_key, leq_key]
    have k0 : ∀ u : Bool, key (Ieee.double.word u 0) = 0 ∧ isNaN (Ieee.double.word u 0) = false := by
      intro u
      cases u <;> exact ⟨by decide +kernel, by decide +kernel⟩
    rw [(k0 s).1, (k0 s).2, (k0 t).1, (k0 t).2]
theorem within_nan_l {x y e : Nat} (h : isNaN x = true) : within x y e = false := by
  have hx' : I < rung x := by simpa [isNaN] using h
  have e1 : Ieee.double.sub x y = none := by
    show ((Ieee.double.read x).sum (Ieee.double.read y).opposite).map _ = none
    rw [read_nan hx']; rfl
  unfold within
  rw [e1]
  rfl
theorem within_nan_r {x y e : Nat} (h : isNaN y = true) : within x y e = false := by
  have hy' : I < rung y := by simpa [isNaN] using h
  have e1 : Ieee.double.sub x y = none := by
    show ((Ieee.double.read x).sum (Ieee.double.read y).opposite).map _ = none
    rw [read_nan hy']
    cases Ieee.double.read x <;> rfl
  unfold within
  rw [e1]
  rfl
/-- EQUALS IN, THE SAME ANSWER OUT. -/
theorem within_congr {x x' y y' : Nat} (hx : Eqv x x') (hy : Eqv y y') (e : Nat) : within x y e = within x' y' e := by
  rcases hx with ⟨h1, h2⟩ | ⟨h1, h2, hk⟩
  · rw [within_nan_l h1, within_nan_l h2]
  rcases hy with ⟨g1, g2⟩ | ⟨g1, g2, gk⟩
  · rw [within_nan_r g1, within_nan_r g2]
  have sx := same_of_eqv (.inr ⟨h1, h2, hk⟩) h1
  have sy := same_opposite (same_of_eqv (.inr ⟨g1, g2, gk⟩) g1)
  exact (within_alike (sum_l (g := (Ieee.double.read y).opposite) sx) e).trans (within_alike (sum_r (g := Ieee.double.read x') sy) e)
end Go.Proofs.Ybulkdrfa.Fl
