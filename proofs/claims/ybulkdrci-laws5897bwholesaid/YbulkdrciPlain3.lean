import Derived.Test.YbulkdrciPlain2
namespace Go.Proofs.Ybulkdrci.Pl
open Go Go.Proofs.Ybulkdrci.Sym

theorem snoc_ind {α : Type} {motive : List α → Prop} (h0 : motive []) (hs : ∀ l a, motive l → motive (l ++ [a])) (l : List α) : motive l := by
  have : ∀ l : List α, motive l.reverse := by
    intro l
    induction l with
    | nil => exact h0
    | cons a r ih => rw [List.reverse_cons]; exact hs _ _ ih
  have h := this l.reverse
  rwa [List.reverse_reverse] at h

section
variable {tx it : Nat → Nat} {kd nd : Nat → Int}

def step7n (tx : Nat → Nat) (kd nd : Nat → Int) (s : S7m) (p : Nat) : S7m :=
  if nd (tx p) < 0 then s
  else if kd p = 2 then ⟨true, if s.touch (tx p) = true then s.touch else upd s.touch (tx p) true, upd s.wr (tx p) true, s.rbw, if s.touch (tx p) = true then s.cnt else s.cnt + 1⟩
  else ⟨s.any, if s.touch (tx p) = true then s.touch else upd s.touch (tx p) true, s.wr, if s.wr (tx p) = true then s.rbw else upd s.rbw (tx p) true, if s.touch (tx p) = true then s.cnt else s.cnt + 1⟩
def m7 (tx : Nat → Nat) (kd nd : Nat → Int) (l : List Nat) : S7m := l.foldl (step7n tx kd nd) ⟨false, fun _ => false, fun _ => false, fun _ => false, 0⟩
theorem m7_snoc (l : List Nat) (p : Nat) : m7 tx kd nd (l ++ [p]) = step7n tx kd nd (m7 tx kd nd l) p := by simp [m7, List.foldl_append]
theorem fold7m_eq (x k : Nat) : fold7m it tx kd nd x k = m7 tx kd nd (opsOf k it x) := by
  induction k with
  | zero => rfl
  | succ k ih =>
    rw [fold7m_succ, opsOf_succ, ih]
    unfold step7m
    by_cases h : it k = x
    · rw [if_neg (by simpa using h), if_pos h, m7_snoc]; rfl
    · rw [if_pos h, if_neg h]

theorem upd_true {f : Nat → Bool} {a b : Nat} : upd f a true b = true ↔ b = a ∨ f b = true := by
  unfold upd
  by_cases h : b = a <;> simp [h]
theorem touch_upd (f : Nat → Bool) (a b : Nat) : (if f a = true then f else upd f a true) b = true ↔ b = a ∨ f b = true := by
  split
  · rename_i h
    constructor
    · exact .inr
    · rintro (rfl | h')
      · exact h
      · exact h'
  · exact upd_true

theorem touch_iff (l : List Nat) : ∀ t, (m7 tx kd nd l).touch t = true ↔ ∃ p, p ∈ l ∧ 0 ≤ nd (tx p) ∧ tx p = t := by
  induction l using snoc_ind
  case h0 => simp [m7]
  case hs l p ih =>
    intro t
    rw [m7_snoc]
    have hm : (∃ q, q ∈ l ++ [p] ∧ 0 ≤ nd (tx q) ∧ tx q = t) ↔ (∃ q, q ∈ l ∧ 0 ≤ nd (tx q) ∧ tx q = t) ∨ (0 ≤ nd (tx p) ∧ tx p = t) := by
      constructor
      · rintro ⟨q, hq, h1, h2⟩
        rcases List.mem_append.1 hq with h | h
        · exact .inl ⟨q, h, h1, h2⟩
        · simp at h; subst h; exact .inr ⟨h1, h2⟩
      · rintro (⟨q, hq, h1, h2⟩ | ⟨h1, h2⟩)
        · exact ⟨q, List.mem_append_left _ hq, h1, h2⟩
        · exact ⟨p, by simp, h1, h2⟩
    rw [hm, ← ih t]
    unfold step7n
    split
    · rename_i h
      constructor
      · exact .inl
      · rintro (h1 | ⟨h1, _⟩)
        · exact h1
        · omega
    · rename_i h
      have key := touch_upd (m7 tx kd nd l).touch (tx p) t
      split
      · dsimp only
        rw [key]
        constructor
        · rintro (h1 | h1)
          · exact .inr ⟨by omega, h1.symm⟩
          · exact .inl h1
        · rintro (h1 | ⟨_, h1⟩)
          · exact .inr h1
          · exact .inl h1.symm
      · dsimp only
        rw [key]
        constructor
        · rintro (h1 | h1)
          · exact .inr ⟨by omega, h1.symm⟩
          · exact .inl h1
        · rintro (h1 | ⟨_, h1⟩)
          · exact .inr h1
          · exact .inl h1.symm

theorem wr_iff (l : List Nat) : ∀ t, (m7 tx kd nd l).wr t = true ↔ ∃ p, p ∈ l ∧ 0 ≤ nd (tx p) ∧ tx p = t ∧ kd p = 2 := by
  induction l using snoc_ind
  case h0 => simp [m7]
  case hs l p ih =>
    intro t
    rw [m7_snoc]
    have hm : (∃ q, q ∈ l ++ [p] ∧ 0 ≤ nd (tx q) ∧ tx q = t ∧ kd q = 2) ↔ (∃ q, q ∈ l ∧ 0 ≤ nd (tx q) ∧ tx q = t ∧ kd q = 2) ∨ (0 ≤ nd (tx p) ∧ tx p = t ∧ kd p = 2) := by
      constructor
      · rintro ⟨q, hq, h1⟩
        rcases List.mem_append.1 hq with h | h
        · exact .inl ⟨q, h, h1⟩
        · simp at h; subst h; exact .inr h1
      · rintro (⟨q, hq, h1⟩ | h1)
        · exact ⟨q, List.mem_append_left _ hq, h1⟩
        · exact ⟨p, by simp, h1⟩
    rw [hm, ← ih t]
    unfold step7n
    split
    · rename_i h
      constructor
      · exact .inl
      · rintro (h1 | ⟨h1, _⟩)
        · exact h1
        · omega
    · rename_i h
      split
      · rename_i hk
        show upd _ _ _ t = true ↔ _
        rw [upd_true]
        constructor
        · rintro (h1 | h1)
          · exact .inr ⟨by omega, h1.symm, hk⟩
          · exact .inl h1
        · rintro (h1 | ⟨_, h1, _⟩)
          · exact .inr h1
          · exact .inl h1.symm
      · rename_i hk
        constructor
        · exact .inl
        · rintro (h1 | ⟨_, _, h1⟩)
          · exact h1
          · exact absurd h1 hk

theorem any_iff (l : List Nat) : (m7 tx kd nd l).any = true ↔ ∃ p, p ∈ l ∧ 0 ≤ nd (tx p) ∧ kd p = 2 := by
  induction l using snoc_ind
  case h0 => simp [m7]
  case hs l p ih =>
    rw [m7_snoc]
    have hm : (∃ q, q ∈ l ++ [p] ∧ 0 ≤ nd (tx q) ∧ kd q = 2) ↔ (∃ q, q ∈ l ∧ 0 ≤ nd (tx q) ∧ kd q = 2) ∨ (0 ≤ nd (tx p) ∧ kd p = 2) := by
      constructor
      · rintro ⟨q, hq, h1⟩
        rcases List.mem_append.1 hq with h | h
        · exact .inl ⟨q, h, h1⟩
        · simp at h; subst h; exact .inr h1
      · rintro (⟨q, hq, h1⟩ | h1)
        · exact ⟨q, List.mem_append_left _ hq, h1⟩
        · exact ⟨p, by simp, h1⟩
    rw [hm, ← ih]
    unfold step7n
    split
    · rename_i h
      constructor
      · exact .inl
      · rintro (h1 | ⟨h1, _⟩)
        · exact h1
        · omega
    · rename_i h
      split
      · rename_i hk
        exact ⟨fun _ => .inr ⟨by omega, hk⟩, fun _ => rfl⟩
      · rename_i hk
        constructor
        · exact .inl
        · rintro (h1 | ⟨_, h1⟩)
          · exact h1
          · exact absurd h1 hk

/-- Whoever is touched has written, or has read before; whoever has read before is touched. -/
theorem rb_touch (l : List Nat) : ∀ t, ((m7 tx kd nd l).rbw t = true → (m7 tx kd nd l).touch t = true) ∧ ((m7 tx kd nd l).touch t = true → (m7 tx kd nd l).wr t = true ∨ (m7 tx kd nd l).rbw t = true) ∧ ((m7 tx kd nd l).wr t = true → (m7 tx kd nd l).touch t = true) := by
  induction l using snoc_ind
  case h0 => simp [m7]
  case hs l p ih =>
    intro t
    obtain ⟨i1, i2, i3⟩ := ih t
    rw [m7_snoc]
    generalize m7 tx kd nd l = s at *
    unfold step7n
    split
    · exact ⟨i1, i2, i3⟩
    · have key := touch_upd s.touch (tx p) t
      split
      · refine ⟨fun h => key.2 (.inr (i1 h)), fun h => ?_, fun h => ?_⟩
        · rcases key.1 h with h1 | h1
          · exact .inl (upd_true.2 (.inl h1))
          · rcases i2 h1 with h2 | h2
            · exact .inl (upd_true.2 (.inr h2))
            · exact .inr h2
        · rcases upd_true.1 h with h1 | h1
          · exact key.2 (.inl h1)
          · exact key.2 (.inr (i3 h1))
      · refine ⟨fun h => ?_, fun h => ?_, fun h => key.2 (.inr (i3 h))⟩
        · by_cases hw : s.wr (tx p) = true
          · simp only [hw, if_true] at h; exact key.2 (.inr (i1 h))
          · simp only [hw] at h
            rcases upd_true.1 h with h1 | h1
            · exact key.2 (.inl h1)
            · exact key.2 (.inr (i1 h1))
        · by_cases hw : s.wr (tx p) = true
          · simp only [hw, if_true]
            rcases key.1 h with h1 | h1
            · subst h1; exact .inl hw
            · exact i2 h1
          · simp only [hw]
            rcases key.1 h with h1 | h1
            · exact .inr (upd_true.2 (.inl h1))
            · rcases i2 h1 with h2 | h2
              · exact .inl h2
              · exact .inr (upd_true.2 (.inr h2))

theorem cnt_inv (l : List Nat) : ((m7 tx kd nd l).cnt = 0 ∧ ∀ t, (m7 tx kd nd l).touch t = false) ∨ ((m7 tx kd nd l).cnt = 1 ∧ ∃ t0, ∀ t, (m7 tx kd nd l).touch t = true ↔ t = t0) ∨ (2 ≤ (m7 tx kd nd l).cnt ∧ ∃ t t', t ≠ t' ∧ (m7 tx kd nd l).touch t = true ∧ (m7 tx kd nd l).touch t' = true) := by
  induction l using snoc_ind
  case h0 => exact .inl ⟨rfl, fun _ => rfl⟩
  case hs l p ih =>
    rw [m7_snoc]
    generalize m7 tx kd nd l = s at *
    have key : ∀ t, _ := touch_upd s.touch (tx p)
    have main : ((if s.touch (tx p) = true then s.cnt else s.cnt + 1) = 0 ∧ ∀ t, (if s.touch (tx p) = true then s.touch else upd s.touch (tx p) true) t = false) ∨ ((if s.touch (tx p) = true then s.cnt else s.cnt + 1) = 1 ∧ ∃ t0, ∀ t, (if s.touch (tx p) = true then s.touch else upd s.touch (tx p) true) t = true ↔ t = t0) ∨ (2 ≤ (if s.touch (tx p) = true then s.cnt else s.cnt + 1) ∧ ∃ t t', t ≠ t' ∧ (if s.touch (tx p) = true then s.touch else upd s.touch (tx p) true) t = true ∧ (if s.touch (tx p) = true then s.touch else upd s.touch (tx p) true) t' = true) := by
      by_cases ht : s.touch (tx p) = true
      · simp only [ht, if_true]
        exact ih
      · rcases ih with ⟨h1, h2⟩ | ⟨h1, t0, h2⟩ | ⟨h1, t, t', h2, h3, h4⟩
        · refine .inr (.inl ⟨by simp [ht, h1], tx p, fun t => ?_⟩)
          rw [key t, h2 t]; simp
        · refine .inr (.inr ⟨by simp [ht, h1], tx p, t0, ?_, (key _).2 (.inl rfl), (key _).2 (.inr ((h2 t0).2 rfl))⟩)
          intro e
          exact ht ((h2 _).2 e)
        · exact .inr (.inr ⟨by simp [ht]; omega, t, t', h2, (key t).2 (.inr h3), (key t').2 (.inr h4)⟩)
    unfold step7n
    split
    · exact ih
    · split <;> exact main

/-- Two are touched, or no more than one. -/
theorem cnt_iff (l : List Nat) : 2 ≤ (m7 tx kd nd l).cnt ↔ ∃ p q, p ∈ l ∧ q ∈ l ∧ 0 ≤ nd (tx p) ∧ 0 ≤ nd (tx q) ∧ tx p ≠ tx q := by
  have ht := touch_iff (tx := tx) (kd := kd) (nd := nd) l
  rcases cnt_inv (tx := tx) (kd := kd) (nd := nd) l with ⟨h1, h2⟩ | ⟨h1, t0, h2⟩ | ⟨h1, t, t', h2, h3, h4⟩
  · rw [h1]
    constructor
    · omega
    · rintro ⟨p, q, hp, _, h3, _, _⟩
      have := (ht (tx p)).2 ⟨p, hp, h3, rfl⟩
      rw [h2] at this; cases this
  · rw [h1]
    constructor
    · omega
    · rintro ⟨p, q, hp, hq, h3, h4, h5⟩
      have e1 := (h2 _).1 ((ht (tx p)).2 ⟨p, hp, h3, rfl⟩)
      have e2 := (h2 _).1 ((ht (tx q)).2 ⟨q, hq, h4, rfl⟩)
      exact absurd (e1.trans e2.symm) h5
  · refine ⟨fun _ => ?_, fun _ => h1⟩
    obtain ⟨p, hp, hp1, rfl⟩ := (ht t).1 h3
    obtain ⟨q, hq, hq1, rfl⟩ := (ht t').1 h4
    exact ⟨p, q, hp, hq, hp1, hq1, h2⟩

/-! ### setApart's side -/
theorem fold3_snoc (vv : Nat → Int) (l : List Nat) (p : Nat) : fold3 kd vv (l ++ [p]) = step3 kd vv (fold3 kd vv l) p := by simp [fold3, List.foldl_append]
theorem written_iff (vv : Nat → Int) (l : List Nat) : (fold3 kd vv l).written = true ↔ ∃ p, p ∈ l ∧ 0 ≤ vv p ∧ kd p = 2 := by
  induction l using snoc_ind
  case h0 => simp [fold3]
  case hs l p ih =>
    rw [fold3_snoc]
    have hm : (∃ q, q ∈ l ++ [p] ∧ 0 ≤ vv q ∧ kd q = 2) ↔ (∃ q, q ∈ l ∧ 0 ≤ vv q ∧ kd q = 2) ∨ (0 ≤ vv p ∧ kd p = 2) := by
      constructor
      · rintro ⟨q, hq, h1⟩
        rcases List.mem_append.1 hq with h | h
        · exact .inl ⟨q, h, h1⟩
        · simp at h; subst h; exact .inr h1
      · rintro (⟨q, hq, h1⟩ | h1)
        · exact ⟨q, List.mem_append_left _ hq, h1⟩
        · exact ⟨p, by simp, h1⟩
    rw [hm, ← ih]
    unfold step3
    by_cases h : 0 ≤ vv p
    · rw [if_pos h]; simp [h]
    · rw [if_neg h]; simp [h]
theorem alone_inv (vv : Nat → Int) (l : List Nat) : ((fold3 kd vv l).first < 0 ∧ (fold3 kd vv l).alone = true ∧ ∀ p, p ∈ l → ¬ 0 ≤ vv p) ∨
    (0 ≤ (fold3 kd vv l).first ∧ (∃ p, p ∈ l ∧ 0 ≤ vv p ∧ vv p = (fold3 kd vv l).first) ∧ ((fold3 kd vv l).alone = true ↔ ∀ p, p ∈ l → 0 ≤ vv p → vv p = (fold3 kd vv l).first)) := by
  induction l using snoc_ind
  case h0 => left; simp [fold3]
  case hs l p ih =>
    rw [fold3_snoc]
    generalize fold3 kd vv l = s at *
    unfold step3
    by_cases h : 0 ≤ vv p
    · rw [if_pos h]
      right
      rcases ih with ⟨h1, h2, h3⟩ | ⟨h1, ⟨q, hq, hq1, hq2⟩, h3⟩
      · dsimp only
        rw [if_pos h1]
        refine ⟨h, ⟨p, by simp, h, rfl⟩, ?_⟩
        simp only [h2, Bool.true_and, decide_eq_true_eq, true_iff]
        intro q hq hq1
        rcases List.mem_append.1 hq with hq | hq
        · exact absurd hq1 (h3 q hq)
        · simp at hq; rw [hq]
      · dsimp only
        rw [if_neg (by omega)]
        refine ⟨h1, ⟨q, List.mem_append_left _ hq, hq1, hq2⟩, ?_⟩
        simp only [Bool.and_eq_true, decide_eq_true_eq, h3]
        constructor
        · rintro ⟨a1, a2⟩ r hr hr1
          rcases List.mem_append.1 hr with hr | hr
          · exact a1 r hr hr1
          · simp at hr; rw [hr]; exact a2
        · intro a1
          exact ⟨fun r hr => a1 r (List.mem_append_left _ hr), a1 p (by simp) h⟩
    · rw [if_neg h]
      rcases ih with ⟨h1, h2, h3⟩ | ⟨h1, ⟨q, hq, hq1, hq2⟩, h3⟩
      · refine .inl ⟨h1, h2, fun q hq => ?_⟩
        rcases List.mem_append.1 hq with hq | hq
        · exact h3 q hq
        · simp at hq; rw [hq]; exact h
      · refine .inr ⟨h1, ⟨q, List.mem_append_left _ hq, hq1, hq2⟩, ?_⟩
        rw [h3]
        constructor
        · intro a1 r hr hr1
          rcases List.mem_append.1 hr with hr | hr
          · exact a1 r hr hr1
          · simp at hr; rw [hr] at hr1; exact absurd hr1 h
        · intro a1 r hr
          exact a1 r (List.mem_append_left _ hr)
theorem alone_iff (vv : Nat → Int) (l : List Nat) : (fold3 kd vv l).alone = true ↔ ∀ p q, p ∈ l → q ∈ l → 0 ≤ vv p → 0 ≤ vv q → vv p = vv q := by
  rcases alone_inv (kd := kd) vv l with ⟨_, h2, h3⟩ | ⟨h1, ⟨q, hq, hq1, hq2⟩, h3⟩
  · rw [h2]
    simp only [true_iff]
    intro p q hp _ h
    exact absurd h (h3 p hp)
  · rw [h3]
    constructor
    · intro a p r hp hr hp1 hr1
      rw [a p hp hp1, a r hr hr1]
    · intro a p hp hp1
      rw [← hq2]; exact a p q hp hq hp1 hq1

/-- Two nodes of one item, one of which is written. -/
abbrev wnC (tx : Nat → Nat) (kd nd : Nat → Int) (l : List Nat) : Bool := (fold3 kd (fun p => nd (tx p)) l).written && !(fold3 kd (fun p => nd (tx p)) l).alone

theorem wn_iff {T : Nat} (inj : ∀ t t', t < T → t' < T → 0 ≤ nd t → nd t = nd t' → t = t') (txT : ∀ p, tx p < T) (l : List Nat) : wnC tx kd nd l = true ↔ (m7 tx kd nd l).any = true ∧ 2 ≤ (m7 tx kd nd l).cnt := by
  unfold wnC
  rw [Bool.and_eq_true, written_iff, any_iff, cnt_iff]
  refine and_congr Iff.rfl ?_
  rw [Bool.not_eq_true', ← Bool.not_eq_true, alone_iff]
  constructor
  · intro h
    apply Classical.byContradiction
    intro hn
    refine h fun p q hp hq hp1 hq1 => ?_
    apply Classical.byContradiction
    intro hne
    exact hn ⟨p, q, hp, hq, hp1, hq1, fun e => hne (by rw [e])⟩
  · rintro ⟨p, q, hp, hq, hp1, hq1, hne⟩ h
    exact hne (inj _ _ (txT p) (txT q) hp1 (h p q hp hq hp1 hq1))

theorem fold4_snoc (vv : Nat → Int) (x : Nat) (sw sa : Bool) (s : S4) (l : List Nat) (p : Nat) : fold4 kd vv x sw sa s (l ++ [p]) = step4 kd vv x sw sa (fold4 kd vv x sw sa s l) p := by simp [fold4, List.foldl_append]

/-- Where two meet at a written item: they are nodes; nothing else turns. -/
theorem fold4_wn (vv : Nat → Int) (x : Nat) (sw sa : Bool) (h : (sw && !sa) = true) (s0 : S4) (l : List Nat) :
    (fold4 kd vv x sw sa s0 l).steps = s0.steps ∧ (fold4 kd vv x sw sa s0 l).counted = s0.counted ∧ ∀ v, (0 ≤ (fold4 kd vv x sw sa s0 l).searched v ↔ 0 ≤ s0.searched v ∨ ∃ p, p ∈ l ∧ 0 ≤ vv p ∧ (vv p).toNat = v) := by
  induction l using snoc_ind
  case h0 => simp [fold4]
  case hs l p ih =>
    rw [fold4_snoc]
    generalize fold4 kd vv x sw sa s0 l = s at *
    obtain ⟨i1, i2, i3⟩ := ih
    unfold step4
    by_cases hv : vv p < 0
    · rw [if_pos hv]
      refine ⟨i1, i2, fun v => ?_⟩
      rw [i3 v]
      constructor
      · rintro (a | ⟨q, hq, a⟩)
        · exact .inl a
        · exact .inr ⟨q, List.mem_append_left _ hq, a⟩
      · rintro (a | ⟨q, hq, a, b⟩)
        · exact .inl a
        · rcases List.mem_append.1 hq with hq | hq
          · exact .inr ⟨q, hq, a, b⟩
          · simp at hq; subst hq; omega
    · rw [if_neg hv, if_pos h]
      refine ⟨i1, i2, fun v => ?_⟩
      dsimp only
      unfold upd
      by_cases e : v = (vv p).toNat
      · rw [if_pos e]
        constructor
        · intro _; exact .inr ⟨p, by simp, by omega, e.symm⟩
        · intro _; omega
      · rw [if_neg e, i3 v]
        constructor
        · rintro (a | ⟨q, hq, a⟩)
          · exact .inl a
          · exact .inr ⟨q, List.mem_append_left _ hq, a⟩
        · rintro (a | ⟨q, hq, a, b⟩)
          · exact .inl a
          · rcases List.mem_append.1 hq with hq | hq
            · exact .inr ⟨q, hq, a, b⟩
            · simp at hq; subst hq; exact absurd b.symm e

/-- What one item adds to the steps of one who reads before it writes (r), and writes (w). -/
def gst (s : Int) (r w : Bool) : Int := match r, w with
  | false, false => s
  | true, false => IntKind.u32.wrap (s + 1)
  | false, true => IntKind.u32.wrap (s + 2)
  | true, true => IntKind.u32.wrap (IntKind.u32.wrap (s + 1) + 2)

theorem toNat_inj {T : Nat} (inj : ∀ t t', t < T → t' < T → 0 ≤ nd t → nd t = nd t' → t = t') {t t' : Nat} (h : t < T) (h' : t' < T) (h0 : 0 ≤ nd t) (h0' : 0 ≤ nd t') (e : (nd t).toNat = (nd t').toNat) : t = t' := inj t t' h h' h0 (by omega)

/-- Where no two meet at a written item: the steps, one by one. 'L' is the whole list, 'l' what has been gone through. -/
theorem fold4_no {T : Nat} (inj : ∀ t t', t < T → t' < T → 0 ≤ nd t → nd t = nd t' → t = t') (txT : ∀ p, tx p < T) (x : Nat) (sw sa : Bool) (h : (sw && !sa) = false) (s0 : S4) (hw0 : s0.wrote = false) (hc0 : ∀ v, s0.counted v ≠ (x : Int) + 1) (L : List Nat)
    (hL : (∀ p, p ∈ L → 0 ≤ nd (tx p) → kd p ≠ 2) ∨ ∀ p q, p ∈ L → q ∈ L → 0 ≤ nd (tx p) → 0 ≤ nd (tx q) → tx p = tx q) (l : List Nat) (hl : ∀ p, p ∈ l → p ∈ L) :
    (fold4 kd (fun p => nd (tx p)) x sw sa s0 l).searched = s0.searched ∧ (fold4 kd (fun p => nd (tx p)) x sw sa s0 l).wrote = (m7 tx kd nd l).any ∧
    ∀ t, t < T → 0 ≤ nd t → (fold4 kd (fun p => nd (tx p)) x sw sa s0 l).steps (nd t).toNat = gst (s0.steps (nd t).toNat) ((m7 tx kd nd l).rbw t) ((m7 tx kd nd l).wr t) ∧
      (fold4 kd (fun p => nd (tx p)) x sw sa s0 l).counted (nd t).toNat = if (m7 tx kd nd l).rbw t = true then (x : Int) + 1 else s0.counted (nd t).toNat := by
  induction l using snoc_ind
  case h0 => exact ⟨rfl, hw0, fun t _ _ => ⟨rfl, by simp [fold4, m7]⟩⟩
  case hs l p ih =>
    obtain ⟨i1, i2, i3⟩ := ih (fun q hq => hl q (List.mem_append_left _ hq))
    have hany := any_iff (tx := tx) (kd := kd) (nd := nd) l
    have hwr := wr_iff (tx := tx) (kd := kd) (nd := nd) l
    have hpL : p ∈ L := hl p (by simp)
    have hlL : ∀ q, q ∈ l → q ∈ L := fun q hq => hl q (List.mem_append_left _ hq)
    -- whoever comes up now is the only writer, or there is none
    have K : 0 ≤ nd (tx p) → (m7 tx kd nd l).any = (m7 tx kd nd l).wr (tx p) := by
      intro hp
      rw [Bool.eq_iff_iff, hany, hwr (tx p)]
      constructor
      · rintro ⟨q, hq, h1, h2⟩
        rcases hL with hL | hL
        · exact absurd h2 (hL q (hlL q hq) h1)
        · exact ⟨q, hq, h1, hL q p (hlL q hq) hpL h1 hp, h2⟩
      · rintro ⟨q, hq, h1, _, h2⟩
        exact ⟨q, hq, h1, h2⟩
    rw [fold4_snoc, m7_snoc]
    generalize fold4 kd (fun p => nd (tx p)) x sw sa s0 l = s at *
    generalize m7 tx kd nd l = mm at *
    unfold step4 step7n
    by_cases hv : nd (tx p) < 0
    · rw [if_pos hv, if_pos hv]
      exact ⟨i1, i2, i3⟩
    · have hv0 : 0 ≤ nd (tx p) := by omega
      have hK := K hv0
      have ip := i3 (tx p) (txT p) hv0
      rw [if_neg hv, if_neg hv, if_neg (by simp [h])]
      have other : ∀ t, t < T → 0 ≤ nd t → t ≠ tx p → ¬ (nd t).toNat = (nd (tx p)).toNat := fun t ht h0 hne e => hne (toNat_inj inj ht (txT p) h0 hv0 e)
      by_cases hk : kd p = 2
      · rw [if_pos hk, if_pos hk]
        refine ⟨i1, rfl, fun t ht h0 => ?_⟩
        dsimp only
        by_cases e : t = tx p
        · subst e
          refine ⟨?_, ip.2⟩
          rw [upd_same, i2, hK]
          cases hw : mm.wr (tx p)
          · simp only [Bool.false_eq_true, if_false]
            rw [upd_same, ip.1, hw]
            cases mm.rbw (tx p) <;> rfl
          · simp only [if_true]
            rw [ip.1, hw]
        · have hne := other t ht h0 e
          refine ⟨?_, (i3 t ht h0).2⟩
          rw [upd_ne _ _ e]
          rw [← (i3 t ht h0).1]
          split
          · rfl
          · rw [upd_ne _ _ hne]
      · rw [if_neg hk, if_neg hk]
        cases hw : mm.wr (tx p)
        · rw [hw] at hK
          rw [hK] at i2
          cases hr : mm.rbw (tx p)
          · have hcnt : s.counted (nd (tx p)).toNat ≠ (x : Int) + 1 := by
              rw [ip.2, hr]; simp; exact hc0 _
            rw [if_pos ⟨i2, hcnt⟩]
            simp only [Bool.false_eq_true, if_false]
            refine ⟨i1, by rw [i2, hK], fun t ht h0 => ?_⟩
            by_cases e : t = tx p
            · subst e
              rw [upd_same, upd_same, upd_same, ip.1, hr, hw]
              exact ⟨rfl, by simp⟩
            · have hne := other t ht h0 e
              rw [upd_ne _ _ hne, upd_ne _ _ hne, upd_ne _ _ e]
              exact i3 t ht h0
          · have hcnt : ¬ (s.wrote = false ∧ s.counted (nd (tx p)).toNat ≠ (x : Int) + 1) := by
              rw [ip.2, hr]; simp
            rw [if_neg hcnt]
            simp only [Bool.false_eq_true, if_false]
            refine ⟨i1, by rw [i2, hK], fun t ht h0 => ?_⟩
            by_cases e : t = tx p
            · subst e
              rw [upd_same, ip.1, ip.2, hr]
              exact ⟨rfl, by simp⟩
            · rw [upd_ne _ _ e]
              exact i3 t ht h0
        · rw [hw] at hK
          rw [hK] at i2
          rw [if_neg (by rw [i2]; simp)]
          simp only [if_true]
          exact ⟨i1, by rw [i2, hK], i3⟩
end
end Go.Proofs.Ybulkdrci.Pl
