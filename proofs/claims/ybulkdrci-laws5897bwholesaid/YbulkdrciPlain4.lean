import Derived.Test.YbulkdrciPlain3
namespace Go.Proofs.Ybulkdrci.Pl
open Go Go.Proofs.Ybulkdrci.Sym
section
variable {tx it : Nat → Nat} {kd nd : Nat → Int} {T : Nat}

theorem wrap12 (s : Int) : IntKind.u32.wrap (IntKind.u32.wrap (s + 2) + 1) = IntKind.u32.wrap (IntKind.u32.wrap (s + 1) + 2) := by
  simp only [IntKind.wrap, IntKind.bits, IntKind.signed]
  simp
  omega

/-- What the model's second loop has done to one transaction's node. -/
theorem fold8m_at (inj : ∀ t t', t < T → t' < T → 0 ≤ nd t → nd t = nd t' → t = t') (r : S7m) (htch : ∀ t, r.touch t = true → 0 ≤ nd t) (s0 : S8m) (k : Nat) (hk : k ≤ T) : ∀ t, t < T → 0 ≤ nd t →
    ((fold8m nd r s0 k).isN (nd t).toNat = true ↔ s0.isN (nd t).toNat = true ∨ (t < k ∧ r.touch t = true ∧ r.any = true ∧ 2 ≤ r.cnt)) ∧
    (fold8m nd r s0 k).steps (nd t).toNat = if t < k ∧ r.touch t = true ∧ ¬ (r.any = true ∧ 2 ≤ r.cnt) then (if r.wr t = true then (if r.rbw t = true then IntKind.u32.wrap (IntKind.u32.wrap (s0.steps (nd t).toNat + 2) + 1) else IntKind.u32.wrap (s0.steps (nd t).toNat + 2)) else IntKind.u32.wrap (s0.steps (nd t).toNat + 1)) else s0.steps (nd t).toNat := by
  induction k with
  | zero => intro t ht h0; simp [fold8m]
  | succ k ih =>
    intro t ht h0
    have i := ih (by omega) t ht h0
    rw [fold8m_succ]
    generalize fold8m nd r s0 k = s at *
    obtain ⟨i1, i2⟩ := i
    have hne : r.touch k = true → t ≠ k → ¬ (nd t).toNat = (nd k).toNat := fun h1 h2 e => h2 (toNat_inj inj ht (by omega) h0 (htch k h1) e)
    unfold step8m
    by_cases h1 : r.touch k = false
    · rw [if_pos h1]
      constructor
      · rw [i1]
        constructor
        · rintro (a | ⟨a, b⟩)
          · exact .inl a
          · exact .inr ⟨by omega, b⟩
        · rintro (a | ⟨a, b, c⟩)
          · exact .inl a
          · refine .inr ⟨?_, b, c⟩
            by_cases e : t = k
            · subst e; rw [h1] at b; cases b
            · omega
      · rw [i2]
        by_cases e : t = k
        · subst e
          rw [if_neg (by omega), if_neg (by rw [h1]; simp)]
        · by_cases hlt : t < k
          · have : t < k + 1 := by omega
            simp [hlt, this]
          · have : ¬ t < k + 1 := by omega
            simp [hlt, this]
    · have h1' : r.touch k = true := by simpa using h1
      rw [if_neg h1]
      have lt_iff : ∀ {P : Prop}, t ≠ k → ((t < k + 1 ∧ P) ↔ (t < k ∧ P)) := fun hne' => by
        constructor
        · rintro ⟨a, b⟩; exact ⟨by omega, b⟩
        · rintro ⟨a, b⟩; exact ⟨by omega, b⟩
      by_cases hw : r.any = true ∧ 2 ≤ r.cnt
      · rw [if_pos hw]
        constructor
        · dsimp only
          by_cases e : t = k
          · subst e
            rw [upd_same]
            simp only [true_iff]
            exact .inr ⟨by omega, h1', hw⟩
          · rw [upd_ne _ _ (hne h1' e), i1, lt_iff e]
        · dsimp only
          rw [i2, if_neg (by rintro ⟨_, _, c⟩; exact c hw), if_neg (by rintro ⟨_, _, c⟩; exact c hw)]
      · rw [if_neg hw]
        by_cases e : t = k
        · subst e
          rw [if_neg (by omega)] at i2
          have hnot : ∀ {P Q : Prop}, (P ∨ (t < t ∧ Q)) ↔ P := by
            intro P Q
            constructor
            · rintro (a | ⟨a, _⟩)
              · exact a
              · omega
            · exact .inl
          rw [hnot] at i1
          have hiso : ∀ (a : Bool), (a = true ↔ s0.isN (nd t).toNat = true) → (a = true ↔ s0.isN (nd t).toNat = true ∨ (t < t + 1 ∧ r.touch t = true ∧ r.any = true ∧ 2 ≤ r.cnt)) := by
            intro a ha
            rw [ha]
            constructor
            · exact .inl
            · rintro (b | ⟨_, _, c⟩)
              · exact b
              · exact absurd c hw
          have hcond : t < t + 1 ∧ r.touch t = true ∧ ¬ (r.any = true ∧ 2 ≤ r.cnt) := ⟨by omega, h1', hw⟩
          simp only [if_pos hcond]
          cases h3 : r.wr t
          · simp only [Bool.false_eq_true, if_false]
            refine ⟨hiso _ i1, ?_⟩
            rw [upd_same, i2]
          · simp only [if_true]
            cases h4 : r.rbw t
            · simp only [Bool.false_eq_true, if_false]
              refine ⟨hiso _ i1, ?_⟩
              rw [upd_same, i2]
            · simp only [if_true]
              refine ⟨hiso _ i1, ?_⟩
              rw [upd_same, upd_same, i2]
        · have hn := hne h1' e
          have e1 : (t < k + 1 ∧ r.touch t = true ∧ ¬ (r.any = true ∧ 2 ≤ r.cnt)) = (t < k ∧ r.touch t = true ∧ ¬ (r.any = true ∧ 2 ≤ r.cnt)) := propext (lt_iff e)
          rw [lt_iff e]
          simp only [e1]
          by_cases h3 : r.wr k = true
          · rw [if_pos h3]
            by_cases h4 : r.rbw k = true
            · rw [if_pos h4]
              refine ⟨i1, ?_⟩
              dsimp only
              rw [upd_ne _ _ hn, upd_ne _ _ hn]; exact i2
            · rw [if_neg h4]
              refine ⟨i1, ?_⟩
              dsimp only
              rw [upd_ne _ _ hn]; exact i2
          · rw [if_neg h3]
            refine ⟨i1, ?_⟩
            dsimp only
            rw [upd_ne _ _ hn]; exact i2

theorem fold4_counted (vv : Nat → Int) (x : Nat) (sw sa : Bool) (s : S4) (h : ∀ v, s.counted v ≤ x) (l : List Nat) : ∀ v, (fold4 kd vv x sw sa s l).counted v ≤ (x : Int) + 1 := by
  induction l using snoc_ind
  case h0 => intro v; have := h v; simp [fold4]; omega
  case hs l p ih =>
    intro v
    rw [fold4_snoc]
    generalize fold4 kd vv x sw sa s l = s' at *
    have hv := ih v
    unfold step4
    split
    · exact hv
    · split
      · exact hv
      · split
        · exact hv
        · split
          · dsimp only; unfold upd; split
            · omega
            · exact hv
          · exact hv

/-- The two ways agree, item by item. -/
theorem items_agree (n : Nat) (inj : ∀ t t', t < T → t' < T → 0 ≤ nd t → nd t = nd t' → t = t') (txT : ∀ p, tx p < T) (k : Nat) :
    (∀ v, (fold2 n it kd (fun p => nd (tx p)) k).counted v ≤ k) ∧ ∀ t, t < T → 0 ≤ nd t →
      (0 ≤ (fold2 n it kd (fun p => nd (tx p)) k).searched (nd t).toNat ↔ (fold6m n T it tx kd nd k).isN (nd t).toNat = true) ∧ (fold2 n it kd (fun p => nd (tx p)) k).steps (nd t).toNat = (fold6m n T it tx kd nd k).steps (nd t).toNat := by
  induction k with
  | zero =>
    refine ⟨fun v => by simp [fold2], fun t ht h0 => ?_⟩
    simp [fold2, fold6m]
  | succ k ih =>
    obtain ⟨ic, im⟩ := ih
    rw [fold2_succ, fold6m_succ]
    generalize fold2 n it kd (fun p => nd (tx p)) k = s at *
    generalize fold6m n T it tx kd nd k = m at *
    unfold step2 step6m
    rw [fold7m_eq]
    generalize hl : opsOf n it k = l
    have hwn := wn_iff (tx := tx) (kd := kd) (nd := nd) inj txT l
    have htch : ∀ t, (m7 tx kd nd l).touch t = true → 0 ≤ nd t := by
      intro t ht
      obtain ⟨p, _, h1, rfl⟩ := (touch_iff l t).1 ht
      exact h1
    have h8 := fold8m_at (T := T) inj (m7 tx kd nd l) htch m T (Nat.le_refl _)
    dsimp only
    refine ⟨fun v => by have := fold4_counted (kd := kd) (fun p => nd (tx p)) k (fold3 kd (fun p => nd (tx p)) l).written (fold3 kd (fun p => nd (tx p)) l).alone ⟨false, s.steps, s.searched, s.counted⟩ ic l v; simpa using this, fun t ht h0 => ?_⟩
    obtain ⟨h81, h82⟩ := h8 t ht h0
    obtain ⟨im1, im2⟩ := im t ht h0
    unfold wnC at hwn
    cases hb : (fold3 kd (fun p => nd (tx p)) l).written && !(fold3 kd (fun p => nd (tx p)) l).alone
    · -- no two meet at a written item
      rw [hb] at hwn
      have hno : ¬ ((m7 tx kd nd l).any = true ∧ 2 ≤ (m7 tx kd nd l).cnt) := fun h => by simp [h] at hwn
      have hL : (∀ p, p ∈ l → 0 ≤ nd (tx p) → kd p ≠ 2) ∨ ∀ p q, p ∈ l → q ∈ l → 0 ≤ nd (tx p) → 0 ≤ nd (tx q) → tx p = tx q := by
        rw [any_iff, cnt_iff] at hno
        by_cases ha : ∃ p, p ∈ l ∧ 0 ≤ nd (tx p) ∧ kd p = 2
        · right
          intro p q hp hq h1 h2
          apply Classical.byContradiction
          intro hne
          exact hno ⟨ha, p, q, hp, hq, h1, h2, hne⟩
        · left
          intro p hp h1 h2
          exact ha ⟨p, hp, h1, h2⟩
      have h4 := fold4_no (tx := tx) (kd := kd) (nd := nd) inj txT k _ _ hb ⟨false, s.steps, s.searched, s.counted⟩ rfl (fun v => by have := ic v; simp; omega) l hL l (fun _ h => h)
      obtain ⟨h41, _, h43⟩ := h4
      obtain ⟨h5, _⟩ := h43 t ht h0
      obtain ⟨rt1, rt2, rt3⟩ := rb_touch (tx := tx) (kd := kd) (nd := nd) l t
      constructor
      · rw [h41, h81, im1]
        constructor
        · exact .inl
        · rintro (a | ⟨_, _, c⟩)
          · exact a
          · exact absurd c hno
      · rw [h5, h82]
        dsimp only
        rw [im2]
        cases hto : (m7 tx kd nd l).touch t
        · have e1 : (m7 tx kd nd l).rbw t = false := by
            cases h : (m7 tx kd nd l).rbw t
            · rfl
            · rw [rt1 h] at hto; cases hto
          have e2 : (m7 tx kd nd l).wr t = false := by
            cases h : (m7 tx kd nd l).wr t
            · rfl
            · rw [rt3 h] at hto; cases hto
          rw [e1, e2, if_neg (by simp)]
          rfl
        · rw [if_pos ⟨ht, rfl, hno⟩]
          cases hw : (m7 tx kd nd l).wr t
          · have hr : (m7 tx kd nd l).rbw t = true := by
              rcases rt2 hto with h | h
              · rw [hw] at h; cases h
              · exact h
            rw [hr]
            simp [gst]
          · cases hr : (m7 tx kd nd l).rbw t
            · simp [gst]
            · simp only [gst, if_true]
              exact (wrap12 _).symm
    · -- two meet
      rw [hb] at hwn
      have hyes := hwn.1 rfl
      obtain ⟨h41, h42, h43⟩ := fold4_wn (kd := kd) (fun p => nd (tx p)) k _ _ hb ⟨false, s.steps, s.searched, s.counted⟩ l
      constructor
      · rw [h43, h81, im1]
        refine or_congr Iff.rfl ?_
        constructor
        · rintro ⟨p, hp, h1, h2⟩
          have : tx p = t := toNat_inj inj (txT p) ht h1 h0 h2
          exact ⟨ht, (touch_iff l t).2 ⟨p, hp, h1, this⟩, hyes⟩
        · rintro ⟨_, h1, _⟩
          obtain ⟨p, hp, h2, rfl⟩ := (touch_iff l t).1 h1
          exact ⟨p, hp, h2, rfl⟩
      · rw [h41, h82, if_neg (by rintro ⟨_, _, c⟩; exact c hyes)]
        exact im2
end

/-! ### The nodes of the committed -/
theorem nd_inj (alive : Nat → Bool) (t t' : Nat) (h0 : 0 ≤ ndOf alive t) (e : ndOf alive t = ndOf alive t') : t = t' := by
  have key : ∀ a b : Nat, 0 ≤ ndOf alive a → ndOf alive a = ndOf alive b → ¬ a < b := by
    intro a b ha hab hlt
    unfold ndOf at *
    by_cases h1 : alive a = true
    · rw [if_pos h1] at ha hab
      by_cases h2 : alive b = true
      · rw [if_pos h2] at hab
        have := cntTo_mono alive (show a + 1 ≤ b from hlt)
        rw [cntTo_succ, if_pos h1] at this
        omega
      · rw [if_neg h2] at hab; omega
    · rw [if_neg h1] at ha; omega
  have k1 := key t t' h0 e
  have k2 := key t' t (e ▸ h0) e.symm
  omega
theorem nd_surj (alive : Nat → Bool) : ∀ (T v : Nat), v < cntTo alive T → ∃ t, t < T ∧ ndOf alive t = (v : Int) := by
  intro T
  induction T with
  | zero => intro v hv; simp [cntTo] at hv
  | succ T ih =>
    intro v hv
    rw [cntTo_succ] at hv
    by_cases h : alive T = true
    · rw [if_pos h] at hv
      by_cases e : v = cntTo alive T
      · exact ⟨T, by omega, by unfold ndOf; rw [if_pos h, e]⟩
      · obtain ⟨t, h1, h2⟩ := ih v (by omega)
        exact ⟨t, by omega, h2⟩
    · rw [if_neg h] at hv
      obtain ⟨t, h1, h2⟩ := ih v hv
      exact ⟨t, by omega, h2⟩

/-! ### From the nodes to the lists -/
theorem fold5_at (se : Nat → Int) (v : Nat) (hneg : ∀ q, -1 ≤ se q) : ∀ k, v < k → (fold5 se k).searched v = if 0 ≤ se v then ((fold5 se v).nodes : Int) else -1 := by
  intro k
  induction k with
  | zero => omega
  | succ k ih =>
    intro hv
    rw [fold5_succ]
    by_cases e : v = k
    · subst e
      have hl := fold5_later se v v (Nat.le_refl _)
      unfold step5
      rw [hl]
      by_cases h : 0 ≤ se v
      · rw [if_pos h, if_pos h]; exact upd_same _ _ _
      · rw [if_neg h, if_neg h, hl]; have := hneg v; omega
    · have i := ih (by omega)
      unfold step5
      split
      · dsimp only; rw [upd_ne _ _ e]; exact i
      · exact i
theorem lists_agree {se0 st st' txl : Nat → Int} {isN : Nat → Bool} {C : Nat} (hneg : ∀ q, -1 ≤ se0 q) (hs : ∀ v, v < C → (0 ≤ se0 v ↔ isN v = true)) (ht : ∀ v, v < C → st v = st' v) (k : Nat) (hk : k ≤ C) :
    (fold6 (fold5 se0 C).searched st txl k).names = (fold9m isN st' txl k).names ∧ (fold6 (fold5 se0 C).searched st txl k).al = (fold9m isN st' txl k).al ∧ (fold6 (fold5 se0 C).searched st txl k).als = (fold9m isN st' txl k).als ∧ (fold5 se0 k).nodes = (fold9m isN st' txl k).names.length := by
  induction k with
  | zero => simp [fold6, fold9m, fold5]
  | succ k ih =>
    obtain ⟨i1, i2, i3, i4⟩ := ih (by omega)
    have h5 := fold5_at se0 k hneg C (by omega)
    have hl := fold5_later se0 k k (Nat.le_refl _)
    rw [fold6_succ, fold9m_succ, fold5_succ]
    unfold step6 step9m step5
    rw [hl]
    by_cases h : 0 ≤ se0 k
    · have h' := (hs k (by omega)).1 h
      rw [if_pos h] at h5
      rw [if_pos (by rw [h5]; omega), if_pos h', if_pos h]
      refine ⟨by simp [i1], i2, i3, by simp [i4]⟩
    · have h' : ¬ isN k = true := fun e => h ((hs k (by omega)).2 e)
      rw [if_neg h] at h5
      rw [if_neg (by rw [h5]; omega), if_neg h', if_neg h]
      refine ⟨i1, by simp [i2], by simp [i3, ht k (by omega)], i4⟩
theorem rank_at {isN : Nat → Bool} {st txl : Nat → Int} (v : Nat) : ∀ k, v < k → (fold9m isN st txl k).rank v = if isN v = true then ((fold9m isN st txl v).names.length : Int) else -1 := by
  intro k
  induction k with
  | zero => omega
  | succ k ih =>
    intro hv
    rw [fold9m_succ]
    unfold step9m
    by_cases e : v = k
    · subst e
      by_cases h : isN v = true
      · rw [if_pos h, if_pos h]; exact upd_same _ _ _
      · rw [if_neg h, if_neg h]; exact upd_same _ _ _
    · have i := ih (by omega)
      split
      · dsimp only; rw [upd_ne _ _ e]; exact i
      · dsimp only; rw [upd_ne _ _ e]; exact i
theorem fold7_at (se nd : Nat → Int) (t : Nat) : ∀ k, t < k → fold7 se nd k t = if 0 ≤ nd t then se (nd t).toNat else nd t := by
  intro k
  induction k with
  | zero => omega
  | succ k ih =>
    intro hv
    rw [fold7_succ]
    unfold step7
    by_cases e : t = k
    · subst e
      have hl := fold7_later se nd t t (Nat.le_refl _)
      rw [hl]
      by_cases h : 0 ≤ nd t
      · rw [if_pos h, if_pos h]; exact upd_same _ _ _
      · rw [if_neg h, if_neg h, hl]
    · have i := ih (by omega)
      split
      · rw [upd_ne _ _ e]; exact i
      · exact i
theorem fold10m_at (nd rank : Nat → Int) (t : Nat) : ∀ k, t < k → fold10m nd rank k t = if 0 ≤ nd t then rank (nd t).toNat else -1 := by
  intro k
  induction k with
  | zero => omega
  | succ k ih =>
    intro hv
    rw [fold10m_succ]
    unfold step10m
    by_cases e : t = k
    · subst e
      by_cases h : 0 ≤ nd t
      · rw [if_pos h, if_pos h]; exact upd_same _ _ _
      · rw [if_neg h, if_neg h]; exact upd_same _ _ _
    · have i := ih (by omega)
      split
      · rw [upd_ne _ _ e, upd_ne _ _ e]; exact i
      · rw [upd_ne _ _ e]; exact i
end Go.Proofs.Ybulkdrci.Pl
