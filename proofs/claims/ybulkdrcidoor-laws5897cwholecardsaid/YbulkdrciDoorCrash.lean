import Derived.Test.YbulkdrciDoorForms3
namespace Go.Proofs.YbulkdrciDoor
open Go Go.RowKit Go.Proofs.YbulkdrciDoor.Sym
set_option linter.unusedVariables false
set_option linter.unusedSimpArgs false

/-- What crashFormOf has found so far. -/
structure S6 where
  (c : CF)
  (most : Int)
  (settled : Bool)
def s6start : S6 := ⟨⟨bNone, bNone, false, 0⟩, -1, false⟩
def step6 (Mf : Nat → Nat) (s : S6) (i : Nat) : S6 :=
  if s.most < Mf i then ⟨cf i, Mf i, true⟩ else if (Mf i : Int) = s.most ∧ (cf i).coord ≠ s.c.coord then { s with settled := false } else s
def fold6 (Mf : Nat → Nat) : Nat → S6
  | 0 => s6start
  | i + 1 => step6 Mf (fold6 Mf i) i
/-- The line is written in form i. -/
def exact6 (Mf : Nat → Nat) (n i : Nat) : Prop := Mf i = (cf i).len ∧ Mf i = n
theorem fold6_most (Mf : Nat → Nat) (hM : ∀ i, Mf i ≤ 5) (i : Nat) : -1 ≤ (fold6 Mf i).most ∧ (fold6 Mf i).most ≤ 5 := by
  induction i with
  | zero => exact ⟨by show (-1 : Int) ≤ -1; omega, by show (-1 : Int) ≤ 5; omega⟩
  | succ i ih =>
    unfold fold6 step6
    split
    · have := hM i
      exact ⟨by simp only; omega, by simp only; omega⟩
    · split <;> exact ih

theorem pf10 : plainFunc Ybad.prog 10 = true := by kernel_rfl
theorem pf11 : plainFunc Ybad.prog 11 = true := by kernel_rfl

abbrev E6 (b2 gb go gc ba n cc i : Nat) (s : S6) : Env := [(0, .slice (some ⟨ba, 0, none⟩) n cc), (2, .pointer (some ⟨b2, 0, none⟩)), (3, .bool s.settled), (4, .int .i64 s.most), (9, .slice (some ⟨gb, go, none⟩) 6 gc), (10, .int .i64 (6 : Nat)), (11, .int .i64 i)]

section
variable {w0 : World} {Q : Exit → Act → World → Prop} {b2 b6 b7 gb g0 gc ba n cc i : Nat} {s : S6} {tt : Nat → ByteArray} {c : CF} {M : Nat}

/-- The words of one form, against the line. -/
theorem inner (hok : c.ok) (hM : IsM c n tt M) (ht : ∀ k, k < n → w0.cell? ⟨ba, 0 + k * 3 + 0, none⟩ = some (.string (tt k)))
    (h : SE (Q .normal) Ybad.f6.ntmps ((6, .pointer (some ⟨b6, 0, none⟩)) :: (7, .slice (some ⟨b7, 0, none⟩) c.len c.len) :: (8, .int .i64 M) :: E6 b2 gb g0 gc ba n cc i s) w0 [] [(b2, row 30 s.c.cells), (b6, row 30 c.cells), (b7, row 9 c.words)]) :
    SC Ybad.prog (sub [1, 1, 0, 1, 2, 2, 1, 1, 0, 2, 1, 1, 1, 0] (Ybad.f6.body.getD .skip)) Q Ybad.f6.ntmps ((6, .pointer (some ⟨b6, 0, none⟩)) :: (7, .slice (some ⟨b7, 0, none⟩) c.len c.len) :: (8, .int .i64 (0 : Nat)) :: E6 b2 gb g0 gc ba n cc i s) w0 [] [(b2, row 30 s.c.cells), (b6, row 30 c.cells), (b7, row 9 c.words)] := by
  obtain ⟨i26, hi, hz0, hz1, hz2⟩ := info_parts info26
  have hML := hM.le
  have hL5 := c.len_le
  refine SC.block ?_
  refine SC.loop (fun k : Nat => (6, .pointer (some ⟨b6, 0, none⟩)) :: (7, .slice (some ⟨b7, 0, none⟩) c.len c.len) :: (8, .int .i64 k) :: E6 b2 gb g0 gc ba n cc i s) (fun _ => [(b2, row 30 s.c.cells), (b6, row 30 c.cells), (b7, row 9 c.words)]) (fun k => k ≤ M) (fun k => M - k) 0 (Nat.zero_le _) (by repeat' (first | exact trivial | refine ⟨rfl, ?_⟩)) (List.Sublist.refl _) ?_
  intro k hk
  have hexit : ¬ go c n tt k → k = M := fun h => by
    rcases Nat.lt_or_ge k M with h1 | h1
    · exact absurd (hM.1 k h1) h
    · omega
  have hgo : go c n tt k → k < M := fun hg => by
    rcases Nat.lt_or_ge k M with h1 | h1
    · exact h1
    · have : k = M := by omega
      exact absurd (this ▸ hg) hM.2
  refine SC.seq ?_
  refine SC.cutG (fun g : Bool => (52, .bool g) :: (6, .pointer (some ⟨b6, 0, none⟩)) :: (7, .slice (some ⟨b7, 0, none⟩) c.len c.len) :: (8, .int .i64 k) :: E6 b2 gb g0 gc ba n cc i s) (fun _ => [(b2, row 30 s.c.cells), (b6, row 30 c.cells), (b7, row 9 c.words)]) (fun g => g = true ↔ go c n tt k) ?_ ?_
  · by_cases h1 : k < c.len
    · by_cases h2 : k < n
      · have hat := c.words_at h1
        by_cases h3 : k = 0
        · have hat' : c.words[k]? = some (.string bName) := by
            rw [hat, if_pos h3]
          refine SC.quiet mixed (by kernel_rfl) ?_
          refine SQ.y (OV.move rfl) rfl ?_
          refine SQ.y (OV.move rfl) rfl ?_
          refine SQ.y (OV.len u43 rfl) rfl ?_
          refine SQ.y ((OV.lss rfl rfl).yes (by omega)) rfl ?_
          refine SQ.y (OV.move rfl) rfl ?_
          refine SQ.yg rfl rfl (OV.move rfl) rfl ?_
          refine SQ.yg rfl rfl (OV.move rfl) rfl ?_
          refine SQ.yg rfl rfl (OV.len u23 rfl) rfl ?_
          refine SQ.yg rfl rfl ((OV.lss rfl rfl).yes (by omega)) rfl ?_
          refine SQ.y (OV.pickT rfl rfl) rfl ?_
          refine SQ.y (OV.move rfl) rfl ?_
          refine SQ.yg rfl rfl (OV.move rfl) rfl ?_
          refine SQ.yg rfl rfl (OV.move rfl) rfl ?_
          refine SQ.yg rfl rfl (OV.idx1 k u43 se43 rfl rfl rfl (by omega)) rfl ?_
          refine SQ.yg rfl rfl (OV.load 2 sc9 rfl rfl hat') rfl ?_
          refine SQ.yg rfl rfl ((OV.eqlS rfl rfl).yes rfl) rfl ?_
          refine SQ.yg rfl rfl (OV.move rfl) rfl ?_
          refine SQ.skip rfl rfl rfl ?_
          refine SQ.skip rfl rfl rfl ?_
          refine SQ.skip rfl rfl rfl ?_
          refine SQ.skip rfl rfl rfl ?_
          refine SQ.skip rfl rfl rfl ?_
          refine SQ.yg rfl rfl (OV.pickT rfl rfl) rfl ?_
          refine SQ.yg rfl rfl (OV.move rfl) rfl ?_
          refine SQ.skip rfl rfl rfl ?_
          refine SQ.skip rfl rfl rfl ?_
          refine SQ.skip rfl rfl rfl ?_
          refine SQ.skip rfl rfl rfl ?_
          refine SQ.skip rfl rfl rfl ?_
          refine SQ.skip rfl rfl rfl ?_
          refine SQ.skip rfl rfl rfl ?_
          refine SQ.skip rfl rfl rfl ?_
          refine SQ.skip rfl rfl rfl ?_
          refine SQ.skip rfl rfl rfl ?_
          refine SQ.yg rfl rfl (OV.pickT rfl rfl) rfl ?_
          refine SQ.y (OV.pickT rfl rfl) rfl ?_
          refine SQ.nil ?_
          exact SE.toG true (by simp; exact ⟨h1, h2, by omega⟩) (by repeat' (first | exact trivial | refine ⟨rfl, ?_⟩)) (List.Sublist.refl _)
        · rw [if_neg h3] at hat
          by_cases h4 : k = 4
          · have hat' : c.words[k]? = some (.string bP) := by
              rw [hat, if_pos h4]
            have hne : ¬ bP = bName := by decide
            refine SC.quiet mixed (by kernel_rfl) ?_
            refine SQ.y (OV.move rfl) rfl ?_
            refine SQ.y (OV.move rfl) rfl ?_
            refine SQ.y (OV.len u43 rfl) rfl ?_
            refine SQ.y ((OV.lss rfl rfl).yes (by omega)) rfl ?_
            refine SQ.y (OV.move rfl) rfl ?_
            refine SQ.yg rfl rfl (OV.move rfl) rfl ?_
            refine SQ.yg rfl rfl (OV.move rfl) rfl ?_
            refine SQ.yg rfl rfl (OV.len u23 rfl) rfl ?_
            refine SQ.yg rfl rfl ((OV.lss rfl rfl).yes (by omega)) rfl ?_
            refine SQ.y (OV.pickT rfl rfl) rfl ?_
            refine SQ.y (OV.move rfl) rfl ?_
            refine SQ.yg rfl rfl (OV.move rfl) rfl ?_
            refine SQ.yg rfl rfl (OV.move rfl) rfl ?_
            refine SQ.yg rfl rfl (OV.idx1 k u43 se43 rfl rfl rfl (by omega)) rfl ?_
            refine SQ.yg rfl rfl (OV.load 2 sc9 rfl rfl hat') rfl ?_
            refine SQ.yg rfl rfl ((OV.eqlS rfl rfl).no hne) rfl ?_
            refine SQ.yg rfl rfl (OV.move rfl) rfl ?_
            refine SQ.yg rfl rfl (OV.move rfl) rfl ?_
            refine SQ.yg rfl rfl (OV.move rfl) rfl ?_
            refine SQ.yg rfl rfl (OV.idx1 k u43 se43 rfl rfl rfl (by omega)) rfl ?_
            refine SQ.yg rfl rfl (OV.load 2 sc9 rfl rfl hat') rfl ?_
            refine SQ.yg rfl rfl ((OV.eqlS rfl rfl).yes rfl) rfl ?_
            refine SQ.yg rfl rfl (OV.pickF rfl rfl) rfl ?_
            refine SQ.yg rfl rfl (OV.move rfl) rfl ?_
            refine SQ.skip rfl rfl rfl ?_
            refine SQ.skip rfl rfl rfl ?_
            refine SQ.skip rfl rfl rfl ?_
            refine SQ.skip rfl rfl rfl ?_
            refine SQ.skip rfl rfl rfl ?_
            refine SQ.skip rfl rfl rfl ?_
            refine SQ.skip rfl rfl rfl ?_
            refine SQ.skip rfl rfl rfl ?_
            refine SQ.skip rfl rfl rfl ?_
            refine SQ.skip rfl rfl rfl ?_
            refine SQ.yg rfl rfl (OV.pickT rfl rfl) rfl ?_
            refine SQ.y (OV.pickT rfl rfl) rfl ?_
            refine SQ.nil ?_
            exact SE.toG true (by simp; exact ⟨h1, h2, by omega⟩) (by repeat' (first | exact trivial | refine ⟨rfl, ?_⟩)) (List.Sublist.refl _)
          · rw [if_neg h4] at hat
            have hiff : decide (c.mid k = tt k) = true ↔ go c n tt k := by
              rw [decide_eq_true_eq]
              refine ⟨fun h => ⟨h1, h2, .inr (.inr h)⟩, fun h => ?_⟩
              rcases h.2.2 with e | e | e
              · exact absurd e h3
              · exact absurd e h4
              · exact e
            refine SC.quiet mixed (by kernel_rfl) ?_
            refine SQ.y (OV.move rfl) rfl ?_
            refine SQ.y (OV.move rfl) rfl ?_
            refine SQ.y (OV.len u43 rfl) rfl ?_
            refine SQ.y ((OV.lss rfl rfl).yes (by omega)) rfl ?_
            refine SQ.y (OV.move rfl) rfl ?_
            refine SQ.yg rfl rfl (OV.move rfl) rfl ?_
            refine SQ.yg rfl rfl (OV.move rfl) rfl ?_
            refine SQ.yg rfl rfl (OV.len u23 rfl) rfl ?_
            refine SQ.yg rfl rfl ((OV.lss rfl rfl).yes (by omega)) rfl ?_
            refine SQ.y (OV.pickT rfl rfl) rfl ?_
            refine SQ.y (OV.move rfl) rfl ?_
            refine SQ.yg rfl rfl (OV.move rfl) rfl ?_
            refine SQ.yg rfl rfl (OV.move rfl) rfl ?_
            refine SQ.yg rfl rfl (OV.idx1 k u43 se43 rfl rfl rfl (by omega)) rfl ?_
            refine SQ.yg rfl rfl (OV.load 2 sc9 rfl rfl hat) rfl ?_
            refine SQ.yg rfl rfl ((OV.eqlS rfl rfl).no (hok k).2.1) rfl ?_
            refine SQ.yg rfl rfl (OV.move rfl) rfl ?_
            refine SQ.yg rfl rfl (OV.move rfl) rfl ?_
            refine SQ.yg rfl rfl (OV.move rfl) rfl ?_
            refine SQ.yg rfl rfl (OV.idx1 k u43 se43 rfl rfl rfl (by omega)) rfl ?_
            refine SQ.yg rfl rfl (OV.load 2 sc9 rfl rfl hat) rfl ?_
            refine SQ.yg rfl rfl ((OV.eqlS rfl rfl).no (hok k).2.2) rfl ?_
            refine SQ.yg rfl rfl (OV.pickF rfl rfl) rfl ?_
            refine SQ.yg rfl rfl (OV.move rfl) rfl ?_
            refine SQ.yg rfl rfl (OV.move rfl) rfl ?_
            refine SQ.yg rfl rfl (OV.move rfl) rfl ?_
            refine SQ.yg rfl rfl (OV.idx1 k u43 se43 rfl rfl rfl (by omega)) rfl ?_
            refine SQ.yg rfl rfl (OV.load 2 sc9 rfl rfl hat) rfl ?_
            refine SQ.yg rfl rfl (OV.move rfl) rfl ?_
            refine SQ.yg rfl rfl (OV.move rfl) rfl ?_
            refine SQ.yg rfl rfl (OV.idx k u23 hi hz1 rfl rfl rfl (by omega)) rfl ?_
            refine SQ.yg rfl rfl (OV.fld fo26_0 rfl) rfl ?_
            refine SQ.yg rfl rfl (OV.loadOld sc9 rfl (by simp) (ht k h2)) rfl ?_
            refine SQ.yg rfl rfl (OV.eqlS rfl rfl) rfl ?_
            refine SQ.yg rfl rfl (OV.pickF rfl rfl) rfl ?_
            refine SQ.y (OV.pickT rfl rfl) rfl ?_
            refine SQ.nil ?_
            exact SE.toG (decide (c.mid k = tt k)) hiff (by repeat' (first | exact trivial | refine ⟨rfl, ?_⟩)) (List.Sublist.refl _)
      · skip
        refine SC.quiet mixed (by kernel_rfl) ?_
        refine SQ.y (OV.move rfl) rfl ?_
        refine SQ.y (OV.move rfl) rfl ?_
        refine SQ.y (OV.len u43 rfl) rfl ?_
        refine SQ.y ((OV.lss rfl rfl).yes (by omega)) rfl ?_
        refine SQ.y (OV.move rfl) rfl ?_
        refine SQ.yg rfl rfl (OV.move rfl) rfl ?_
        refine SQ.yg rfl rfl (OV.move rfl) rfl ?_
        refine SQ.yg rfl rfl (OV.len u23 rfl) rfl ?_
        refine SQ.yg rfl rfl ((OV.lss rfl rfl).no (by omega)) rfl ?_
        refine SQ.y (OV.pickT rfl rfl) rfl ?_
        refine SQ.y (OV.move rfl) rfl ?_
        refine SQ.skip rfl rfl rfl ?_
        refine SQ.skip rfl rfl rfl ?_
        refine SQ.skip rfl rfl rfl ?_
        refine SQ.skip rfl rfl rfl ?_
        refine SQ.skip rfl rfl rfl ?_
        refine SQ.skip rfl rfl rfl ?_
        refine SQ.skipU rfl rfl rfl ?_
        refine SQ.skipU rfl rfl rfl ?_
        refine SQ.skipU rfl rfl rfl ?_
        refine SQ.skipU rfl rfl rfl ?_
        refine SQ.skipU rfl rfl rfl ?_
        refine SQ.skip rfl rfl rfl ?_
        refine SQ.skip rfl rfl rfl ?_
        refine SQ.skipU rfl rfl rfl ?_
        refine SQ.skipU rfl rfl rfl ?_
        refine SQ.skipU rfl rfl rfl ?_
        refine SQ.skipU rfl rfl rfl ?_
        refine SQ.skipU rfl rfl rfl ?_
        refine SQ.skipU rfl rfl rfl ?_
        refine SQ.skipU rfl rfl rfl ?_
        refine SQ.skipU rfl rfl rfl ?_
        refine SQ.skipU rfl rfl rfl ?_
        refine SQ.skipU rfl rfl rfl ?_
        refine SQ.skip rfl rfl rfl ?_
        refine SQ.y (OV.pickF rfl rfl) rfl ?_
        refine SQ.nil ?_
        exact SE.toG false (by simp; exact fun h => absurd h.2.1 h2) (by repeat' (first | exact trivial | refine ⟨rfl, ?_⟩)) (List.Sublist.refl _)
    · skip
      refine SC.quiet mixed (by kernel_rfl) ?_
      refine SQ.y (OV.move rfl) rfl ?_
      refine SQ.y (OV.move rfl) rfl ?_
      refine SQ.y (OV.len u43 rfl) rfl ?_
      refine SQ.y ((OV.lss rfl rfl).no (by omega)) rfl ?_
      refine SQ.y (OV.move rfl) rfl ?_
      refine SQ.skip rfl rfl rfl ?_
      refine SQ.skip rfl rfl rfl ?_
      refine SQ.skip rfl rfl rfl ?_
      refine SQ.skip rfl rfl rfl ?_
      refine SQ.y (OV.pickF rfl rfl) rfl ?_
      refine SQ.y (OV.move rfl) rfl ?_
      refine SQ.skip rfl rfl rfl ?_
      refine SQ.skip rfl rfl rfl ?_
      refine SQ.skip rfl rfl rfl ?_
      refine SQ.skip rfl rfl rfl ?_
      refine SQ.skip rfl rfl rfl ?_
      refine SQ.skip rfl rfl rfl ?_
      refine SQ.skipU rfl rfl rfl ?_
      refine SQ.skipU rfl rfl rfl ?_
      refine SQ.skipU rfl rfl rfl ?_
      refine SQ.skipU rfl rfl rfl ?_
      refine SQ.skipU rfl rfl rfl ?_
      refine SQ.skip rfl rfl rfl ?_
      refine SQ.skip rfl rfl rfl ?_
      refine SQ.skipU rfl rfl rfl ?_
      refine SQ.skipU rfl rfl rfl ?_
      refine SQ.skipU rfl rfl rfl ?_
      refine SQ.skipU rfl rfl rfl ?_
      refine SQ.skipU rfl rfl rfl ?_
      refine SQ.skipU rfl rfl rfl ?_
      refine SQ.skipU rfl rfl rfl ?_
      refine SQ.skipU rfl rfl rfl ?_
      refine SQ.skipU rfl rfl rfl ?_
      refine SQ.skipU rfl rfl rfl ?_
      refine SQ.skip rfl rfl rfl ?_
      refine SQ.y (OV.pickF rfl rfl) rfl ?_
      refine SQ.nil ?_
      exact SE.toG false (by simp; exact fun h => absurd h.1 h1) (by repeat' (first | exact trivial | refine ⟨rfl, ?_⟩)) (List.Sublist.refl _)
  intro g hg
  refine SC.cond rfl (fun e => ?_) (fun e => ?_)
  · have hlt := hgo (hg.1 e)
    refine SC.skip ?_
    refine SC.then ?_
    refine SC.block ?_
    refine SC.region ?_
    refine SL.y (OV.move rfl) rfl ?_
    refine SL.y (OV.add rfl rfl (wrap_i64 (by omega) (by omega))) rfl ?_
    refine SL.y (OV.assign rfl) rfl ?_
    refine SL.nil ?_
    refine SE.nb ?_
    exact SE.round (k + 1) (by omega) (by omega) (by repeat' (first | exact trivial | refine ⟨rfl, ?_⟩)) (List.Sublist.refl _)
  · have hx := hexit (fun h => by rw [hg.2 h] at e; cases e)
    subst hx
    refine SC.exit ?_
    refine SE.thenE (SE.thenE (SE.inBlock ?_))
    exact SE.weaken (by repeat' (first | exact trivial | refine ⟨rfl, ?_⟩)) (List.Sublist.refl _) h
end

/-- crashFormOf -/
theorem call6 {w : World} {gb g0 gc ba n cc : Nat} {tt : Nat → ByteArray} {Mf : Nat → Nat} (hM : ∀ i, i < 6 → IsM (cf i) n tt (Mf i)) (hM5 : ∀ i, Mf i ≤ 5)
    (ht : ∀ k, k < n → w.cell? ⟨ba, 0 + k * 3 + 0, none⟩ = some (.string (tt k)))
    (hG : w.cell? ⟨0, 0, none⟩ = some (.slice (some ⟨gb, g0, none⟩) 6 gc)) (hcf : ∀ i, i < 6 → ∀ q v, (cf i).cells[q]? = some v → w.cell? ⟨gb, g0 + i * 4 + q, none⟩ = some v) :
    Calls Ybad.prog 6 #[.slice (some ⟨ba, 0, none⟩) n cc] w fun e w' => ∃ r : CF × Bool, e = .returned (.tuple #[.agg r.1.cells.toArray, .bool r.2]) ∧ ((∃ i, i < 6 ∧ exact6 Mf n i ∧ (∀ j, j < i → ¬ exact6 Mf n j) ∧ r = (cf i, true)) ∨ ((∀ i, i < 6 → ¬ exact6 Mf n i) ∧ r = ((fold6 Mf 6).c, (fold6 Mf 6).settled))) ∧ Mm w [] [] w' := by
  obtain ⟨i30, hi, hz0, hz1, hz2⟩ := info_parts info30
  refine Calls.of_SC (args := [.slice (some ⟨ba, 0, none⟩) n cc]) Ybad.func6 rfl (by simp [Ybad.f6]) (Mm.start w) ?_
  refine SC.seq ?_
  refine SC.region ?_
  refine SL.e (OE.alloc hi hz0) rfl ?_
  intro b2
  refine SL.y (OV.assign rfl) rfl ?_
  refine SL.nil ?_
  refine SC.then ?_
  refine SC.seq ?_
  refine SC.region ?_
  refine SL.y (OV.assign rfl) rfl ?_
  refine SL.nil ?_
  refine SC.then ?_
  refine SC.seq ?_
  refine SC.seq ?_
  refine SC.region ?_
  refine SL.y (OV.loadOld sc42 rfl (by simp) hG) rfl ?_
  refine SL.y (OV.len u42 rfl) rfl ?_
  refine SL.y (OV.move rfl) rfl ?_
  refine SL.nil ?_
  refine SC.then ?_
  refine SC.block ?_
  refine SC.loop (fun i : Nat => E6 b2 gb g0 gc ba n cc i (fold6 Mf i)) (fun i => [(b2, row 30 (fold6 Mf i).c.cells)]) (fun i => i ≤ 6 ∧ ∀ j, j < i → ¬ exact6 Mf n j) (fun i => 6 - i) 0 ⟨Nat.zero_le _, fun j hj => absurd hj (Nat.not_lt_zero j)⟩ (by repeat' (first | exact trivial | refine ⟨rfl, ?_⟩)) (List.Sublist.refl _) ?_
  rintro i ⟨hi6, hno⟩
  have hmost := fold6_most Mf hM5 i
  have hnext : fold6 Mf (i + 1) = step6 Mf (fold6 Mf i) i := rfl
  generalize hs : fold6 Mf i = s at hmost hnext ⊢
  refine SC.seq ?_
  refine SC.region ?_
  refine SL.y (OV.lss rfl rfl) rfl ?_
  refine SL.nil ?_
  refine SC.then ?_
  refine SC.seq ?_
  refine SC.condP rfl (fun hlt => ?_) (fun hge => ?_)
  · have hlt' : i < 6 := by omega
    have hMi := hM i hlt'
    have hMi5 := hM5 i
    have hL5 := (cf i).len_le
    refine SC.skip ?_
    refine SC.then ?_
    refine SC.seq ?_
    refine SC.block ?_
    refine SC.seq ?_
    refine SC.region ?_
    refine SL.y (OV.idx i u42 hi hz1 rfl rfl rfl (by omega)) rfl ?_
    refine SL.y (OV.loadAggOld (vs := (cf i).cells) ag30 us30 hi rfl (by simp) (by rw [hz1]; rfl) (hcf i hlt')) rfl ?_
    refine SL.e (OE.alloc hi hz0) rfl ?_
    intro b6
    refine SL.s (OS.storeAll 1 hi rfl rfl rfl (by rw [hz1]; rfl) (CF.cells_one _) (by rw [hz1]; rfl)) ?_
    refine SL.nil ?_
    refine SC.then ?_
    refine SC.seq ?_
    refine SC.region ?_
    refine SL.y (OV.loadAgg (vs := (cf i).cells) 1 ag30 us30 hi rfl rfl (by rw [hz1]; rfl) (fun q v h => by rw [Nat.zero_add]; exact h)) rfl ?_
    refine SL.call (σ := Nat) (V := fun b => .slice (some ⟨b, 0, none⟩) (cf i).len (cf i).len) (M := fun b => [(b2, row 30 s.c.cells), (b6, row 30 (cf i).cells), (b, row 9 (cf i).words)]) (G := fun _ => True) pf10 (args1 rfl) (fun w hM => (call10 (cf i) w).mono fun e w' ⟨b, he, hM'⟩ => ⟨b, he, trivial, hM.callee0 hM'⟩) rfl ?_
    intro b7 _
    refine SL.y (OV.assign rfl) rfl ?_
    refine SL.nil ?_
    refine SC.then ?_
    refine SC.seq ?_
    refine SC.region ?_
    refine SL.y (OV.assign rfl) rfl ?_
    refine SL.nil ?_
    refine SC.then ?_
    refine SC.seq ?_
    refine SC.weaken (env' := (6, .pointer (some ⟨b6, 0, none⟩)) :: (7, .slice (some ⟨b7, 0, none⟩) (cf i).len (cf i).len) :: (8, .int .i64 (0 : Nat)) :: E6 b2 gb g0 gc ba n cc i s) (by repeat' (first | exact trivial | refine ⟨rfl, ?_⟩)) (List.Sublist.refl _) ?_
    refine inner (M := Mf i) (cf_ok i) hMi ht ?_
    refine SC.then ?_
    refine SC.block ?_
    by_cases hex : exact6 Mf n i
    · obtain ⟨hx1, hx2⟩ := hex
      refine SC.seq ?_
      refine SC.region ?_
      refine SL.y (OV.move rfl) rfl ?_
      refine SL.y (OV.move rfl) rfl ?_
      refine SL.y (OV.len u43 rfl) rfl ?_
      refine SL.y ((OV.eql rfl rfl).yes (by omega)) rfl ?_
      refine SL.y (OV.move rfl) rfl ?_
      refine SL.yg rfl rfl (OV.move rfl) rfl ?_
      refine SL.yg rfl rfl (OV.move rfl) rfl ?_
      refine SL.yg rfl rfl (OV.len u23 rfl) rfl ?_
      refine SL.yg rfl rfl ((OV.eql rfl rfl).yes (by omega)) rfl ?_
      refine SL.y (OV.pickT rfl rfl) rfl ?_
      refine SL.y (OV.assign rfl) rfl ?_
      refine SL.nil ?_
      refine SC.then ?_
      refine SC.condT rfl ?_
      refine SC.seq ?_
      refine SC.region ?_
      refine SL.y (OV.loadAgg (vs := (cf i).cells) 1 ag30 us30 hi rfl rfl (by rw [hz1]; rfl) (fun q v h => by rw [Nat.zero_add]; exact h)) rfl ?_
      refine SL.s (OS.storeAll 0 hi rfl rfl rfl (by rw [hz1]; rfl) (CF.cells_one _) (by rw [hz1]; rfl)) ?_
      refine SL.y (OV.assign rfl) rfl ?_
      refine SL.nil ?_
      refine SC.then ?_
      refine SC.ret ?_
      repeat (first | refine SE.blockR ?_ | refine SE.thenR ?_)
      exact SE.retCT (j := 0) (xs := (cf i).cells) Ybad.results6 rfl rfl ag30 us30 hi (by rw [hz1]; rfl) rfl (fun q v h => h) (fun w' hM => ⟨(cf i, true), rfl, .inl ⟨i, hlt', ⟨hx1, hx2⟩, hno, rfl⟩, hM.weaken (List.nil_sublist _)⟩)
    · have hno' : ∀ j, j < i + 1 → ¬ exact6 Mf n j := fun j hj => by
        by_cases e : j = i
        · subst e; exact hex
        · exact hno j (by omega)
      refine SC.weaken (env' := (6, .pointer (some ⟨b6, 0, none⟩)) :: (7, .slice (some ⟨b7, 0, none⟩) (cf i).len (cf i).len) :: (8, .int .i64 (Mf i)) :: E6 b2 gb g0 gc ba n cc i s) (by repeat' (first | exact trivial | refine ⟨rfl, ?_⟩)) (List.Sublist.refl _) ?_
      refine SC.cutSt ((55, .bool false) :: (6, .pointer (some ⟨b6, 0, none⟩)) :: (8, .int .i64 (Mf i)) :: E6 b2 gb g0 gc ba n cc i s) [(b2, row 30 s.c.cells), (b6, row 30 (cf i).cells)] ?_ ?_
      · by_cases hx1 : Mf i = (cf i).len
        · have hx2 : ¬ Mf i = n := fun e => hex ⟨hx1, e⟩
          refine SC.region ?_
          refine SL.y (OV.move rfl) rfl ?_
          refine SL.y (OV.move rfl) rfl ?_
          refine SL.y (OV.len u43 rfl) rfl ?_
          refine SL.y ((OV.eql rfl rfl).yes (by omega)) rfl ?_
          refine SL.y (OV.move rfl) rfl ?_
          refine SL.yg rfl rfl (OV.move rfl) rfl ?_
          refine SL.yg rfl rfl (OV.move rfl) rfl ?_
          refine SL.yg rfl rfl (OV.len u23 rfl) rfl ?_
          refine SL.yg rfl rfl ((OV.eql rfl rfl).no (by omega)) rfl ?_
          refine SL.y (OV.pickT rfl rfl) rfl ?_
          refine SL.y (OV.assign rfl) rfl ?_
          refine SL.nil ?_
          exact SE.toSt (by repeat' (first | exact trivial | refine ⟨rfl, ?_⟩)) (by simp)
        · skip
          refine SC.region ?_
          refine SL.y (OV.move rfl) rfl ?_
          refine SL.y (OV.move rfl) rfl ?_
          refine SL.y (OV.len u43 rfl) rfl ?_
          refine SL.y ((OV.eql rfl rfl).no (by omega)) rfl ?_
          refine SL.y (OV.move rfl) rfl ?_
          refine SL.skip rfl rfl rfl ?_
          refine SL.skip rfl rfl rfl ?_
          refine SL.skip rfl rfl rfl ?_
          refine SL.skip rfl rfl rfl ?_
          refine SL.y (OV.pickF rfl rfl) rfl ?_
          refine SL.y (OV.assign rfl) rfl ?_
          refine SL.nil ?_
          exact SE.toSt (by repeat' (first | exact trivial | refine ⟨rfl, ?_⟩)) (by simp)
      refine SC.condF rfl ?_
      refine SC.seq ?_
      refine SC.region ?_
      refine SL.y (OV.move rfl) rfl ?_
      refine SL.y (OV.move rfl) rfl ?_
      refine SL.y (OV.gtr rfl rfl) rfl ?_
      refine SL.y (OV.assign rfl) rfl ?_
      refine SL.nil ?_
      refine SC.then ?_
      refine SC.condP rfl (fun hgt => ?_) (fun hgt => ?_)
      · skip
        refine SC.region ?_
        refine SL.y (OV.loadAgg (vs := (cf i).cells) 1 ag30 us30 hi rfl rfl (by rw [hz1]; rfl) (fun q v h => by rw [Nat.zero_add]; exact h)) rfl ?_
        refine SL.y (OV.move rfl) rfl ?_
        refine SL.s (OS.storeAll 0 hi rfl rfl rfl (by rw [hz1]; rfl) (CF.cells_one _) (by rw [hz1]; rfl)) ?_
        refine SL.y (OV.assign rfl) rfl ?_
        refine SL.y (OV.assign rfl) rfl ?_
        refine SL.nil ?_
        refine SE.nb ?_
        refine SE.nb ?_
        refine SC.then ?_
        refine SC.region ?_
        refine SL.y (OV.add rfl rfl (wrap_i64 (by omega) (by omega))) rfl ?_
        refine SL.y (OV.move rfl) rfl ?_
        refine SL.nil ?_
        have e : fold6 Mf (i + 1) = ⟨cf i, Mf i, true⟩ := by rw [hnext]; unfold step6; rw [if_pos hgt]
        refine SE.round (i + 1) ⟨by omega, hno'⟩ (by omega) ?_ ?_
        · rw [e]; exact (by repeat' (first | exact trivial | refine ⟨rfl, ?_⟩))
        · rw [e]; exact (List.nil_sublist _).cons_cons _
      · have hkeep : ∀ st : Bool, st = (bif decide ((Mf i : Int) = s.most) && !((cf i).coord == s.c.coord) then false else s.settled) → fold6 Mf (i + 1) = { s with settled := st } := by
          intro st hst
          rw [hnext, hst]
          unfold step6
          rw [if_neg hgt]
          by_cases h1 : (Mf i : Int) = s.most
          · by_cases h2 : (cf i).coord = s.c.coord
            · rw [if_neg (fun h => h.2 h2)]; simp [h1, h2]
            · rw [if_pos ⟨h1, h2⟩]; simp [h1, h2]
          · rw [if_neg (fun h => h1 h.1)]; simp [h1]
        refine SC.cutSt ((73, .bool (decide ((Mf i : Int) = s.most) && !((cf i).coord == s.c.coord))) :: E6 b2 gb g0 gc ba n cc i s) [(b2, row 30 s.c.cells)] ?_ ?_
        · by_cases h1 : (Mf i : Int) = s.most
          · skip
            refine SC.quiet mixed (by kernel_rfl) ?_
            refine SQ.y (OV.move rfl) rfl ?_
            refine SQ.y (OV.move rfl) rfl ?_
            refine SQ.y ((OV.eql rfl rfl).yes h1) rfl ?_
            refine SQ.y (OV.move rfl) rfl ?_
            refine SQ.yg rfl rfl (OV.fld fo30_3 rfl) rfl ?_
            refine SQ.yg rfl rfl (OV.load 1 sc28 rfl rfl rfl) rfl ?_
            refine SQ.callQg rfl rfl pf11 (args1 rfl) (fun w hM => call11 (cf i) w) rfl ?_
            refine SQ.yg rfl rfl (OV.fld fo30_3 rfl) rfl ?_
            refine SQ.yg rfl rfl (OV.load 0 sc28 rfl rfl rfl) rfl ?_
            refine SQ.callQg rfl rfl pf11 (args1 rfl) (fun w hM => call11 s.c w) rfl ?_
            refine SQ.yg rfl rfl (OV.neqB u4 rfl rfl) rfl ?_
            refine SQ.y (OV.pickT rfl rfl) rfl ?_
            refine SQ.y (OV.assign rfl) rfl ?_
            refine SQ.nil ?_
            refine SE.toSt ?_ ((List.nil_sublist _).cons_cons _)
            rw [decide_eq_true h1, Bool.true_and]
            exact (by repeat' (first | exact trivial | refine ⟨rfl, ?_⟩))
          · skip
            refine SC.quiet mixed (by kernel_rfl) ?_
            refine SQ.y (OV.move rfl) rfl ?_
            refine SQ.y (OV.move rfl) rfl ?_
            refine SQ.y ((OV.eql rfl rfl).no h1) rfl ?_
            refine SQ.y (OV.move rfl) rfl ?_
            refine SQ.skip rfl rfl rfl ?_
            refine SQ.skip rfl rfl rfl ?_
            refine SQ.skip rfl rfl rfl ?_
            refine SQ.skip rfl rfl rfl ?_
            refine SQ.skip rfl rfl rfl ?_
            refine SQ.skip rfl rfl rfl ?_
            refine SQ.skip rfl rfl rfl ?_
            refine SQ.y (OV.pickF rfl rfl) rfl ?_
            refine SQ.y (OV.assign rfl) rfl ?_
            refine SQ.nil ?_
            refine SE.toSt ?_ ((List.nil_sublist _).cons_cons _)
            rw [decide_eq_false h1, Bool.false_and]
            exact (by repeat' (first | exact trivial | refine ⟨rfl, ?_⟩))
        refine SC.cond rfl (fun h1 => ?_) (fun h1 => ?_)
        · skip
          refine SC.region ?_
          refine SL.y (OV.assign rfl) rfl ?_
          refine SL.nil ?_
          refine SE.nb ?_
          refine SE.nb ?_
          refine SC.then ?_
          refine SC.region ?_
          refine SL.y (OV.add rfl rfl (wrap_i64 (by omega) (by omega))) rfl ?_
          refine SL.y (OV.move rfl) rfl ?_
          refine SL.nil ?_
          have e := hkeep false (by rw [h1]; rfl)
          refine SE.round (i + 1) ⟨by omega, hno'⟩ (by omega) ?_ ?_
          · rw [e]; exact (by repeat' (first | exact trivial | refine ⟨rfl, ?_⟩))
          · rw [e]; exact List.Sublist.refl _
        · refine SC.skip ?_
          refine SE.nb ?_
          refine SE.nb ?_
          refine SC.then ?_
          refine SC.region ?_
          refine SL.y (OV.add rfl rfl (wrap_i64 (by omega) (by omega))) rfl ?_
          refine SL.y (OV.move rfl) rfl ?_
          refine SL.nil ?_
          have e := hkeep s.settled (by rw [h1]; rfl)
          refine SE.round (i + 1) ⟨by omega, hno'⟩ (by omega) ?_ ?_
          · rw [e]; exact (by repeat' (first | exact trivial | refine ⟨rfl, ?_⟩))
          · rw [e]; exact List.Sublist.refl _
  · have hi6' : i = 6 := by omega
    subst hi6'
    refine SC.exit ?_
    refine SE.thenE (SE.thenE (SE.inBlock ?_))
    refine SC.then ?_
    refine SC.seq ?_
    refine SC.region ?_
    refine SL.y (OV.loadAgg (vs := s.c.cells) 0 ag30 us30 hi rfl rfl (by rw [hz1]; rfl) (fun q v h => by rw [Nat.zero_add]; exact h)) rfl ?_
    refine SL.y (OV.move rfl) rfl ?_
    refine SL.s (OS.storeAll 0 hi rfl rfl rfl (by rw [hz1]; rfl) (CF.cells_one _) (by rw [hz1]; rfl)) ?_
    refine SL.y (OV.assign rfl) rfl ?_
    refine SL.nil ?_
    refine SC.then ?_
    refine SC.ret ?_
    exact SE.retCT (j := 0) (xs := s.c.cells) Ybad.results6 rfl rfl ag30 us30 hi (by rw [hz1]; rfl) rfl (fun q v h => h) (fun w' hM => ⟨(s.c, s.settled), rfl, .inr ⟨hno, by rw [hs]⟩, hM.weaken (List.nil_sublist _)⟩)
end Go.Proofs.YbulkdrciDoor
