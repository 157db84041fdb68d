import Derived.Test.YbulkdrciTypes
namespace Go.Proofs.Ybulkdrci
open Go Go.RowKit Go.Proofs.Ybulkdrci.Sym
set_option linter.unusedVariables false
set_option linter.unusedSimpArgs false

/-- slices.Equal of two rows of the same numbers. -/
theorem eq_i64 {w : World} {b1 b2 n c1 c2 : Nat} {f : Nat → Int} (hn : n ≤ 1000000) (h1 : ∀ q, q < n → w.cell? ⟨b1, q, none⟩ = some (.int .i64 (f q))) (h2 : ∀ q, q < n → w.cell? ⟨b2, q, none⟩ = some (.int .i64 (f q))) :
    Calls Yba.prog 12 #[.slice (some ⟨b1, 0, none⟩) n c1, .slice (some ⟨b2, 0, none⟩) n c2] w fun e w' => e = .returned (.bool true) ∧ Mm w [] [] w' := by
  refine Calls.of_SC (args := [.slice (some ⟨b1, 0, none⟩) n c1, .slice (some ⟨b2, 0, none⟩) n c2]) Yba.func12 rfl (by simp [Yba.f12]) (Mm.start w) ?_
  refine SC.seq ?_
  refine SC.region ?_
  refine SL.y (OV.assign rfl) rfl ?_
  refine SL.nil ?_
  refine SC.then ?_
  refine SC.seq ?_
  refine SC.seq ?_
  refine SC.region ?_
  refine SL.y (OV.move rfl) rfl ?_
  refine SL.y (OV.len u51 rfl) rfl ?_
  refine SL.y (OV.move rfl) rfl ?_
  refine SL.y (OV.len u51 rfl) rfl ?_
  refine SL.y (OV.neq rfl rfl) rfl ?_
  refine SL.nil ?_
  refine SC.then ?_
  refine SC.condP rfl (fun h => absurd rfl h) (fun _ => ?_)
  refine SC.skip ?_
  refine SC.then ?_
  refine SC.seq ?_
  refine SC.seq ?_
  refine SC.region ?_
  refine SL.y (OV.move rfl) rfl ?_
  refine SL.y (OV.len u51 rfl) rfl ?_
  refine SL.y (OV.move rfl) rfl ?_
  refine SL.nil ?_
  refine SC.then ?_
  refine SC.block ?_
  refine SC.loop (fun k : Nat => [(0, .slice (some ⟨b1, 0, none⟩) n c1), (1, .slice (some ⟨b2, 0, none⟩) n c2), (12, .int .i64 n), (13, .int .i64 k)]) (fun _ => []) (fun k => k ≤ n) (fun k => n - k) 0 (Nat.zero_le _) ⟨rfl, rfl, rfl, rfl, trivial⟩ (List.Sublist.refl _) ?_
  intro k hk
  refine SC.seq ?_
  refine SC.region ?_
  refine SL.y (OV.lss rfl rfl) rfl ?_
  refine SL.nil ?_
  refine SC.then ?_
  refine SC.seq ?_
  refine SC.condP rfl (fun hlt => ?_) (fun hge => ?_)
  · have hlt' : k < n := by omega
    refine SC.skip ?_
    refine SC.then ?_
    refine SC.seq ?_
    refine SC.block ?_
    refine SC.seq ?_
    refine SC.region ?_
    refine SL.y (OV.move rfl) rfl ?_
    refine SL.y (OV.assign rfl) rfl ?_
    refine SL.nil ?_
    refine SC.then ?_
    refine SC.seq ?_
    refine SC.quiet mixed (by kernel_rfl) ?_
    refine SQ.y (OV.move rfl) rfl ?_
    refine SQ.y (OV.move rfl) rfl ?_
    refine SQ.y (OV.idx1 _ u51 se51 rfl rfl rfl (by omega)) rfl ?_
    refine SQ.y (OV.loadOld sc3 rfl (by simp) (h1 k hlt')) rfl ?_
    refine SQ.y (OV.move rfl) rfl ?_
    refine SQ.y (OV.move rfl) rfl ?_
    refine SQ.y (OV.idx1 _ u51 se51 rfl rfl rfl (by omega)) rfl ?_
    refine SQ.y (OV.loadOld sc3 rfl (by simp) (h2 k hlt')) rfl ?_
    refine SQ.y (OV.neq rfl rfl) rfl ?_
    refine SQ.nil ?_
    refine SC.then ?_
    refine SC.condP rfl (fun h => absurd rfl h) (fun _ => ?_)
    refine SC.skip ?_
    refine SE.nb ?_
    refine SC.then ?_
    refine SC.region ?_
    refine SL.y (OV.add rfl rfl (wrap_i64 (by omega) (by omega))) rfl ?_
    refine SL.y (OV.move rfl) rfl ?_
    refine SL.nil ?_
    exact SE.round (k + 1) (by omega) (by omega) ⟨rfl, rfl, rfl, rfl, trivial⟩ (List.Sublist.refl _)
  · refine SC.exit ?_
    refine SE.thenE (SE.thenE (SE.inBlock ?_))
    refine SC.then ?_
    refine SC.seq ?_
    refine SC.region ?_
    refine SL.y (OV.assign rfl) rfl ?_
    refine SL.nil ?_
    refine SC.then ?_
    refine SC.ret ?_
    exact SE.ret1 Yba.results12 rfl (fun w' hM => ⟨rfl, hM⟩)

/-- slices.Equal of two rows of the same numbers. -/
theorem eq_u32 {w : World} {b1 b2 n c1 c2 : Nat} {f : Nat → Int} (hn : n ≤ 1000000) (h1 : ∀ q, q < n → w.cell? ⟨b1, q, none⟩ = some (.int .u32 (f q))) (h2 : ∀ q, q < n → w.cell? ⟨b2, q, none⟩ = some (.int .u32 (f q))) :
    Calls Yba.prog 13 #[.slice (some ⟨b1, 0, none⟩) n c1, .slice (some ⟨b2, 0, none⟩) n c2] w fun e w' => e = .returned (.bool true) ∧ Mm w [] [] w' := by
  refine Calls.of_SC (args := [.slice (some ⟨b1, 0, none⟩) n c1, .slice (some ⟨b2, 0, none⟩) n c2]) Yba.func13 rfl (by simp [Yba.f13]) (Mm.start w) ?_
  refine SC.seq ?_
  refine SC.region ?_
  refine SL.y (OV.assign rfl) rfl ?_
  refine SL.nil ?_
  refine SC.then ?_
  refine SC.seq ?_
  refine SC.seq ?_
  refine SC.region ?_
  refine SL.y (OV.move rfl) rfl ?_
  refine SL.y (OV.len u60 rfl) rfl ?_
  refine SL.y (OV.move rfl) rfl ?_
  refine SL.y (OV.len u60 rfl) rfl ?_
  refine SL.y (OV.neq rfl rfl) rfl ?_
  refine SL.nil ?_
  refine SC.then ?_
  refine SC.condP rfl (fun h => absurd rfl h) (fun _ => ?_)
  refine SC.skip ?_
  refine SC.then ?_
  refine SC.seq ?_
  refine SC.seq ?_
  refine SC.region ?_
  refine SL.y (OV.move rfl) rfl ?_
  refine SL.y (OV.len u60 rfl) rfl ?_
  refine SL.y (OV.move rfl) rfl ?_
  refine SL.nil ?_
  refine SC.then ?_
  refine SC.block ?_
  refine SC.loop (fun k : Nat => [(0, .slice (some ⟨b1, 0, none⟩) n c1), (1, .slice (some ⟨b2, 0, none⟩) n c2), (12, .int .i64 n), (13, .int .i64 k)]) (fun _ => []) (fun k => k ≤ n) (fun k => n - k) 0 (Nat.zero_le _) ⟨rfl, rfl, rfl, rfl, trivial⟩ (List.Sublist.refl _) ?_
  intro k hk
  refine SC.seq ?_
  refine SC.region ?_
  refine SL.y (OV.lss rfl rfl) rfl ?_
  refine SL.nil ?_
  refine SC.then ?_
  refine SC.seq ?_
  refine SC.condP rfl (fun hlt => ?_) (fun hge => ?_)
  · have hlt' : k < n := by omega
    refine SC.skip ?_
    refine SC.then ?_
    refine SC.seq ?_
    refine SC.block ?_
    refine SC.seq ?_
    refine SC.region ?_
    refine SL.y (OV.move rfl) rfl ?_
    refine SL.y (OV.assign rfl) rfl ?_
    refine SL.nil ?_
    refine SC.then ?_
    refine SC.seq ?_
    refine SC.quiet mixed (by kernel_rfl) ?_
    refine SQ.y (OV.move rfl) rfl ?_
    refine SQ.y (OV.move rfl) rfl ?_
    refine SQ.y (OV.idx1 _ u60 se60 rfl rfl rfl (by omega)) rfl ?_
    refine SQ.y (OV.loadOld sc61 rfl (by simp) (h1 k hlt')) rfl ?_
    refine SQ.y (OV.move rfl) rfl ?_
    refine SQ.y (OV.move rfl) rfl ?_
    refine SQ.y (OV.idx1 _ u60 se60 rfl rfl rfl (by omega)) rfl ?_
    refine SQ.y (OV.loadOld sc61 rfl (by simp) (h2 k hlt')) rfl ?_
    refine SQ.y (OV.neq rfl rfl) rfl ?_
    refine SQ.nil ?_
    refine SC.then ?_
    refine SC.condP rfl (fun h => absurd rfl h) (fun _ => ?_)
    refine SC.skip ?_
    refine SE.nb ?_
    refine SC.then ?_
    refine SC.region ?_
    refine SL.y (OV.add rfl rfl (wrap_i64 (by omega) (by omega))) rfl ?_
    refine SL.y (OV.move rfl) rfl ?_
    refine SL.nil ?_
    exact SE.round (k + 1) (by omega) (by omega) ⟨rfl, rfl, rfl, rfl, trivial⟩ (List.Sublist.refl _)
  · refine SC.exit ?_
    refine SE.thenE (SE.thenE (SE.inBlock ?_))
    refine SC.then ?_
    refine SC.seq ?_
    refine SC.region ?_
    refine SL.y (OV.assign rfl) rfl ?_
    refine SL.nil ?_
    refine SC.then ?_
    refine SC.ret ?_
    exact SE.ret1 Yba.results13 rfl (fun w' hM => ⟨rfl, hM⟩)

/-- slices.Equal of two rows of the same numbers. -/
theorem eq_i32 {w : World} {b1 b2 n c1 c2 : Nat} {f : Nat → Int} (hn : n ≤ 1000000) (h1 : ∀ q, q < n → w.cell? ⟨b1, q, none⟩ = some (.int .i32 (f q))) (h2 : ∀ q, q < n → w.cell? ⟨b2, q, none⟩ = some (.int .i32 (f q))) :
    Calls Yba.prog 14 #[.slice (some ⟨b1, 0, none⟩) n c1, .slice (some ⟨b2, 0, none⟩) n c2] w fun e w' => e = .returned (.bool true) ∧ Mm w [] [] w' := by
  refine Calls.of_SC (args := [.slice (some ⟨b1, 0, none⟩) n c1, .slice (some ⟨b2, 0, none⟩) n c2]) Yba.func14 rfl (by simp [Yba.f14]) (Mm.start w) ?_
  refine SC.seq ?_
  refine SC.region ?_
  refine SL.y (OV.assign rfl) rfl ?_
  refine SL.nil ?_
  refine SC.then ?_
  refine SC.seq ?_
  refine SC.seq ?_
  refine SC.region ?_
  refine SL.y (OV.move rfl) rfl ?_
  refine SL.y (OV.len u47 rfl) rfl ?_
  refine SL.y (OV.move rfl) rfl ?_
  refine SL.y (OV.len u47 rfl) rfl ?_
  refine SL.y (OV.neq rfl rfl) rfl ?_
  refine SL.nil ?_
  refine SC.then ?_
  refine SC.condP rfl (fun h => absurd rfl h) (fun _ => ?_)
  refine SC.skip ?_
  refine SC.then ?_
  refine SC.seq ?_
  refine SC.seq ?_
  refine SC.region ?_
  refine SL.y (OV.move rfl) rfl ?_
  refine SL.y (OV.len u47 rfl) rfl ?_
  refine SL.y (OV.move rfl) rfl ?_
  refine SL.nil ?_
  refine SC.then ?_
  refine SC.block ?_
  refine SC.loop (fun k : Nat => [(0, .slice (some ⟨b1, 0, none⟩) n c1), (1, .slice (some ⟨b2, 0, none⟩) n c2), (12, .int .i64 n), (13, .int .i64 k)]) (fun _ => []) (fun k => k ≤ n) (fun k => n - k) 0 (Nat.zero_le _) ⟨rfl, rfl, rfl, rfl, trivial⟩ (List.Sublist.refl _) ?_
  intro k hk
  refine SC.seq ?_
  refine SC.region ?_
  refine SL.y (OV.lss rfl rfl) rfl ?_
  refine SL.nil ?_
  refine SC.then ?_
  refine SC.seq ?_
  refine SC.condP rfl (fun hlt => ?_) (fun hge => ?_)
  · have hlt' : k < n := by omega
    refine SC.skip ?_
    refine SC.then ?_
    refine SC.seq ?_
    refine SC.block ?_
    refine SC.seq ?_
    refine SC.region ?_
    refine SL.y (OV.move rfl) rfl ?_
    refine SL.y (OV.assign rfl) rfl ?_
    refine SL.nil ?_
    refine SC.then ?_
    refine SC.seq ?_
    refine SC.quiet mixed (by kernel_rfl) ?_
    refine SQ.y (OV.move rfl) rfl ?_
    refine SQ.y (OV.move rfl) rfl ?_
    refine SQ.y (OV.idx1 _ u47 se47 rfl rfl rfl (by omega)) rfl ?_
    refine SQ.y (OV.loadOld sc21 rfl (by simp) (h1 k hlt')) rfl ?_
    refine SQ.y (OV.move rfl) rfl ?_
    refine SQ.y (OV.move rfl) rfl ?_
    refine SQ.y (OV.idx1 _ u47 se47 rfl rfl rfl (by omega)) rfl ?_
    refine SQ.y (OV.loadOld sc21 rfl (by simp) (h2 k hlt')) rfl ?_
    refine SQ.y (OV.neq rfl rfl) rfl ?_
    refine SQ.nil ?_
    refine SC.then ?_
    refine SC.condP rfl (fun h => absurd rfl h) (fun _ => ?_)
    refine SC.skip ?_
    refine SE.nb ?_
    refine SC.then ?_
    refine SC.region ?_
    refine SL.y (OV.add rfl rfl (wrap_i64 (by omega) (by omega))) rfl ?_
    refine SL.y (OV.move rfl) rfl ?_
    refine SL.nil ?_
    exact SE.round (k + 1) (by omega) (by omega) ⟨rfl, rfl, rfl, rfl, trivial⟩ (List.Sublist.refl _)
  · refine SC.exit ?_
    refine SE.thenE (SE.thenE (SE.inBlock ?_))
    refine SC.then ?_
    refine SC.seq ?_
    refine SC.region ?_
    refine SL.y (OV.assign rfl) rfl ?_
    refine SL.nil ?_
    refine SC.then ?_
    refine SC.ret ?_
    exact SE.ret1 Yba.results14 rfl (fun w' hM => ⟨rfl, hM⟩)

theorem info3 : (Yba.prog.info? 3).map (fun i => (i.zero, i.size, i.bytes)) = some (some (.int .i64 0), 1, 8) := by kernel_rfl
theorem info21 : (Yba.prog.info? 21).map (fun i => (i.zero, i.size, i.bytes)) = some (some (.int .i32 0), 1, 4) := by kernel_rfl
theorem info50 : (Yba.prog.info? 50).map (fun i => (i.zero, i.size, i.bytes)) = some (some (.agg #[.int .u8 0, .int .i64 0, .string ⟨#[]⟩]), 3, 32) := by kernel_rfl

/-- slices.Clone of a row that is known: a new row. -/
theorem clone_8 {w : World} {b n c : Nat} {xs : List Value} (hl : xs.length = n * 1) (hn : n * 8 ≤ 140737488355328) (ho : ∀ u ∈ xs, u.oneCell' = true)
    (hx : ∀ q u, xs[q]? = some u → w.cell? ⟨b, 0 + q, none⟩ = some u) :
    Calls Yba.prog 8 #[.slice (some ⟨b, 0, none⟩) n c] w fun e w' => ∃ st : Nat × Nat × List Value, e = .returned (.slice (some ⟨st.1, 0, none⟩) n st.2.1) ∧ (st.2.1 ≤ maxLen ∧ n ≤ st.2.1 ∧ n * 1 + st.2.2.length = st.2.1 * 1) ∧ Mm w [] [(st.1, row 3 (xs ++ st.2.2))] w' := by
  obtain ⟨i, hi, hz0, hz1, hz2⟩ := info_parts info3
  refine Calls.of_SC (args := [.slice (some ⟨b, 0, none⟩) n c]) Yba.func8 rfl (by simp [Yba.f8]) (Mm.start w) ?_
  refine SC.seq ?_
  refine SC.region ?_
  refine SL.y (OV.assign rfl) rfl ?_
  refine SL.nil ?_
  refine SC.then ?_
  refine SC.seq ?_
  refine SC.seq ?_
  refine SC.region ?_
  refine SL.y (OV.move rfl) rfl ?_
  refine SL.y (OV.eqlNil u51 rfl) rfl ?_
  refine SL.nil ?_
  refine SC.then ?_
  refine SC.condF rfl ?_
  refine SC.skip ?_
  refine SC.then ?_
  refine SC.seq ?_
  refine SC.region ?_
  refine SL.e (OE.bslice0 u51 hi) rfl ?_
  intro nb
  refine SL.y (OV.move rfl) rfl ?_
  refine SL.e (OE.append0 0 u51 hi hz0 hz1 rfl rfl rfl rfl (Src.old (by simp) hx) hl ho (by unfold maxLen; omega) (by rw [hz2]; exact hn)) rfl ?_
  intro st
  refine SL.y (OV.assign rfl) rfl ?_
  refine SL.nil ?_
  refine SC.then ?_
  refine SC.ret ?_
  exact SE.ret1 Yba.results8 rfl (fun w' hM => ⟨st.1, rfl, st.2, hM⟩)

/-- slices.Clone of a row that is known: a new row. -/
theorem clone_9 {w : World} {b n c : Nat} {xs : List Value} (hl : xs.length = n * 1) (hn : n * 4 ≤ 140737488355328) (ho : ∀ u ∈ xs, u.oneCell' = true)
    (hx : ∀ q u, xs[q]? = some u → w.cell? ⟨b, 0 + q, none⟩ = some u) :
    Calls Yba.prog 9 #[.slice (some ⟨b, 0, none⟩) n c] w fun e w' => ∃ st : Nat × Nat × List Value, e = .returned (.slice (some ⟨st.1, 0, none⟩) n st.2.1) ∧ (st.2.1 ≤ maxLen ∧ n ≤ st.2.1 ∧ n * 1 + st.2.2.length = st.2.1 * 1) ∧ Mm w [] [(st.1, row 21 (xs ++ st.2.2))] w' := by
  obtain ⟨i, hi, hz0, hz1, hz2⟩ := info_parts info21
  refine Calls.of_SC (args := [.slice (some ⟨b, 0, none⟩) n c]) Yba.func9 rfl (by simp [Yba.f9]) (Mm.start w) ?_
  refine SC.seq ?_
  refine SC.region ?_
  refine SL.y (OV.assign rfl) rfl ?_
  refine SL.nil ?_
  refine SC.then ?_
  refine SC.seq ?_
  refine SC.seq ?_
  refine SC.region ?_
  refine SL.y (OV.move rfl) rfl ?_
  refine SL.y (OV.eqlNil u47 rfl) rfl ?_
  refine SL.nil ?_
  refine SC.then ?_
  refine SC.condF rfl ?_
  refine SC.skip ?_
  refine SC.then ?_
  refine SC.seq ?_
  refine SC.region ?_
  refine SL.e (OE.bslice0 u47 hi) rfl ?_
  intro nb
  refine SL.y (OV.move rfl) rfl ?_
  refine SL.e (OE.append0 0 u47 hi hz0 hz1 rfl rfl rfl rfl (Src.old (by simp) hx) hl ho (by unfold maxLen; omega) (by rw [hz2]; exact hn)) rfl ?_
  intro st
  refine SL.y (OV.assign rfl) rfl ?_
  refine SL.nil ?_
  refine SC.then ?_
  refine SC.ret ?_
  exact SE.ret1 Yba.results9 rfl (fun w' hM => ⟨st.1, rfl, st.2, hM⟩)

/-- slices.Clone of a row that is known: a new row. -/
theorem clone_10 {w : World} {b n c : Nat} {xs : List Value} (hl : xs.length = n * 3) (hn : n * 32 ≤ 140737488355328) (ho : ∀ u ∈ xs, u.oneCell' = true)
    (hx : ∀ q u, xs[q]? = some u → w.cell? ⟨b, 0 + q, none⟩ = some u) :
    Calls Yba.prog 10 #[.slice (some ⟨b, 0, none⟩) n c] w fun e w' => ∃ st : Nat × Nat × List Value, e = .returned (.slice (some ⟨st.1, 0, none⟩) n st.2.1) ∧ (st.2.1 ≤ maxLen ∧ n ≤ st.2.1 ∧ n * 3 + st.2.2.length = st.2.1 * 3) ∧ Mm w [] [(st.1, row 50 (xs ++ st.2.2))] w' := by
  obtain ⟨i, hi, hz0, hz1, hz2⟩ := info_parts info50
  refine Calls.of_SC (args := [.slice (some ⟨b, 0, none⟩) n c]) Yba.func10 rfl (by simp [Yba.f10]) (Mm.start w) ?_
  refine SC.seq ?_
  refine SC.region ?_
  refine SL.y (OV.assign rfl) rfl ?_
  refine SL.nil ?_
  refine SC.then ?_
  refine SC.seq ?_
  refine SC.seq ?_
  refine SC.region ?_
  refine SL.y (OV.move rfl) rfl ?_
  refine SL.y (OV.eqlNil u46 rfl) rfl ?_
  refine SL.nil ?_
  refine SC.then ?_
  refine SC.condF rfl ?_
  refine SC.skip ?_
  refine SC.then ?_
  refine SC.seq ?_
  refine SC.region ?_
  refine SL.e (OE.bslice0 u46 hi) rfl ?_
  intro nb
  refine SL.y (OV.move rfl) rfl ?_
  refine SL.e (OE.append0 0 u46 hi hz0 hz1 rfl rfl rfl rfl (Src.old (by simp) hx) hl ho (by unfold maxLen; omega) (by rw [hz2]; exact hn)) rfl ?_
  intro st
  refine SL.y (OV.assign rfl) rfl ?_
  refine SL.nil ?_
  refine SC.then ?_
  refine SC.ret ?_
  exact SE.ret1 Yba.results10 rfl (fun w' hM => ⟨st.1, rfl, st.2, hM⟩)

theorem guard50 : Yba.prog.eqGuardType Yba.prog.depth 50 = false := by kernel_rfl
theorem ag50 : scalar Yba.prog 50 = false := by kernel_rfl
theorem us50 : (Yba.prog.underlying 50).isSome = true := by kernel_rfl
theorem eqIn_int {P : Program} {d : Nat} (w : World) {T : TypeId} {k' : IntKind} (h : P.underlying T = some (.int k')) (k : IntKind) (a b : Int) : (Op.equalIn (d + 1) T (.int k a) (.int k b)).run P w = .ok (a == b) w := by
  simp [Op.equalIn, run_underlying h]
theorem eqIn_string {P : Program} {d : Nat} (w : World) {T : TypeId} (h : P.underlying T = some .string) (a b : ByteArray) : (Op.equalIn (d + 1) T (.string a) (.string b)).run P w = .ok (a == b) w := by
  simp [Op.equalIn, run_underlying h]
theorem opEq (a t : Int) (s : ByteArray) (w : World) : (Op.equal 50 (.agg #[.int .u8 a, .int .i64 t, .string s]) (.agg #[.int .u8 a, .int .i64 t, .string s])).run Yba.prog w = .ok true w := by
  have h := run_equalIn_struct (P := Yba.prog) w 9999 50 #[.int .u8 a, .int .i64 t, .string s] #[.int .u8 a, .int .i64 t, .string s] (by kernel_rfl) (by kernel_rfl)
  have hf : (Yba.prog.fieldsOf 50).toList.map (fun f => (f.name, f.type, f.offset)) = [("Kind", 48, 0), ("Txn", 3, 1), ("Item", 9, 2)] := by kernel_rfl
  unfold Op.equal Op.maxDepth
  rw [h]
  simp only [List.map_eq_cons_iff, List.map_eq_nil_iff] at hf
  obtain ⟨f0, _, hL, h0, f1, _, rfl, h1, f2, _, rfl, h2, rfl⟩ := hf
  simp only [Prod.mk.injEq] at h0 h1 h2
  obtain ⟨a0, a1, a2⟩ := h0
  obtain ⟨b0, b1, b2⟩ := h1
  obtain ⟨c0, c1, c2⟩ := h2
  rw [hL]
  have e0 := eqIn_int (P := Yba.prog) (d := 9998) w u48 .u8 a a
  have e1 := eqIn_int (P := Yba.prog) (d := 9998) w u3 .i64 t t
  have e2 := eqIn_string (P := Yba.prog) (d := 9998) w u9 s s
  simp only [Nat.reduceAdd] at e0 e1 e2
  simp [Op.eqFields, a0, a1, a2, b0, b1, b2, c0, c1, c2, part, isAgg, run_underlying u48, run_underlying u3, run_underlying u9, e0, e1, e2]
  rw [beq_toListBytes]; simp

/-- slices.Equal of two histories that hold the same operations. -/
theorem eq_hist {w : World} {b1 b2 n c1 c2 : Nat} {f g : Nat → Int} {t : Nat → ByteArray} (hn : n ≤ 1000000)
    (h1 : ∀ q, q < n → ∀ r v, ([.int .u8 (f q), .int .i64 (g q), .string (t q)] : List Value)[r]? = some v → w.cell? ⟨b1, 0 + q * 3 + r, none⟩ = some v)
    (h2 : ∀ q, q < n → ∀ r v, ([.int .u8 (f q), .int .i64 (g q), .string (t q)] : List Value)[r]? = some v → w.cell? ⟨b2, 0 + q * 3 + r, none⟩ = some v) :
    Calls Yba.prog 15 #[.slice (some ⟨b1, 0, none⟩) n c1, .slice (some ⟨b2, 0, none⟩) n c2] w fun e w' => e = .returned (.bool true) ∧ Mm w [] [] w' := by
  obtain ⟨i, hi, hz0, hz1, hz2⟩ := info_parts info50
  refine Calls.of_SC (args := [.slice (some ⟨b1, 0, none⟩) n c1, .slice (some ⟨b2, 0, none⟩) n c2]) Yba.func15 rfl (by simp [Yba.f15]) (Mm.start w) ?_
  refine SC.seq ?_
  refine SC.region ?_
  refine SL.y (OV.assign rfl) rfl ?_
  refine SL.nil ?_
  refine SC.then ?_
  refine SC.seq ?_
  refine SC.seq ?_
  refine SC.region ?_
  refine SL.y (OV.move rfl) rfl ?_
  refine SL.y (OV.len u46 rfl) rfl ?_
  refine SL.y (OV.move rfl) rfl ?_
  refine SL.y (OV.len u46 rfl) rfl ?_
  refine SL.y (OV.neq rfl rfl) rfl ?_
  refine SL.nil ?_
  refine SC.then ?_
  refine SC.condP rfl (fun h => absurd rfl h) (fun _ => ?_)
  refine SC.skip ?_
  refine SC.then ?_
  refine SC.seq ?_
  refine SC.seq ?_
  refine SC.region ?_
  refine SL.y (OV.move rfl) rfl ?_
  refine SL.y (OV.len u46 rfl) rfl ?_
  refine SL.y (OV.move rfl) rfl ?_
  refine SL.nil ?_
  refine SC.then ?_
  refine SC.block ?_
  refine SC.loop (fun k : Nat => [(0, .slice (some ⟨b1, 0, none⟩) n c1), (1, .slice (some ⟨b2, 0, none⟩) n c2), (12, .int .i64 n), (13, .int .i64 k)]) (fun _ => []) (fun k => k ≤ n) (fun k => n - k) 0 (Nat.zero_le _) ⟨rfl, rfl, rfl, rfl, trivial⟩ (List.Sublist.refl _) ?_
  intro k hk
  refine SC.seq ?_
  refine SC.region ?_
  refine SL.y (OV.lss rfl rfl) rfl ?_
  refine SL.nil ?_
  refine SC.then ?_
  refine SC.seq ?_
  refine SC.condP rfl (fun hlt => ?_) (fun hge => ?_)
  · have hlt' : k < n := by omega
    refine SC.skip ?_
    refine SC.then ?_
    refine SC.seq ?_
    refine SC.block ?_
    refine SC.seq ?_
    refine SC.region ?_
    refine SL.y (OV.move rfl) rfl ?_
    refine SL.y (OV.assign rfl) rfl ?_
    refine SL.nil ?_
    refine SC.then ?_
    refine SC.seq ?_
    refine SC.quiet mixed (by kernel_rfl) ?_
    refine SQ.y (OV.move rfl) rfl ?_
    refine SQ.y (OV.move rfl) rfl ?_
    refine SQ.y (OV.idx k u46 hi hz1 rfl rfl rfl (by omega)) rfl ?_
    refine SQ.y (OV.loadAggOld (vs := [.int .u8 (f k), .int .i64 (g k), .string (t k)]) ag50 us50 hi rfl (by simp) (by simp [hz1]) (h1 k hlt')) rfl ?_
    refine SQ.y (OV.move rfl) rfl ?_
    refine SQ.y (OV.move rfl) rfl ?_
    refine SQ.y (OV.idx k u46 hi hz1 rfl rfl rfl (by omega)) rfl ?_
    refine SQ.y (OV.loadAggOld (vs := [.int .u8 (f k), .int .i64 (g k), .string (t k)]) ag50 us50 hi rfl (by simp) (by simp [hz1]) (h2 k hlt')) rfl ?_
    refine SQ.y (OV.neqAgg guard50 rfl rfl (opEq _ _ _)) rfl ?_
    refine SQ.nil ?_
    refine SC.then ?_
    refine SC.condF rfl ?_
    refine SC.skip ?_
    refine SE.nb ?_
    refine SC.then ?_
    refine SC.region ?_
    refine SL.y (OV.add rfl rfl (wrap_i64 (by omega) (by omega))) rfl ?_
    refine SL.y (OV.move rfl) rfl ?_
    refine SL.nil ?_
    exact SE.round (k + 1) (by omega) (by omega) ⟨rfl, rfl, rfl, rfl, trivial⟩ (List.Sublist.refl _)
  · refine SC.exit ?_
    refine SE.thenE (SE.thenE (SE.inBlock ?_))
    refine SC.then ?_
    refine SC.seq ?_
    refine SC.region ?_
    refine SL.y (OV.assign rfl) rfl ?_
    refine SL.nil ?_
    refine SC.then ?_
    refine SC.ret ?_
    exact SE.ret1 Yba.results15 rfl (fun w' hM => ⟨rfl, hM⟩)

end Go.Proofs.Ybulkdrci
