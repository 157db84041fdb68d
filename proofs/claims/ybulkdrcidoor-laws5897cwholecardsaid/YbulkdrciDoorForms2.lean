import Derived.Test.YbulkdrciDoorForms
namespace Go.Proofs.YbulkdrciDoor
open Go Go.RowKit Go.Proofs.YbulkdrciDoor.Sym
set_option linter.unusedVariables false
set_option linter.unusedSimpArgs false

/-- slices.Clone of the tokens. -/
theorem call5 {w : World} {b n c : Nat} {xs : List Value} (hl : xs.length = n * 3) (hn : n * 32 ≤ 140737488355328) (ho : ∀ u ∈ xs, u.oneCell' = true)
    (hx : ∀ q u, xs[q]? = some u → w.cell? ⟨b, 0 + q, none⟩ = some u) :
    Calls Ybad.prog 5 #[.slice (some ⟨b, 0, none⟩) n c] w fun e w' => ∃ st : Nat × Nat × List Value, e = .returned (.slice (some ⟨st.1, 0, none⟩) n st.2.1) ∧ (st.2.1 ≤ maxLen ∧ n ≤ st.2.1 ∧ n * 3 + st.2.2.length = st.2.1 * 3) ∧ Mm w [] [(st.1, row 26 (xs ++ st.2.2))] w' := by
  obtain ⟨i, hi, hz0, hz1, hz2⟩ := info_parts info26
  refine Calls.of_SC (args := [.slice (some ⟨b, 0, none⟩) n c]) Ybad.func5 rfl (by simp [Ybad.f5]) (Mm.start w) ?_
  refine SC.seq ?_
  refine SC.region ?_
  refine SL.y (OV.assign rfl) rfl ?_
  refine SL.nil ?_
  refine SC.then ?_
  refine SC.seq ?_
  refine SC.seq ?_
  refine SC.region ?_
  refine SL.y (OV.move rfl) rfl ?_
  refine SL.y (OV.eqlNil u23 rfl) rfl ?_
  refine SL.nil ?_
  refine SC.then ?_
  refine SC.condF rfl ?_
  refine SC.skip ?_
  refine SC.then ?_
  refine SC.seq ?_
  refine SC.region ?_
  refine SL.e (OE.bslice0 u23 hi) rfl ?_
  intro nb
  refine SL.y (OV.move rfl) rfl ?_
  refine SL.e (OE.append0 0 u23 hi hz0 hz1 rfl rfl rfl rfl (Src.old (by simp) hx) hl ho (by unfold maxLen; omega) (by rw [hz2]; exact hn)) rfl ?_
  intro st
  refine SL.y (OV.assign rfl) rfl ?_
  refine SL.nil ?_
  refine SC.then ?_
  refine SC.ret ?_
  exact SE.ret1 Ybad.results5 rfl (fun w' hM => ⟨st.1, rfl, st.2, hM⟩)

theorem eqIn_int {P : Program} {d : Nat} (w : World) {T : TypeId} {k' : IntKind} (h : P.underlying T = some (.int k')) (k : IntKind) (a b : Int) : (Op.equalIn (d + 1) T (.int k a) (.int k b)).run P w = .ok (a == b) w := by
  simp [Op.equalIn, run_underlying h]
theorem eqIn_string {P : Program} {d : Nat} (w : World) {T : TypeId} (h : P.underlying T = some .string) (a b : ByteArray) : (Op.equalIn (d + 1) T (.string a) (.string b)).run P w = .ok (decide (a = b)) w := by
  rw [← bytes_beq]
  simp [Op.equalIn, run_underlying h]
  rw [← beq_toListBytes]
theorem opEq26 (s : ByteArray) (a t : Int) (w : World) : (Op.equal 26 (.agg #[.string s, .int .i64 a, .int .i64 t]) (.agg #[.string s, .int .i64 a, .int .i64 t])).run Ybad.prog w = .ok true w := by
  have h := run_equalIn_struct (P := Ybad.prog) w 9999 26 #[.string s, .int .i64 a, .int .i64 t] #[.string s, .int .i64 a, .int .i64 t] (by kernel_rfl) (by kernel_rfl)
  have hf : (Ybad.prog.fieldsOf 26).toList.map (fun f => (f.name, f.type, f.offset)) = [("text", 9, 0), ("line", 3, 1), ("col", 3, 2)] := by kernel_rfl
  unfold Op.equal Op.maxDepth
  rw [h]
  simp only [List.map_eq_cons_iff, List.map_eq_nil_iff] at hf
  obtain ⟨f0, _, hL, h0, f1, _, rfl, h1, f2, _, rfl, h2, rfl⟩ := hf
  simp only [Prod.mk.injEq] at h0 h1 h2
  obtain ⟨a0, a1, a2⟩ := h0
  obtain ⟨b0, b1, b2⟩ := h1
  obtain ⟨c0, c1, c2⟩ := h2
  rw [hL]
  have e0 := eqIn_string (P := Ybad.prog) (d := 9998) w u9 s s
  have e1 := eqIn_int (P := Ybad.prog) (d := 9998) w u3 .i64 a a
  have e2 := eqIn_int (P := Ybad.prog) (d := 9998) w u3 .i64 t t
  simp only [Nat.reduceAdd] at e0 e1 e2
  simp [Op.eqFields, a0, a1, a2, b0, b1, b2, c0, c1, c2, part, isAgg, run_underlying u3, run_underlying u9, e0, e1, e2]
theorem opEq30 (c : CF) (w : World) : (Op.equal 30 (.agg c.cells.toArray) (.agg c.cells.toArray)).run Ybad.prog w = .ok true w := by
  obtain ⟨s, s', t, a⟩ := c
  show (Op.equal 30 (.agg #[.string s, .string s', .bool t, .int .u8 a]) (.agg #[.string s, .string s', .bool t, .int .u8 a])).run Ybad.prog w = .ok true w
  have h := run_equalIn_struct (P := Ybad.prog) w 9999 30 #[.string s, .string s', .bool t, .int .u8 a] #[.string s, .string s', .bool t, .int .u8 a] (by kernel_rfl) (by kernel_rfl)
  have hf : (Ybad.prog.fieldsOf 30).toList.map (fun f => (f.name, f.type, f.offset)) = [("when", 9, 0), ("point", 9, 1), ("to", 4, 2), ("failure", 28, 3)] := by kernel_rfl
  unfold Op.equal Op.maxDepth
  rw [h]
  simp only [List.map_eq_cons_iff, List.map_eq_nil_iff] at hf
  obtain ⟨f0, _, hL, h0, f1, _, rfl, h1, f2, _, rfl, h2, f3, _, rfl, h3, rfl⟩ := hf
  simp only [Prod.mk.injEq] at h0 h1 h2 h3
  obtain ⟨a0, a1, a2⟩ := h0
  obtain ⟨b0, b1, b2⟩ := h1
  obtain ⟨c0, c1, c2⟩ := h2
  obtain ⟨d0, d1, d2⟩ := h3
  rw [hL]
  have e0 := eqIn_string (P := Ybad.prog) (d := 9998) w u9 s s
  have e1 := eqIn_string (P := Ybad.prog) (d := 9998) w u9 s' s'
  have e2 := eqIn_bool (P := Ybad.prog) (dd := 9998) w u4 t t
  have e3 := eqIn_int (P := Ybad.prog) (d := 9998) w u28 .u8 a a
  simp only [Nat.reduceAdd] at e0 e1 e2 e3
  simp [Op.eqFields, a0, a1, a2, b0, b1, b2, c0, c1, c2, d0, d1, d2, part, isAgg, run_underlying u4, run_underlying u28, run_underlying u9, e0, e1, e2, e3]

/-- The cells of one token. -/
abbrev tok (tt : Nat → ByteArray) (k : Nat) : List Value := [.string (tt k), .int .i64 1, .int .i64 (k + 1 : Nat)]

/-- slices.Equal of the tokens and their copy. -/
theorem call7 {w : World} {b1 b2 n c1 c2 : Nat} {tt : Nat → ByteArray} (hn : n ≤ 2000000)
    (h1 : ∀ k, k < n → ∀ r v, (tok tt k)[r]? = some v → w.cell? ⟨b1, 0 + k * 3 + r, none⟩ = some v)
    (h2 : ∀ k, k < n → ∀ r v, (tok tt k)[r]? = some v → w.cell? ⟨b2, 0 + k * 3 + r, none⟩ = some v) :
    Calls Ybad.prog 7 #[.slice (some ⟨b1, 0, none⟩) n c1, .slice (some ⟨b2, 0, none⟩) n c2] w fun e w' => e = .returned (.bool true) ∧ Mm w [] [] w' := by
  obtain ⟨i, hi, hz0, hz1, hz2⟩ := info_parts info26
  refine Calls.of_SC (args := [.slice (some ⟨b1, 0, none⟩) n c1, .slice (some ⟨b2, 0, none⟩) n c2]) Ybad.func7 rfl (by simp [Ybad.f7]) (Mm.start w) ?_
  refine SC.seq ?_
  refine SC.region ?_
  refine SL.y (OV.assign rfl) rfl ?_
  refine SL.nil ?_
  refine SC.then ?_
  refine SC.seq ?_
  refine SC.seq ?_
  refine SC.region ?_
  refine SL.y (OV.move rfl) rfl ?_
  refine SL.y (OV.len u23 rfl) rfl ?_
  refine SL.y (OV.move rfl) rfl ?_
  refine SL.y (OV.len u23 rfl) rfl ?_
  refine SL.y (OV.neq rfl rfl) rfl ?_
  refine SL.nil ?_
  refine SC.then ?_
  refine SC.condP rfl (fun h => absurd rfl h) (fun _ => ?_)
  refine SC.skip ?_
  refine SC.then ?_
  refine SC.seq ?_
  refine SC.seq ?_
  refine SC.region ?_
  refine SL.y (OV.move rfl) rfl ?_
  refine SL.y (OV.len u23 rfl) rfl ?_
  refine SL.y (OV.move rfl) rfl ?_
  refine SL.nil ?_
  refine SC.then ?_
  refine SC.block ?_
  refine SC.loop (fun k : Nat => [(0, .slice (some ⟨b1, 0, none⟩) n c1), (1, .slice (some ⟨b2, 0, none⟩) n c2), (12, .int .i64 n), (13, .int .i64 k)]) (fun _ => []) (fun k => k ≤ n) (fun k => n - k) 0 (Nat.zero_le _) ⟨rfl, rfl, rfl, rfl, trivial⟩ (List.Sublist.refl _) ?_
  intro k hk
  refine SC.seq ?_
  refine SC.region ?_
  refine SL.y (OV.lss rfl rfl) rfl ?_
  refine SL.nil ?_
  refine SC.then ?_
  refine SC.seq ?_
  refine SC.condP rfl (fun hlt => ?_) (fun hge => ?_)
  · have hlt' : k < n := by omega
    refine SC.skip ?_
    refine SC.then ?_
    refine SC.seq ?_
    refine SC.block ?_
    refine SC.seq ?_
    refine SC.region ?_
    refine SL.y (OV.move rfl) rfl ?_
    refine SL.y (OV.assign rfl) rfl ?_
    refine SL.nil ?_
    refine SC.then ?_
    refine SC.seq ?_
    refine SC.quiet mixed (by kernel_rfl) ?_
    refine SQ.y (OV.move rfl) rfl ?_
    refine SQ.y (OV.move rfl) rfl ?_
    refine SQ.y (OV.idx k u23 hi hz1 rfl rfl rfl (by omega)) rfl ?_
    refine SQ.y (OV.loadAggOld (vs := tok tt k) ag26 us26 hi rfl (by simp) (by simp [hz1]) (h1 k hlt')) rfl ?_
    refine SQ.y (OV.move rfl) rfl ?_
    refine SQ.y (OV.move rfl) rfl ?_
    refine SQ.y (OV.idx k u23 hi hz1 rfl rfl rfl (by omega)) rfl ?_
    refine SQ.y (OV.loadAggOld (vs := tok tt k) ag26 us26 hi rfl (by simp) (by simp [hz1]) (h2 k hlt')) rfl ?_
    refine SQ.y (OV.neqAgg guard26 rfl rfl (opEq26 _ _ _)) rfl ?_
    refine SQ.nil ?_
    refine SC.then ?_
    refine SC.condF rfl ?_
    refine SC.skip ?_
    refine SE.nb ?_
    refine SC.then ?_
    refine SC.region ?_
    refine SL.y (OV.add rfl rfl (wrap_i64 (by omega) (by omega))) rfl ?_
    refine SL.y (OV.move rfl) rfl ?_
    refine SL.nil ?_
    exact SE.round (k + 1) (by omega) (by omega) ⟨rfl, rfl, rfl, rfl, trivial⟩ (List.Sublist.refl _)
  · refine SC.exit ?_
    refine SE.thenE (SE.thenE (SE.inBlock ?_))
    refine SC.then ?_
    refine SC.seq ?_
    refine SC.region ?_
    refine SL.y (OV.assign rfl) rfl ?_
    refine SL.nil ?_
    refine SC.then ?_
    refine SC.ret ?_
    exact SE.ret1 Ybad.results7 rfl (fun w' hM => ⟨rfl, hM⟩)

/-- zzs5897cmatch -/
theorem call9 {c : CF} (hok : c.ok) {w : World} {b n cc : Nat} {tt : Nat → ByteArray} {M : Nat} (hM : IsM c n tt M) (ht : ∀ k, k < n → w.cell? ⟨b, 0 + k * 3 + 0, none⟩ = some (.string (tt k))) :
    Calls Ybad.prog 9 #[.agg c.form.toArray, .slice (some ⟨b, 0, none⟩) n cc] w fun e w' => e = .returned (.int .i64 M) ∧ Mm w [] [] w' := by
  obtain ⟨i, hi, hz0, hz1, hz2⟩ := info_parts info26
  have hML := hM.le
  have hL5 := c.len_le
  refine Calls.of_SC (args := [.agg c.form.toArray, .slice (some ⟨b, 0, none⟩) n cc]) Ybad.func9 rfl (by simp [Ybad.f9]) (Mm.start w) ?_
  refine SC.seq ?_
  refine SC.region ?_
  refine SL.e (OE.box rfl) rfl ?_
  intro b1
  refine SL.y (OV.assign rfl) rfl ?_
  refine SL.nil ?_
  refine SC.then ?_
  refine SC.seq ?_
  refine SC.region ?_
  refine SL.y (OV.assign rfl) rfl ?_
  refine SL.nil ?_
  refine SC.then ?_
  refine SC.seq ?_
  refine SC.block ?_
  refine SC.loop (fun k : Nat => [(1, .slice (some ⟨b, 0, none⟩) n cc), (2, .pointer (some ⟨b1, 0, none⟩)), (5, .int .i64 k)]) (fun _ => [(b1, row 36 c.form)]) (fun k => k ≤ M) (fun k => M - k) 0 (Nat.zero_le _) ⟨rfl, rfl, rfl, trivial⟩ (List.Sublist.refl _) ?_
  intro k hk
  have hexit : ¬ go c n tt k → k = M := fun h => by
    rcases Nat.lt_or_ge k M with h1 | h1
    · exact absurd (hM.1 k h1) h
    · omega
  have hgo : go c n tt k → k < M := fun h => by
    rcases Nat.lt_or_ge k M with h1 | h1
    · exact h1
    · have : k = M := by omega
      subst this; exact absurd h hM.2
  refine SC.seq ?_
  refine SC.cutG (fun g : Bool => [(34, .bool g), (1, .slice (some ⟨b, 0, none⟩) n cc), (2, .pointer (some ⟨b1, 0, none⟩)), (5, .int .i64 k)]) (fun _ => [(b1, row 36 c.form)]) (fun g => g = true ↔ go c n tt k) ?_ ?_
  · by_cases h1 : k < c.len
    · by_cases h2 : k < n
      · have hat := c.form_at h1
        by_cases h3 : k = 0 ∨ k = 4
        · have hat' : c.form[k]? = some (.string bNone) := by
            rw [hat]; rcases h3 with e | e <;> subst e <;> rfl
          refine SC.quiet mixed (by kernel_rfl) ?_
          refine SQ.y (OV.move rfl) rfl ?_
          refine SQ.y (OV.fld fo36_1 rfl) rfl ?_
          refine SQ.y (OV.load 0 sc3 rfl rfl c.form_n) rfl ?_
          refine SQ.y ((OV.lss rfl rfl).yes (by omega)) rfl ?_
          refine SQ.y (OV.move rfl) rfl ?_
          refine SQ.yg rfl rfl (OV.move rfl) rfl ?_
          refine SQ.yg rfl rfl (OV.move rfl) rfl ?_
          refine SQ.yg rfl rfl (OV.len u23 rfl) rfl ?_
          refine SQ.yg rfl rfl ((OV.lss rfl rfl).yes (by omega)) rfl ?_
          refine SQ.y (OV.pickT rfl rfl) rfl ?_
          refine SQ.y (OV.move rfl) rfl ?_
          refine SQ.yg rfl rfl (OV.move rfl) rfl ?_
          refine SQ.yg rfl rfl (OV.fld fo36_0 rfl) rfl ?_
          refine SQ.yg rfl rfl (OV.idxArr1 k u34 sz9 rfl rfl rfl (by omega)) rfl ?_
          refine SQ.yg rfl rfl (OV.load 0 sc9 rfl rfl hat') rfl ?_
          refine SQ.yg rfl rfl ((OV.eqlS rfl rfl).yes rfl) rfl ?_
          refine SQ.yg rfl rfl (OV.move rfl) rfl ?_
          refine SQ.skip rfl rfl rfl ?_
          refine SQ.skip rfl rfl rfl ?_
          refine SQ.skip rfl rfl rfl ?_
          refine SQ.skip rfl rfl rfl ?_
          refine SQ.skip rfl rfl rfl ?_
          refine SQ.skip rfl rfl rfl ?_
          refine SQ.skip rfl rfl rfl ?_
          refine SQ.skip rfl rfl rfl ?_
          refine SQ.skip rfl rfl rfl ?_
          refine SQ.skip rfl rfl rfl ?_
          refine SQ.yg rfl rfl (OV.pickT rfl rfl) rfl ?_
          refine SQ.y (OV.pickT rfl rfl) rfl ?_
          refine SQ.nil ?_
          exact SE.toG true (by simp; exact ⟨h1, h2, by omega⟩) (by repeat' (first | exact trivial | refine ⟨rfl, ?_⟩)) (List.Sublist.refl _)
        · have hne : ¬ k = 0 ∧ ¬ k = 4 := by omega
          rw [if_neg hne.1, if_neg hne.2] at hat
          refine SC.quiet mixed (by kernel_rfl) ?_
          refine SQ.y (OV.move rfl) rfl ?_
          refine SQ.y (OV.fld fo36_1 rfl) rfl ?_
          refine SQ.y (OV.load 0 sc3 rfl rfl c.form_n) rfl ?_
          refine SQ.y ((OV.lss rfl rfl).yes (by omega)) rfl ?_
          refine SQ.y (OV.move rfl) rfl ?_
          refine SQ.yg rfl rfl (OV.move rfl) rfl ?_
          refine SQ.yg rfl rfl (OV.move rfl) rfl ?_
          refine SQ.yg rfl rfl (OV.len u23 rfl) rfl ?_
          refine SQ.yg rfl rfl ((OV.lss rfl rfl).yes (by omega)) rfl ?_
          refine SQ.y (OV.pickT rfl rfl) rfl ?_
          refine SQ.y (OV.move rfl) rfl ?_
          refine SQ.yg rfl rfl (OV.move rfl) rfl ?_
          refine SQ.yg rfl rfl (OV.fld fo36_0 rfl) rfl ?_
          refine SQ.yg rfl rfl (OV.idxArr1 k u34 sz9 rfl rfl rfl (by omega)) rfl ?_
          refine SQ.yg rfl rfl (OV.load 0 sc9 rfl rfl hat) rfl ?_
          refine SQ.yg rfl rfl ((OV.eqlS rfl rfl).no (hok k).1) rfl ?_
          refine SQ.yg rfl rfl (OV.move rfl) rfl ?_
          refine SQ.yg rfl rfl (OV.move rfl) rfl ?_
          refine SQ.yg rfl rfl (OV.fld fo36_0 rfl) rfl ?_
          refine SQ.yg rfl rfl (OV.idxArr1 k u34 sz9 rfl rfl rfl (by omega)) rfl ?_
          refine SQ.yg rfl rfl (OV.load 0 sc9 rfl rfl hat) rfl ?_
          refine SQ.yg rfl rfl (OV.move rfl) rfl ?_
          refine SQ.yg rfl rfl (OV.move rfl) rfl ?_
          refine SQ.yg rfl rfl (OV.idx k u23 hi hz1 rfl rfl rfl (by omega)) rfl ?_
          refine SQ.yg rfl rfl (OV.fld fo26_0 rfl) rfl ?_
          refine SQ.yg rfl rfl (OV.loadOld sc9 rfl (by simp) (ht k h2)) rfl ?_
          refine SQ.yg rfl rfl (OV.eqlS rfl rfl) rfl ?_
          refine SQ.yg rfl rfl (OV.pickF rfl rfl) rfl ?_
          refine SQ.y (OV.pickT rfl rfl) rfl ?_
          refine SQ.nil ?_
          have hiff : decide (c.mid k = tt k) = true ↔ go c n tt k := by
            rw [decide_eq_true_eq]
            refine ⟨fun h => ⟨h1, h2, .inr (.inr h)⟩, fun h => ?_⟩
            rcases h.2.2 with e | e | e
            · exact absurd e hne.1
            · exact absurd e hne.2
            · exact e
          exact SE.toG (decide (c.mid k = tt k)) hiff (by repeat' (first | exact trivial | refine ⟨rfl, ?_⟩)) (List.Sublist.refl _)
      · skip
        refine SC.quiet mixed (by kernel_rfl) ?_
        refine SQ.y (OV.move rfl) rfl ?_
        refine SQ.y (OV.fld fo36_1 rfl) rfl ?_
        refine SQ.y (OV.load 0 sc3 rfl rfl c.form_n) rfl ?_
        refine SQ.y ((OV.lss rfl rfl).yes (by omega)) rfl ?_
        refine SQ.y (OV.move rfl) rfl ?_
        refine SQ.yg rfl rfl (OV.move rfl) rfl ?_
        refine SQ.yg rfl rfl (OV.move rfl) rfl ?_
        refine SQ.yg rfl rfl (OV.len u23 rfl) rfl ?_
        refine SQ.yg rfl rfl ((OV.lss rfl rfl).no (by omega)) rfl ?_
        refine SQ.y (OV.pickT rfl rfl) rfl ?_
        refine SQ.y (OV.move rfl) rfl ?_
        refine SQ.skip rfl rfl rfl ?_
        refine SQ.skip rfl rfl rfl ?_
        refine SQ.skip rfl rfl rfl ?_
        refine SQ.skip rfl rfl rfl ?_
        refine SQ.skip rfl rfl rfl ?_
        refine SQ.skip rfl rfl rfl ?_
        refine SQ.skipU rfl rfl rfl ?_
        refine SQ.skipU rfl rfl rfl ?_
        refine SQ.skipU rfl rfl rfl ?_
        refine SQ.skipU rfl rfl rfl ?_
        refine SQ.skipU rfl rfl rfl ?_
        refine SQ.skipU rfl rfl rfl ?_
        refine SQ.skipU rfl rfl rfl ?_
        refine SQ.skipU rfl rfl rfl ?_
        refine SQ.skipU rfl rfl rfl ?_
        refine SQ.skipU rfl rfl rfl ?_
        refine SQ.skip rfl rfl rfl ?_
        refine SQ.y (OV.pickF rfl rfl) rfl ?_
        refine SQ.nil ?_
        exact SE.toG false (by simp; exact fun h => absurd h.2.1 h2) (by repeat' (first | exact trivial | refine ⟨rfl, ?_⟩)) (List.Sublist.refl _)
    · skip
      refine SC.quiet mixed (by kernel_rfl) ?_
      refine SQ.y (OV.move rfl) rfl ?_
      refine SQ.y (OV.fld fo36_1 rfl) rfl ?_
      refine SQ.y (OV.load 0 sc3 rfl rfl c.form_n) rfl ?_
      refine SQ.y ((OV.lss rfl rfl).no (by omega)) rfl ?_
      refine SQ.y (OV.move rfl) rfl ?_
      refine SQ.skip rfl rfl rfl ?_
      refine SQ.skip rfl rfl rfl ?_
      refine SQ.skip rfl rfl rfl ?_
      refine SQ.skip rfl rfl rfl ?_
      refine SQ.y (OV.pickF rfl rfl) rfl ?_
      refine SQ.y (OV.move rfl) rfl ?_
      refine SQ.skip rfl rfl rfl ?_
      refine SQ.skip rfl rfl rfl ?_
      refine SQ.skip rfl rfl rfl ?_
      refine SQ.skip rfl rfl rfl ?_
      refine SQ.skip rfl rfl rfl ?_
      refine SQ.skip rfl rfl rfl ?_
      refine SQ.skipU rfl rfl rfl ?_
      refine SQ.skipU rfl rfl rfl ?_
      refine SQ.skipU rfl rfl rfl ?_
      refine SQ.skipU rfl rfl rfl ?_
      refine SQ.skipU rfl rfl rfl ?_
      refine SQ.skipU rfl rfl rfl ?_
      refine SQ.skipU rfl rfl rfl ?_
      refine SQ.skipU rfl rfl rfl ?_
      refine SQ.skipU rfl rfl rfl ?_
      refine SQ.skipU rfl rfl rfl ?_
      refine SQ.skip rfl rfl rfl ?_
      refine SQ.y (OV.pickF rfl rfl) rfl ?_
      refine SQ.nil ?_
      exact SE.toG false (by simp; exact fun h => absurd h.1 h1) (by repeat' (first | exact trivial | refine ⟨rfl, ?_⟩)) (List.Sublist.refl _)
  intro g hg
  refine SC.cond rfl (fun e => ?_) (fun e => ?_)
  · have hlt := hgo (hg.1 e)
    refine SC.skip ?_
    refine SC.then ?_
    refine SC.block ?_
    refine SC.region ?_
    refine SL.y (OV.move rfl) rfl ?_
    refine SL.y (OV.add rfl rfl (wrap_i64 (by omega) (by omega))) rfl ?_
    refine SL.y (OV.assign rfl) rfl ?_
    refine SL.nil ?_
    refine SE.nb ?_
    exact SE.round (k + 1) (by omega) (by omega) ⟨rfl, rfl, rfl, trivial⟩ (List.Sublist.refl _)
  · have hx := hexit (fun h => by rw [hg.2 h] at e; cases e)
    subst hx
    refine SC.exit ?_
    refine SE.thenE (SE.thenE (SE.inBlock ?_))
    refine SC.then ?_
    refine SC.seq ?_
    refine SC.region ?_
    refine SL.y (OV.move rfl) rfl ?_
    refine SL.y (OV.assign rfl) rfl ?_
    refine SL.nil ?_
    refine SC.then ?_
    refine SC.ret ?_
    exact SE.ret1 Ybad.results9 rfl (fun w' hM => ⟨rfl, hM.weaken (List.nil_sublist _)⟩)
end Go.Proofs.YbulkdrciDoor
