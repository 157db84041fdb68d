import Derived.Test.YbulkdrciDoorPlain
namespace Go.Proofs.YbulkdrciDoor
open Go Go.RowKit Go.Proofs.YbulkdrciDoor.Sym
set_option linter.unusedVariables false
set_option linter.unusedSimpArgs false

theorem pf4 : plainFunc Ybad.prog 4 = true := by kernel_rfl
theorem pf5 : plainFunc Ybad.prog 5 = true := by kernel_rfl
theorem pf6 : plainFunc Ybad.prog 6 = true := by kernel_rfl
theorem pf7 : plainFunc Ybad.prog 7 = true := by kernel_rfl
theorem pf8 : plainFunc Ybad.prog 8 = true := by kernel_rfl
theorem pf9 : plainFunc Ybad.prog 9 = true := by kernel_rfl

theorem CF.form_coord (c : CF) : c.form[6]? = some (.bool c.coord) := by unfold CF.form; cases c.to <;> rfl
theorem CF.form_drop (c : CF) : c.form.drop 7 = c.cells := by
  obtain ⟨a, b, t, f⟩ := c
  cases t <;> rfl
theorem CF.form_cf (c : CF) (q : Nat) (v : Value) (h : c.cells[q]? = some v) : c.form[7 + q]? = some v := by
  rw [← c.form_drop, List.getElem?_drop] at h
  exact h
theorem cells66_n (i : Nat) (hi : i < 6) : cells66[0 + i * 11 + 5]? = some (.int .i64 (cf i).len) := cells66_get i hi 5 _ (cf i).form_n
theorem cells66_coord (i : Nat) (hi : i < 6) : cells66[0 + i * 11 + 6]? = some (.bool (cf i).coord) := cells66_get i hi 6 _ (cf i).form_coord
theorem cells66_cf (i : Nat) (hi : i < 6) (q : Nat) (v : Value) (h : (cf i).cells[q]? = some v) : cells66[0 + i * 11 + 7 + q]? = some v := by
  rw [Nat.add_assoc]; exact cells66_get i hi (7 + q) v ((cf i).form_cf q v h)

/-! ### The tokens -/
def tcell (tt : Nat → ByteArray) (q : Nat) : Value := if q % 3 = 0 then .string (tt (q / 3)) else if q % 3 = 1 then .int .i64 1 else .int .i64 ((q / 3 + 1 : Nat) : Int)
def tzero (q : Nat) : Value := if q % 3 = 0 then .string ⟨#[]⟩ else if q % 3 = 1 then .int .i64 0 else .int .i64 0
def tfill (tt : Nat → ByteArray) (k q : Nat) : Value := if q < k * 3 then tcell tt q else tzero q
theorem tfill_step (tt : Nat → ByteArray) (k q : Nat) : (if q = 0 + k * 3 then Value.string (tt k) else if q = 0 + k * 3 + 1 then .int .i64 1 else if q = 0 + k * 3 + 2 then .int .i64 ((k + 1 : Nat) : Int) else tfill tt k q) = tfill tt (k + 1) q := by
  unfold tfill tcell
  by_cases h0 : q = 0 + k * 3
  · have e1 : q / 3 = k := by omega
    have e2 : q % 3 = 0 := by omega
    rw [if_pos h0, if_pos (by omega), if_pos e2, e1]
  · rw [if_neg h0]
    by_cases h1 : q = 0 + k * 3 + 1
    · have e1 : q / 3 = k := by omega
      have e2 : q % 3 = 1 := by omega
      rw [if_pos h1, if_pos (by omega), if_neg (by omega), if_pos e2]
    · rw [if_neg h1]
      by_cases h2 : q = 0 + k * 3 + 2
      · have e1 : q / 3 = k := by omega
        rw [if_pos h2, if_pos (by omega), if_neg (by omega), if_neg (by omega), e1]
      · rw [if_neg h2]
        by_cases h3 : q < k * 3
        · rw [if_pos h3, if_pos (show q < (k + 1) * 3 by omega)]
        · rw [if_neg h3, if_neg (show ¬ q < (k + 1) * 3 by omega)]
theorem tcell_one (tt : Nat → ByteArray) (q : Nat) : (tcell tt q).oneCell' = true := by
  unfold tcell
  (repeat' split) <;> rfl
theorem tmade (tt : Nat → ByteArray) (n : Nat) : (madeCells #[Value.string ⟨#[]⟩, .int .i64 0, .int .i64 0] (n * 3)).toList = tab (n * 3) (tfill tt 0) := by
  refine madeCells_tab _ _ _ fun q hq => ?_
  unfold tfill tzero
  rw [if_neg (by omega)]
  have h3 : q % 3 < 3 := Nat.mod_lt _ (by decide)
  show (#[Value.string ⟨#[]⟩, .int .i64 0, .int .i64 0] : Array Value)[q % 3]! = _
  generalize q % 3 = r at *
  match r, h3 with
  | 0, _ => rfl
  | 1, _ => rfl
  | 2, _ => rfl
theorem tfull (tt : Nat → ByteArray) (n : Nat) : tab (n * 3) (tfill tt n) = tab (n * 3) (tcell tt) := tab_congr fun q hq => by unfold tfill; rw [if_pos hq]
theorem tcell0 (tt : Nat → ByteArray) (k : Nat) : tcell tt (k * 3) = .string (tt k) := by
  unfold tcell
  rw [if_pos (by omega)]
  congr 2; omega
theorem tok_at (tt : Nat → ByteArray) (k r : Nat) (v : Value) (h : (tok tt k)[r]? = some v) : r < 3 ∧ tcell tt (0 + k * 3 + r) = v := by
  have hr : r < 3 := by
    have := (List.getElem?_eq_some_iff.1 h).1
    simpa using this
  refine ⟨hr, ?_⟩
  unfold tcell
  match r, hr with
  | 0, _ =>
    have e : v = .string (tt k) := by simpa using h.symm
    rw [if_pos (by omega), e]; congr 2; omega
  | 1, _ =>
    have e : v = .int .i64 1 := by simpa using h.symm
    rw [if_neg (by omega), if_pos (by omega), e]
  | 2, _ =>
    have e : v = .int .i64 ((k + 1 : Nat) : Int) := by simpa using h.symm
    rw [if_neg (by omega), if_neg (by omega), e]
    have : (0 + k * 3 + 2) / 3 = k := by omega
    rw [this]

theorem build26 (s : ByteArray) (a t : Int) (w : World) : (Instr.build 26 #[(0, .string s), (1, .int .i64 a), (2, .int .i64 t)]).run Ybad.prog w = .ok (.agg #[.string s, .int .i64 a, .int .i64 t]) w := by kernel_rfl

theorem Mm.cellOld {w0 w : World} {F : List Nat} {m : List Blk} (hM : Mm w0 F m w) {q : Addr} {v : Value} (hF : q.block ∉ F) (hc : w0.cell? q = some v) : w.cell? q = some v := by
  rw [← hc]; exact World.cell?_of_block (hM.old q.block (block_lt_of_cell hc) hF)

abbrev toks (n : Nat) (tt : Nat → ByteArray) : Obj := row 26 (tab (n * 3) (tcell tt))
abbrev EB (b5 b9 b11 b12 n : Nat) (st : Bool) : Env := [(5, .slice (some ⟨b5, 0, none⟩) n n), (9, .pointer (some ⟨b9, 0, none⟩)), (10, .bool st), (11, .pointer (some ⟨b11, 0, none⟩)), (12, .pointer (some ⟨b12, 0, none⟩))]
abbrev MB (b5 b9 b11 b12 n : Nat) (tt : Nat → ByteArray) (c : CF) (m : Nat → Int) : List Blk := [(b5, toks n tt), (b9, row 30 c.cells), (b11, row 37 cells66), (b12, irow 39 .i64 6 m)]

/-- What crashFormOf answered. -/
def Good (Mf : Nat → Nat) (n : Nat) (r : CF × Bool) : Prop := (∃ i, i < 6 ∧ exact6 Mf n i ∧ (∀ j, j < i → ¬ exact6 Mf n j) ∧ r = (cf i, true)) ∨ ((∀ i, i < 6 → ¬ exact6 Mf n i) ∧ r = ((fold6 Mf 6).c, (fold6 Mf 6).settled))

section
variable {w0 : World} {Q : Exit → Act → World → Prop} {b5 b9 b11 b12 n : Nat} {st : Bool} {c : CF} {tt : Nat → ByteArray} {Mf : Nat → Nat}

theorem size36 : ∃ i, Ybad.prog.info? 36 = some i ∧ i.size = 11 := by
  have := info36
  cases hi : Ybad.prog.info? 36 with
  | none => simp [hi] at this
  | some i => simp [hi] at this; exact ⟨i, rfl, this⟩

/-- m[i] = zzs5897cmatch(forms[i], args) -/
theorem loopM (hM : ∀ i, i < 6 → IsM (cf i) n tt (Mf i))
    (h : SE (Q .normal) Ybad.f3.ntmps (EB b5 b9 b11 b12 n st) w0 [] (MB b5 b9 b11 b12 n tt c (fun q => (Mf q : Int)))) :
    SC Ybad.prog (sub [1, 1, 1, 1, 1, 1, 1, 1, 1, 0, 1] (Ybad.f3.body.getD .skip)) Q Ybad.f3.ntmps ((13, .int .i64 (0 : Nat)) :: EB b5 b9 b11 b12 n st) w0 [] (MB b5 b9 b11 b12 n tt c (fun _ => 0)) := by
  obtain ⟨i36, hi, hs⟩ := size36
  refine SC.block ?_
  refine SC.loop (fun i : Nat => (13, .int .i64 i) :: EB b5 b9 b11 b12 n st) (fun i => MB b5 b9 b11 b12 n tt c (fun q => if q < i then (Mf q : Int) else 0)) (fun i => i ≤ 6) (fun i => 6 - i) 0 (Nat.zero_le _) (by repeat' (first | exact trivial | refine ⟨rfl, ?_⟩)) (by simp) ?_
  intro i hi6
  refine SC.seq ?_
  refine SC.seq ?_
  refine SC.region ?_
  refine SL.y (OV.move rfl) rfl ?_
  refine SL.y (OV.lss rfl rfl) rfl ?_
  refine SL.nil ?_
  refine SC.then ?_
  refine SC.condP rfl (fun hlt => ?_) (fun hge => ?_)
  · have hlt' : i < 6 := by omega
    refine SC.skip ?_
    refine SC.then ?_
    refine SC.seq ?_
    refine SC.block ?_
    refine SC.region ?_
    refine SL.y (OV.move rfl) rfl ?_
    refine SL.y (OV.move rfl) rfl ?_
    refine SL.y (OV.idxArr i u37 hi hs rfl rfl rfl (by omega)) rfl ?_
    refine SL.y (OV.loadAgg (vs := (cf i).form) 2 ag36 us36 hi rfl rfl (by rw [hs]; exact CF.form_len _) (cells66_get i hlt')) rfl ?_
    refine SL.y (OV.move rfl) rfl ?_
    refine SL.callQ pf9 (args2 rfl rfl) (fun w hMw => call9 (cf_ok i) (hM i hlt') (fun k hk => hMw.cell (j := 0) rfl (by rw [tab_get (by omega)]; congr 1; rw [Nat.zero_add, Nat.add_zero]; exact tcell0 tt k))) rfl ?_
    refine SL.y (OV.idxArr1 i u39 sz3 rfl rfl rfl (by omega)) rfl ?_
    refine SL.s (OS.storeI 3 sz3 rfl rfl rfl (by omega)) ?_
    refine SL.nil ?_
    refine SE.nb ?_
    refine SC.then ?_
    refine SC.region ?_
    refine SL.y (OV.move rfl) rfl ?_
    refine SL.y (OV.add rfl rfl (wrap_i64 (by omega) (by omega))) rfl ?_
    refine SL.y (OV.assign rfl) rfl ?_
    refine SL.nil ?_
    refine SE.round (i + 1) (by omega) (by omega) (by repeat' (first | exact trivial | refine ⟨rfl, ?_⟩)) ?_
    rw [← upd_fill (fun q => (Mf q : Int))]
    exact List.Sublist.refl _
  · refine SC.exit ?_
    refine SE.thenE (SE.thenE (SE.inBlock ?_))
    have e : i = 6 := by omega
    subst e
    refine SE.weaken (by repeat' (first | exact trivial | refine ⟨rfl, ?_⟩)) ?_ h
    unfold MB
    rw [irow_fill (f := fun q => (Mf q : Int))]
    exact List.Sublist.refl _

/-- The line is written in one of the forms. -/
theorem loopX (hgood : Good Mf n (c, st)) (hM5 : ∀ i, Mf i ≤ 5) (hn : n ≤ 2000000)
    (hR : SE (Q .ret) Ybad.f3.ntmps [(4, .bool true)] w0 [] [])
    (h : (∀ i, i < 6 → ¬ exact6 Mf n i) → SE (Q .normal) Ybad.f3.ntmps (EB b5 b9 b11 b12 n st) w0 [] (MB b5 b9 b11 b12 n tt c (fun q => (Mf q : Int)))) :
    SC Ybad.prog (sub [1, 1, 1, 1, 1, 1, 1, 1, 1, 1, 0, 1] (Ybad.f3.body.getD .skip)) Q Ybad.f3.ntmps ((14, .int .i64 (0 : Nat)) :: EB b5 b9 b11 b12 n st) w0 [] (MB b5 b9 b11 b12 n tt c (fun q => (Mf q : Int))) := by
  obtain ⟨i36, hi, hs⟩ := size36
  obtain ⟨i30, hi30, hz0, hz1, hz2⟩ := info_parts info30
  refine SC.block ?_
  refine SC.loop (fun i : Nat => (14, .int .i64 i) :: EB b5 b9 b11 b12 n st) (fun i => MB b5 b9 b11 b12 n tt c (fun q => (Mf q : Int))) (fun i => i ≤ 6 ∧ ∀ j, j < i → ¬ exact6 Mf n j) (fun i => 6 - i) 0 ⟨Nat.zero_le _, fun j hj => absurd hj (Nat.not_lt_zero j)⟩ (by repeat' (first | exact trivial | refine ⟨rfl, ?_⟩)) (List.Sublist.refl _) ?_
  rintro i ⟨hi6, hno⟩
  have hMi5 := hM5 i
  have hL5 := (cf i).len_le
  refine SC.seq ?_
  refine SC.seq ?_
  refine SC.region ?_
  refine SL.y (OV.move rfl) rfl ?_
  refine SL.y (OV.lss rfl rfl) rfl ?_
  refine SL.nil ?_
  refine SC.then ?_
  refine SC.condP rfl (fun hlt => ?_) (fun hge => ?_)
  · have hlt' : i < 6 := by omega
    refine SC.skip ?_
    refine SC.then ?_
    refine SC.seq ?_
    refine SC.block ?_
    by_cases hex : exact6 Mf n i
    · have hr : c = cf i ∧ st = true := by
        rcases hgood with ⟨i', h1, h2, h3, h4⟩ | ⟨h1, _⟩
        · have e : i' = i := by
            rcases Nat.lt_trichotomy i' i with e | e | e
            · exact absurd h2 (hno i' e)
            · exact e
            · exact absurd hex (h3 i e)
          subst e
          simpa using h4
        · exact absurd hex (h1 i hlt')
      obtain ⟨rfl, rfl⟩ := hr
      obtain ⟨hx1, hx2⟩ := hex
      refine SC.seq ?_
      refine SC.quiet mixed (by kernel_rfl) ?_
      refine SQ.y (OV.move rfl) rfl ?_
      refine SQ.y (OV.idxArr1 i u39 sz3 rfl rfl rfl (by omega)) rfl ?_
      refine SQ.y (OV.loadI 3 sc3 rfl rfl (by omega)) rfl ?_
      refine SQ.y (OV.move rfl) rfl ?_
      refine SQ.y (OV.idxArr i u37 hi hs rfl rfl rfl (by omega)) rfl ?_
      refine SQ.y (OV.fld fo36_1 rfl) rfl ?_
      refine SQ.y (OV.load 2 sc3 rfl rfl (cells66_n i hlt')) rfl ?_
      refine SQ.y ((OV.eql rfl rfl).yes (by omega)) rfl ?_
      refine SQ.y (OV.move rfl) rfl ?_
      refine SQ.yg rfl rfl (OV.move rfl) rfl ?_
      refine SQ.yg rfl rfl (OV.idxArr i u37 hi hs rfl rfl rfl (by omega)) rfl ?_
      refine SQ.yg rfl rfl (OV.fld fo36_1 rfl) rfl ?_
      refine SQ.yg rfl rfl (OV.load 2 sc3 rfl rfl (cells66_n i hlt')) rfl ?_
      refine SQ.yg rfl rfl (OV.move rfl) rfl ?_
      refine SQ.yg rfl rfl (OV.len u23 rfl) rfl ?_
      refine SQ.yg rfl rfl ((OV.eql rfl rfl).yes (by omega)) rfl ?_
      refine SQ.y (OV.pickT rfl rfl) rfl ?_
      refine SQ.nil ?_
      refine SC.then ?_
      refine SC.condT rfl ?_
      refine SC.seq ?_
      refine SC.quiet mixed (by kernel_rfl) ?_
      refine SQ.y (OV.loadAgg (vs := (cf i).cells) 1 ag30 us30 hi30 rfl rfl (by rw [hz1]; rfl) (fun q v h => by rw [Nat.zero_add]; exact h)) rfl ?_
      refine SQ.y (OV.move rfl) rfl ?_
      refine SQ.y (OV.idxArr i u37 hi hs rfl rfl rfl (by omega)) rfl ?_
      refine SQ.y (OV.fld fo36_3 rfl) rfl ?_
      refine SQ.y (OV.loadAgg (vs := (cf i).cells) 2 ag30 us30 hi30 rfl rfl (by rw [hz1]; rfl) (cells66_cf i hlt')) rfl ?_
      refine SQ.y (OV.eqlAgg guard30 rfl rfl (opEq30 (cf i))) rfl ?_
      refine SQ.y (OV.move rfl) rfl ?_
      refine SQ.yg rfl rfl (OV.move rfl) rfl ?_
      refine SQ.y (OV.pickT rfl rfl) rfl ?_
      refine SQ.y (OV.assign rfl) rfl ?_
      refine SQ.nil ?_
      refine SC.then ?_
      refine SC.ret ?_
      repeat (first | refine SE.blockR ?_ | refine SE.thenR ?_)
      exact SE.weaken (by repeat' (first | exact trivial | refine ⟨rfl, ?_⟩)) (List.nil_sublist _) hR
    · have hno' : ∀ j, j < i + 1 → ¬ exact6 Mf n j := fun j hj => by
        by_cases e : j = i
        · subst e; exact hex
        · exact hno j (by omega)
      refine SC.cutSt ((87, .bool false) :: (14, .int .i64 i) :: EB b5 b9 b11 b12 n st) (MB b5 b9 b11 b12 n tt c (fun q => (Mf q : Int))) ?_ ?_
      · by_cases hx1 : Mf i = (cf i).len
        · have hx2 : ¬ (cf i).len = n := fun e => hex ⟨hx1, by omega⟩
          refine SC.quiet mixed (by kernel_rfl) ?_
          refine SQ.y (OV.move rfl) rfl ?_
          refine SQ.y (OV.idxArr1 i u39 sz3 rfl rfl rfl (by omega)) rfl ?_
          refine SQ.y (OV.loadI 3 sc3 rfl rfl (by omega)) rfl ?_
          refine SQ.y (OV.move rfl) rfl ?_
          refine SQ.y (OV.idxArr i u37 hi hs rfl rfl rfl (by omega)) rfl ?_
          refine SQ.y (OV.fld fo36_1 rfl) rfl ?_
          refine SQ.y (OV.load 2 sc3 rfl rfl (cells66_n i hlt')) rfl ?_
          refine SQ.y ((OV.eql rfl rfl).yes (by omega)) rfl ?_
          refine SQ.y (OV.move rfl) rfl ?_
          refine SQ.yg rfl rfl (OV.move rfl) rfl ?_
          refine SQ.yg rfl rfl (OV.idxArr i u37 hi hs rfl rfl rfl (by omega)) rfl ?_
          refine SQ.yg rfl rfl (OV.fld fo36_1 rfl) rfl ?_
          refine SQ.yg rfl rfl (OV.load 2 sc3 rfl rfl (cells66_n i hlt')) rfl ?_
          refine SQ.yg rfl rfl (OV.move rfl) rfl ?_
          refine SQ.yg rfl rfl (OV.len u23 rfl) rfl ?_
          refine SQ.yg rfl rfl ((OV.eql rfl rfl).no (by omega)) rfl ?_
          refine SQ.y (OV.pickT rfl rfl) rfl ?_
          refine SQ.nil ?_
          exact SE.toSt (by repeat' (first | exact trivial | refine ⟨rfl, ?_⟩)) (List.Sublist.refl _)
        · skip
          refine SC.quiet mixed (by kernel_rfl) ?_
          refine SQ.y (OV.move rfl) rfl ?_
          refine SQ.y (OV.idxArr1 i u39 sz3 rfl rfl rfl (by omega)) rfl ?_
          refine SQ.y (OV.loadI 3 sc3 rfl rfl (by omega)) rfl ?_
          refine SQ.y (OV.move rfl) rfl ?_
          refine SQ.y (OV.idxArr i u37 hi hs rfl rfl rfl (by omega)) rfl ?_
          refine SQ.y (OV.fld fo36_1 rfl) rfl ?_
          refine SQ.y (OV.load 2 sc3 rfl rfl (cells66_n i hlt')) rfl ?_
          refine SQ.y ((OV.eql rfl rfl).no (by omega)) rfl ?_
          refine SQ.y (OV.move rfl) rfl ?_
          refine SQ.skip rfl rfl rfl ?_
          refine SQ.skip rfl rfl rfl ?_
          refine SQ.skip rfl rfl rfl ?_
          refine SQ.skip rfl rfl rfl ?_
          refine SQ.skip rfl rfl rfl ?_
          refine SQ.skip rfl rfl rfl ?_
          refine SQ.skip rfl rfl rfl ?_
          refine SQ.y (OV.pickF rfl rfl) rfl ?_
          refine SQ.nil ?_
          exact SE.toSt (by repeat' (first | exact trivial | refine ⟨rfl, ?_⟩)) (List.Sublist.refl _)
      refine SC.condF rfl ?_
      refine SC.skip ?_
      refine SE.nb ?_
      refine SC.then ?_
      refine SC.region ?_
      refine SL.y (OV.move rfl) rfl ?_
      refine SL.y (OV.add rfl rfl (wrap_i64 (by omega) (by omega))) rfl ?_
      refine SL.y (OV.assign rfl) rfl ?_
      refine SL.nil ?_
      exact SE.round (i + 1) ⟨by omega, hno'⟩ (by omega) (by repeat' (first | exact trivial | refine ⟨rfl, ?_⟩)) (List.Sublist.refl _)
  · refine SC.exit ?_
    refine SE.thenE (SE.thenE (SE.inBlock ?_))
    have e : i = 6 := by omega
    subst e
    exact SE.weaken (by repeat' (first | exact trivial | refine ⟨rfl, ?_⟩)) (List.Sublist.refl _) (h hno)

/-- best -/
theorem loopB (hM5 : ∀ i, Mf i ≤ 5)
    (h : SE (Q .normal) Ybad.f3.ntmps ((15, .int .i64 (bestf Mf 6)) :: EB b5 b9 b11 b12 n st) w0 [] (MB b5 b9 b11 b12 n tt c (fun q => (Mf q : Int)))) :
    SC Ybad.prog (sub [1, 1, 1, 1, 1, 1, 1, 1, 1, 1, 1, 1, 0, 1] (Ybad.f3.body.getD .skip)) Q Ybad.f3.ntmps ((15, .int .i64 (0 : Nat)) :: (16, .int .i64 (1 : Nat)) :: EB b5 b9 b11 b12 n st) w0 [] (MB b5 b9 b11 b12 n tt c (fun q => (Mf q : Int))) := by
  refine SC.block ?_
  refine SC.loop (fun i : Nat => (15, .int .i64 (bestf Mf i)) :: (16, .int .i64 i) :: EB b5 b9 b11 b12 n st) (fun i => MB b5 b9 b11 b12 n tt c (fun q => (Mf q : Int))) (fun i => 1 ≤ i ∧ i ≤ 6) (fun i => 6 - i) 1 ⟨Nat.le_refl _, by omega⟩ ?_ (List.Sublist.refl _) ?_
  · rw [show bestf Mf 1 = 0 from Nat.le_zero.1 (bestf_lt Mf 0)]
    exact (by repeat' (first | exact trivial | refine ⟨rfl, ?_⟩))
  rintro i ⟨hi1, hi6⟩
  have hb : bestf Mf i < 6 := by
    obtain ⟨j, rfl⟩ : ∃ j, i = j + 1 := ⟨i - 1, by omega⟩
    have := bestf_lt Mf j
    omega
  have hnext : bestf Mf (i + 1) = if Mf (bestf Mf i) < Mf i then i else bestf Mf i := rfl
  refine SC.seq ?_
  refine SC.seq ?_
  refine SC.region ?_
  refine SL.y (OV.move rfl) rfl ?_
  refine SL.y (OV.lss rfl rfl) rfl ?_
  refine SL.nil ?_
  refine SC.then ?_
  refine SC.condP rfl (fun hlt => ?_) (fun hge => ?_)
  · have hlt' : i < 6 := by omega
    refine SC.skip ?_
    refine SC.then ?_
    refine SC.seq ?_
    refine SC.block ?_
    refine SC.seq ?_
    refine SC.quiet mixed (by kernel_rfl) ?_
    refine SQ.y (OV.move rfl) rfl ?_
    refine SQ.y (OV.idxArr1 i u39 sz3 rfl rfl rfl (by omega)) rfl ?_
    refine SQ.y (OV.loadI 3 sc3 rfl rfl (by omega)) rfl ?_
    refine SQ.y (OV.move rfl) rfl ?_
    refine SQ.y (OV.idxArr1 (bestf Mf i) u39 sz3 rfl rfl rfl (by omega)) rfl ?_
    refine SQ.y (OV.loadI 3 sc3 rfl rfl (by omega)) rfl ?_
    refine SQ.y (OV.gtr rfl rfl) rfl ?_
    refine SQ.nil ?_
    refine SC.then ?_
    refine SC.condP rfl (fun hg => ?_) (fun hg => ?_)
    · skip
      refine SC.region ?_
      refine SL.y (OV.move rfl) rfl ?_
      refine SL.y (OV.assign rfl) rfl ?_
      refine SL.nil ?_
      refine SE.nb ?_
      refine SC.then ?_
      refine SC.region ?_
      refine SL.y (OV.move rfl) rfl ?_
      refine SL.y (OV.add rfl rfl (wrap_i64 (by omega) (by omega))) rfl ?_
      refine SL.y (OV.assign rfl) rfl ?_
      refine SL.nil ?_
      refine SE.round (i + 1) ⟨by omega, by omega⟩ (by omega) ?_ (List.Sublist.refl _)
      rw [hnext, if_pos (by omega)]
      exact (by repeat' (first | exact trivial | refine ⟨rfl, ?_⟩))
    · refine SC.skip ?_
      refine SE.nb ?_
      refine SC.then ?_
      refine SC.region ?_
      refine SL.y (OV.move rfl) rfl ?_
      refine SL.y (OV.add rfl rfl (wrap_i64 (by omega) (by omega))) rfl ?_
      refine SL.y (OV.assign rfl) rfl ?_
      refine SL.nil ?_
      refine SE.round (i + 1) ⟨by omega, by omega⟩ (by omega) ?_ (List.Sublist.refl _)
      rw [hnext, if_neg (by omega)]
      exact (by repeat' (first | exact trivial | refine ⟨rfl, ?_⟩))
  · refine SC.exit ?_
    refine SE.thenE (SE.thenE (SE.inBlock ?_))
    have e : i = 6 := by omega
    subst e
    exact SE.weaken (by repeat' (first | exact trivial | refine ⟨rfl, ?_⟩)) (List.Sublist.refl _) h

/-- want -/
theorem loopW {b : Nat} (hb : b < 6) (hM5 : ∀ i, Mf i ≤ 5)
    (h : SE (Q .normal) Ybad.f3.ntmps ((15, .int .i64 b) :: (17, .bool (wantf Mf b 6)) :: EB b5 b9 b11 b12 n st) w0 [] (MB b5 b9 b11 b12 n tt c (fun q => (Mf q : Int)))) :
    SC Ybad.prog (sub [1, 1, 1, 1, 1, 1, 1, 1, 1, 1, 1, 1, 1, 1, 0, 1] (Ybad.f3.body.getD .skip)) Q Ybad.f3.ntmps ((15, .int .i64 b) :: (17, .bool true) :: (18, .int .i64 (0 : Nat)) :: EB b5 b9 b11 b12 n st) w0 [] (MB b5 b9 b11 b12 n tt c (fun q => (Mf q : Int))) := by
  obtain ⟨i36, hi, hs⟩ := size36
  refine SC.block ?_
  refine SC.loop (fun i : Nat => (15, .int .i64 b) :: (17, .bool (wantf Mf b i)) :: (18, .int .i64 i) :: EB b5 b9 b11 b12 n st) (fun i => MB b5 b9 b11 b12 n tt c (fun q => (Mf q : Int))) (fun i => i ≤ 6) (fun i => 6 - i) 0 (Nat.zero_le _) (by repeat' (first | exact trivial | refine ⟨rfl, ?_⟩)) (List.Sublist.refl _) ?_
  intro j hj6
  have hnext : wantf Mf b (j + 1) = if Mf j = Mf b ∧ (cf j).coord ≠ (cf b).coord then false else wantf Mf b j := rfl
  refine SC.seq ?_
  refine SC.seq ?_
  refine SC.region ?_
  refine SL.y (OV.move rfl) rfl ?_
  refine SL.y (OV.lss rfl rfl) rfl ?_
  refine SL.nil ?_
  refine SC.then ?_
  refine SC.condP rfl (fun hlt => ?_) (fun hge => ?_)
  · have hlt' : j < 6 := by omega
    refine SC.skip ?_
    refine SC.then ?_
    refine SC.seq ?_
    refine SC.block ?_
    refine SC.cutSt ((130, .bool (decide (Mf j = Mf b) && !((cf j).coord == (cf b).coord))) :: (15, .int .i64 b) :: (17, .bool (wantf Mf b j)) :: (18, .int .i64 j) :: EB b5 b9 b11 b12 n st) (MB b5 b9 b11 b12 n tt c (fun q => (Mf q : Int))) ?_ ?_
    · by_cases h1 : Mf j = Mf b
      · skip
        refine SC.quiet mixed (by kernel_rfl) ?_
        refine SQ.y (OV.move rfl) rfl ?_
        refine SQ.y (OV.idxArr1 j u39 sz3 rfl rfl rfl (by omega)) rfl ?_
        refine SQ.y (OV.loadI 3 sc3 rfl rfl (by omega)) rfl ?_
        refine SQ.y (OV.move rfl) rfl ?_
        refine SQ.y (OV.idxArr1 b u39 sz3 rfl rfl rfl (by omega)) rfl ?_
        refine SQ.y (OV.loadI 3 sc3 rfl rfl (by omega)) rfl ?_
        refine SQ.y ((OV.eql rfl rfl).yes (by omega)) rfl ?_
        refine SQ.y (OV.move rfl) rfl ?_
        refine SQ.yg rfl rfl (OV.move rfl) rfl ?_
        refine SQ.yg rfl rfl (OV.idxArr j u37 hi hs rfl rfl rfl (by omega)) rfl ?_
        refine SQ.yg rfl rfl (OV.fld fo36_2 rfl) rfl ?_
        refine SQ.yg rfl rfl (OV.load 2 sc4 rfl rfl (cells66_coord j hlt')) rfl ?_
        refine SQ.yg rfl rfl (OV.move rfl) rfl ?_
        refine SQ.yg rfl rfl (OV.idxArr b u37 hi hs rfl rfl rfl (by omega)) rfl ?_
        refine SQ.yg rfl rfl (OV.fld fo36_2 rfl) rfl ?_
        refine SQ.yg rfl rfl (OV.load 2 sc4 rfl rfl (cells66_coord b hb)) rfl ?_
        refine SQ.yg rfl rfl (OV.neqB u4 rfl rfl) rfl ?_
        refine SQ.y (OV.pickT rfl rfl) rfl ?_
        refine SQ.nil ?_
        refine SE.toSt ?_ (List.Sublist.refl _)
        rw [decide_eq_true h1, Bool.true_and]
        exact (by repeat' (first | exact trivial | refine ⟨rfl, ?_⟩))
      · skip
        refine SC.quiet mixed (by kernel_rfl) ?_
        refine SQ.y (OV.move rfl) rfl ?_
        refine SQ.y (OV.idxArr1 j u39 sz3 rfl rfl rfl (by omega)) rfl ?_
        refine SQ.y (OV.loadI 3 sc3 rfl rfl (by omega)) rfl ?_
        refine SQ.y (OV.move rfl) rfl ?_
        refine SQ.y (OV.idxArr1 b u39 sz3 rfl rfl rfl (by omega)) rfl ?_
        refine SQ.y (OV.loadI 3 sc3 rfl rfl (by omega)) rfl ?_
        refine SQ.y ((OV.eql rfl rfl).no (by omega)) rfl ?_
        refine SQ.y (OV.move rfl) rfl ?_
        refine SQ.skip rfl rfl rfl ?_
        refine SQ.skip rfl rfl rfl ?_
        refine SQ.skip rfl rfl rfl ?_
        refine SQ.skip rfl rfl rfl ?_
        refine SQ.skip rfl rfl rfl ?_
        refine SQ.skip rfl rfl rfl ?_
        refine SQ.skip rfl rfl rfl ?_
        refine SQ.skip rfl rfl rfl ?_
        refine SQ.skip rfl rfl rfl ?_
        refine SQ.y (OV.pickF rfl rfl) rfl ?_
        refine SQ.nil ?_
        refine SE.toSt ?_ (List.Sublist.refl _)
        rw [decide_eq_false h1, Bool.false_and]
        exact (by repeat' (first | exact trivial | refine ⟨rfl, ?_⟩))
    refine SC.cond rfl (fun h1 => ?_) (fun h1 => ?_)
    · have h2 : Mf j = Mf b ∧ (cf j).coord ≠ (cf b).coord := by simpa using h1
      refine SC.region ?_
      refine SL.y (OV.assign rfl) rfl ?_
      refine SL.nil ?_
      refine SE.nb ?_
      refine SC.then ?_
      refine SC.region ?_
      refine SL.y (OV.move rfl) rfl ?_
      refine SL.y (OV.add rfl rfl (wrap_i64 (by omega) (by omega))) rfl ?_
      refine SL.y (OV.assign rfl) rfl ?_
      refine SL.nil ?_
      refine SE.round (j + 1) (by omega) (by omega) ?_ (List.Sublist.refl _)
      rw [hnext, if_pos h2]
      exact (by repeat' (first | exact trivial | refine ⟨rfl, ?_⟩))
    · have h2 : ¬ (Mf j = Mf b ∧ (cf j).coord ≠ (cf b).coord) := by
        rintro ⟨ha, hb⟩
        simp [ha, hb] at h1
      refine SC.skip ?_
      refine SE.nb ?_
      refine SC.then ?_
      refine SC.region ?_
      refine SL.y (OV.move rfl) rfl ?_
      refine SL.y (OV.add rfl rfl (wrap_i64 (by omega) (by omega))) rfl ?_
      refine SL.y (OV.assign rfl) rfl ?_
      refine SL.nil ?_
      refine SE.round (j + 1) (by omega) (by omega) ?_ (List.Sublist.refl _)
      rw [hnext, if_neg h2]
      exact (by repeat' (first | exact trivial | refine ⟨rfl, ?_⟩))
  · refine SC.exit ?_
    refine SE.thenE (SE.thenE (SE.inBlock ?_))
    have e : j = 6 := by omega
    subst e
    exact SE.weaken (by repeat' (first | exact trivial | refine ⟨rfl, ?_⟩)) (List.Sublist.refl _) h
end
end Go.Proofs.YbulkdrciDoor
