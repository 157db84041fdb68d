import Derived.Test.YbulkdrciDoorTypes
import Derived.Test.YbulkdrciDoorOps4
namespace Go.Proofs.YbulkdrciDoor
open Go Go.RowKit Go.Proofs.YbulkdrciDoor.Sym
set_option linter.unusedVariables false
set_option linter.unusedSimpArgs false

/-! ### The plain words -/
def bAlice : ByteArray := ⟨#[97, 108, 105, 99, 101]⟩
def bAfter : ByteArray := ⟨#[97, 102, 116, 101, 114]⟩
def bBefore : ByteArray := ⟨#[98, 101, 102, 111, 114, 101]⟩
def bReady : ByteArray := ⟨#[114, 101, 97, 100, 121]⟩
def bPrepare : ByteArray := ⟨#[112, 114, 101, 112, 97, 114, 101]⟩
def bDecision : ByteArray := ⟨#[100, 101, 99, 105, 115, 105, 111, 110]⟩
def bTo : ByteArray := ⟨#[116, 111]⟩
def bP : ByteArray := ⟨#[80]⟩
def bName : ByteArray := ⟨#[78, 65, 77, 69]⟩
def bNone : ByteArray := ⟨#[]⟩

/-- One form of a crash line. -/
structure CF where
  (whn point : ByteArray)
  (to : Bool)
  (fail : Int)
def CF.cells (c : CF) : List Value := [.string c.whn, .string c.point, .bool c.to, .int .u8 c.fail]
def CF.len (c : CF) : Nat := bif c.to then 5 else 3
def CF.coord (c : CF) : Bool := decide (c.fail = 4) || decide (c.fail = 5)
/-- The words that must be met. -/
def CF.mid (c : CF) : Nat → ByteArray
  | 1 => c.whn
  | 2 => c.point
  | _ => bTo
def CF.words (c : CF) : List Value := bif c.to then [.string bName, .string c.whn, .string c.point, .string bTo, .string bP] else [.string bName, .string c.whn, .string c.point]
def CF.form (c : CF) : List Value := (bif c.to then [.string bNone, .string c.whn, .string c.point, .string bTo, .string bNone] else [.string bNone, .string c.whn, .string c.point, .string bNone, .string bNone]) ++ [.int .i64 c.len, .bool c.coord, .string c.whn, .string c.point, .bool c.to, .int .u8 c.fail]

def cf : Nat → CF
  | 0 => ⟨bAfter, bReady, false, 2⟩
  | 1 => ⟨bBefore, bPrepare, false, 3⟩
  | 2 => ⟨bAfter, bPrepare, false, 4⟩
  | 3 => ⟨bAfter, bPrepare, true, 4⟩
  | 4 => ⟨bAfter, bDecision, false, 5⟩
  | _ => ⟨bAfter, bDecision, true, 5⟩

def CF.ok (c : CF) : Prop := ∀ k, c.mid k ≠ bNone ∧ c.mid k ≠ bName ∧ c.mid k ≠ bP
theorem cf_ok (i : Nat) : (cf i).ok := by
  intro k
  unfold cf
  split <;> (unfold CF.mid; split <;> decide)
theorem CF.len_le (c : CF) : c.len ≤ 5 := by unfold CF.len; cases c.to <;> decide
theorem CF.cells_len (c : CF) : c.cells.length = 4 := rfl
theorem CF.form_len (c : CF) : c.form.length = 11 := by unfold CF.form; cases c.to <;> rfl
theorem CF.words_len (c : CF) : c.words.length = c.len := by unfold CF.words CF.len; cases c.to <;> rfl
theorem CF.cells_one (c : CF) : ∀ u ∈ c.cells, u.oneCell' = true := by unfold CF.cells; simp [Value.oneCell']
theorem CF.form_one (c : CF) : ∀ u ∈ c.form, u.oneCell' = true := by unfold CF.form; cases c.to <;> simp [Value.oneCell']

/-- The k-th word of the form, of the table's kind. -/
theorem CF.words_at (c : CF) {k : Nat} (h : k < c.len) : c.words[k]? = some (.string (if k = 0 then bName else if k = 4 then bP else c.mid k)) := by
  obtain ⟨a, b, t, f⟩ := c
  cases t
  · have h : k < 3 := h
    match k, h with
    | 0, _ | 1, _ | 2, _ => rfl
  · have h : k < 5 := h
    match k, h with
    | 0, _ | 1, _ | 2, _ | 3, _ | 4, _ => rfl
theorem CF.form_at (c : CF) {k : Nat} (h : k < c.len) : c.form[k]? = some (.string (if k = 0 then bNone else if k = 4 then bNone else c.mid k)) := by
  obtain ⟨a, b, t, f⟩ := c
  cases t
  · have h : k < 3 := h
    match k, h with
    | 0, _ | 1, _ | 2, _ => rfl
  · have h : k < 5 := h
    match k, h with
    | 0, _ | 1, _ | 2, _ | 3, _ | 4, _ => rfl
theorem CF.form_n (c : CF) : c.form[5]? = some (.int .i64 c.len) := by unfold CF.form; cases c.to <;> rfl

/-- The k-th word of a line is in its place. -/
def go (c : CF) (n : Nat) (tt : Nat → ByteArray) (k : Nat) : Prop := k < c.len ∧ k < n ∧ (k = 0 ∨ k = 4 ∨ c.mid k = tt k)
/-- So many leading words are in their places. -/
def IsM (c : CF) (n : Nat) (tt : Nat → ByteArray) (k : Nat) : Prop := (∀ j, j < k → go c n tt j) ∧ ¬ go c n tt k
theorem IsM.uniq {c : CF} {n : Nat} {tt : Nat → ByteArray} {k k' : Nat} (h : IsM c n tt k) (h' : IsM c n tt k') : k = k' := by
  rcases Nat.lt_trichotomy k k' with e | e | e
  · exact absurd (h'.1 k e) h.2
  · exact e
  · exact absurd (h.1 k' e) h'.2
theorem IsM.ex (c : CF) (n : Nat) (tt : Nat → ByteArray) : ∃ k, IsM c n tt k := by
  have : ∀ f k, k + f = c.len → (∀ j, j < k → go c n tt j) → ∃ k, IsM c n tt k := by
    intro f
    induction f with
    | zero => intro k hk h; exact ⟨k, h, fun hg => by have := hg.1; omega⟩
    | succ f ih =>
      intro k hk h
      by_cases hg : go c n tt k
      · exact ih (k + 1) (by omega) fun j hj => by
          by_cases e : j = k
          · subst e; exact hg
          · exact h j (by omega)
      · exact ⟨k, h, hg⟩
  exact this c.len 0 (by omega) (by intro j hj; omega)
theorem IsM.le {c : CF} {n : Nat} {tt : Nat → ByteArray} {k : Nat} (h : IsM c n tt k) : k ≤ c.len := by
  rcases Nat.eq_zero_or_pos k with e | e
  · omega
  · have := (h.1 (k - 1) (by omega)).1; omega

theorem info9 : (Ybad.prog.info? 9).map (fun i => (i.zero, i.size, i.bytes)) = some (some (.string ⟨#[]⟩), 1, 16) := by kernel_rfl
theorem info26 : (Ybad.prog.info? 26).map (fun i => (i.zero, i.size, i.bytes)) = some (some (.agg #[.string ⟨#[]⟩, .int .i64 0, .int .i64 0]), 3, 32) := by kernel_rfl
theorem info30 : (Ybad.prog.info? 30).map (fun i => (i.zero, i.size, i.bytes)) = some (some (.agg #[.string ⟨#[]⟩, .string ⟨#[]⟩, .bool false, .int .u8 0]), 4, 40) := by kernel_rfl
theorem info36 : (Ybad.prog.info? 36).map (fun i => i.size) = some 11 := by kernel_rfl
theorem info37 : (Ybad.prog.info? 37).map (fun i => (i.zero.map (·.cells.size), i.size)) = some (some 66, 66) := by kernel_rfl
theorem info39 : (Ybad.prog.info? 39).map (fun i => (i.zero, i.size)) = some (some (.agg #[.int .i64 0, .int .i64 0, .int .i64 0, .int .i64 0, .int .i64 0, .int .i64 0]), 6) := by kernel_rfl
theorem info_parts {P : Program} {e : TypeId} {z : Value} {s b : Nat} (h : (P.info? e).map (fun i => (i.zero, i.size, i.bytes)) = some (some z, s, b)) : ∃ i, P.info? e = some i ∧ i.zero = some z ∧ i.size = s ∧ i.bytes = b := by
  cases hi : P.info? e with
  | none => simp [hi] at h
  | some i => simp [hi] at h; exact ⟨i, rfl, h.1, h.2.1, h.2.2⟩
theorem ag26 : scalar Ybad.prog 26 = false := by kernel_rfl
theorem us26 : (Ybad.prog.underlying 26).isSome = true := by kernel_rfl
theorem ag30 : scalar Ybad.prog 30 = false := by kernel_rfl
theorem us30 : (Ybad.prog.underlying 30).isSome = true := by kernel_rfl
theorem ag36 : scalar Ybad.prog 36 = false := by kernel_rfl
theorem us36 : (Ybad.prog.underlying 36).isSome = true := by kernel_rfl
theorem ag37 : scalar Ybad.prog 37 = false := by kernel_rfl
theorem us37 : (Ybad.prog.underlying 37).isSome = true := by kernel_rfl
theorem u34 : Ybad.prog.underlying 34 = some (.array 5 9) := by kernel_rfl
theorem u37 : Ybad.prog.underlying 37 = some (.array 6 36) := by kernel_rfl
theorem u39 : Ybad.prog.underlying 39 = some (.array 6 3) := by kernel_rfl
theorem guard26 : Ybad.prog.eqGuardType Ybad.prog.depth 26 = false := by kernel_rfl
theorem guard30 : Ybad.prog.eqGuardType Ybad.prog.depth 30 = false := by kernel_rfl

/-- ofCoordinator -/
theorem call11 (c : CF) (w : World) : Calls Ybad.prog 11 #[.int .u8 c.fail] w fun e w' => e = .returned (.bool c.coord) ∧ Mm w [] [] w' := by
  refine Calls.of_SC (args := [.int .u8 c.fail]) Ybad.func11 rfl (by simp [Ybad.f11]) (Mm.start w) ?_
  refine SC.seq ?_
  refine SC.region ?_
  refine SL.y (OV.assign rfl) rfl ?_
  refine SL.nil ?_
  refine SC.then ?_
  refine SC.seq ?_
  by_cases h : c.fail = 4
  · skip
    refine SC.region ?_
    refine SL.y (OV.move rfl) rfl ?_
    refine SL.y ((OV.eql rfl rfl).yes h) rfl ?_
    refine SL.y (OV.move rfl) rfl ?_
    refine SL.skip rfl rfl rfl ?_
    refine SL.skip rfl rfl rfl ?_
    refine SL.y (OV.pickT rfl rfl) rfl ?_
    refine SL.y (OV.assign rfl) rfl ?_
    refine SL.nil ?_
    refine SC.then ?_
    refine SC.ret ?_
    exact SE.ret1 Ybad.results11 rfl (fun w' hM => ⟨by simp [CF.coord, h], hM⟩)
  · skip
    refine SC.region ?_
    refine SL.y (OV.move rfl) rfl ?_
    refine SL.y ((OV.eql rfl rfl).no h) rfl ?_
    refine SL.y (OV.move rfl) rfl ?_
    refine SL.yg rfl rfl (OV.move rfl) rfl ?_
    refine SL.yg rfl rfl (OV.eql rfl rfl) rfl ?_
    refine SL.y (OV.pickF rfl rfl) rfl ?_
    refine SL.y (OV.assign rfl) rfl ?_
    refine SL.nil ?_
    refine SC.then ?_
    refine SC.ret ?_
    exact SE.ret1 Ybad.results11 rfl (fun w' hM => ⟨by simp [CF.coord, h], hM⟩)

/-- zzs5897cword -/
def wordOf (k : Int) (raw : ByteArray) : ByteArray :=
  if k = 0 then bAlice else if k = 1 then bAfter else if k = 2 then bBefore else if k = 3 then bReady else if k = 4 then bPrepare else if k = 5 then bDecision else if k = 6 then bTo else if k = 7 then bP else if k = 8 then bName else raw
theorem call4 (k : Int) (raw : ByteArray) (w : World) : Calls Ybad.prog 4 #[.int .i64 k, .string raw] w fun e w' => e = .returned (.string (wordOf k raw)) ∧ Mm w [] [] w' := by
  refine Calls.of_SC (args := [.int .i64 k, .string raw]) Ybad.func4 rfl (by simp [Ybad.f4]) (Mm.start w) ?_
  refine SC.seq ?_
  refine SC.region ?_
  refine SL.y (OV.assign rfl) rfl ?_
  refine SL.nil ?_
  refine SC.then ?_
  refine SC.seq ?_
  refine SC.seq ?_
  refine SC.region ?_
  refine SL.y (OV.move rfl) rfl ?_
  refine SL.nil ?_
  refine SC.then ?_
  refine SC.block ?_
  refine SC.seq ?_
  refine SC.region ?_
  refine SL.y (OV.eql rfl rfl) rfl ?_
  refine SL.y (OV.assign rfl) rfl ?_
  refine SL.nil ?_
  refine SC.then ?_
  refine SC.condP rfl (fun h0 => ?_) (fun h0 => ?_)
  · skip
    refine SC.seq ?_
    refine SC.region ?_
    refine SL.y (OV.assign rfl) rfl ?_
    refine SL.nil ?_
    refine SC.then ?_
    refine SC.ret ?_
    refine SE.blockR (SE.thenR ?_)
    exact SE.ret1 Ybad.results4 rfl (fun w' hM => ⟨by simp only [wordOf,  h0, if_true, if_false]; rfl, hM⟩)
  refine SC.seq ?_
  refine SC.region ?_
  refine SL.y (OV.eql rfl rfl) rfl ?_
  refine SL.y (OV.assign rfl) rfl ?_
  refine SL.nil ?_
  refine SC.then ?_
  refine SC.condP rfl (fun h1 => ?_) (fun h1 => ?_)
  · skip
    refine SC.seq ?_
    refine SC.region ?_
    refine SL.y (OV.assign rfl) rfl ?_
    refine SL.nil ?_
    refine SC.then ?_
    refine SC.ret ?_
    refine SE.blockR (SE.thenR ?_)
    exact SE.ret1 Ybad.results4 rfl (fun w' hM => ⟨by simp only [wordOf, h0, h1, if_true, if_false]; rfl, hM⟩)
  refine SC.seq ?_
  refine SC.region ?_
  refine SL.y (OV.eql rfl rfl) rfl ?_
  refine SL.y (OV.assign rfl) rfl ?_
  refine SL.nil ?_
  refine SC.then ?_
  refine SC.condP rfl (fun h2 => ?_) (fun h2 => ?_)
  · skip
    refine SC.seq ?_
    refine SC.region ?_
    refine SL.y (OV.assign rfl) rfl ?_
    refine SL.nil ?_
    refine SC.then ?_
    refine SC.ret ?_
    refine SE.blockR (SE.thenR ?_)
    exact SE.ret1 Ybad.results4 rfl (fun w' hM => ⟨by simp only [wordOf, h0, h1, h2, if_true, if_false]; rfl, hM⟩)
  refine SC.seq ?_
  refine SC.region ?_
  refine SL.y (OV.eql rfl rfl) rfl ?_
  refine SL.y (OV.assign rfl) rfl ?_
  refine SL.nil ?_
  refine SC.then ?_
  refine SC.condP rfl (fun h3 => ?_) (fun h3 => ?_)
  · skip
    refine SC.seq ?_
    refine SC.region ?_
    refine SL.y (OV.assign rfl) rfl ?_
    refine SL.nil ?_
    refine SC.then ?_
    refine SC.ret ?_
    refine SE.blockR (SE.thenR ?_)
    exact SE.ret1 Ybad.results4 rfl (fun w' hM => ⟨by simp only [wordOf, h0, h1, h2, h3, if_true, if_false]; rfl, hM⟩)
  refine SC.seq ?_
  refine SC.region ?_
  refine SL.y (OV.eql rfl rfl) rfl ?_
  refine SL.y (OV.assign rfl) rfl ?_
  refine SL.nil ?_
  refine SC.then ?_
  refine SC.condP rfl (fun h4 => ?_) (fun h4 => ?_)
  · skip
    refine SC.seq ?_
    refine SC.region ?_
    refine SL.y (OV.assign rfl) rfl ?_
    refine SL.nil ?_
    refine SC.then ?_
    refine SC.ret ?_
    refine SE.blockR (SE.thenR ?_)
    exact SE.ret1 Ybad.results4 rfl (fun w' hM => ⟨by simp only [wordOf, h0, h1, h2, h3, h4, if_true, if_false]; rfl, hM⟩)
  refine SC.seq ?_
  refine SC.region ?_
  refine SL.y (OV.eql rfl rfl) rfl ?_
  refine SL.y (OV.assign rfl) rfl ?_
  refine SL.nil ?_
  refine SC.then ?_
  refine SC.condP rfl (fun h5 => ?_) (fun h5 => ?_)
  · skip
    refine SC.seq ?_
    refine SC.region ?_
    refine SL.y (OV.assign rfl) rfl ?_
    refine SL.nil ?_
    refine SC.then ?_
    refine SC.ret ?_
    refine SE.blockR (SE.thenR ?_)
    exact SE.ret1 Ybad.results4 rfl (fun w' hM => ⟨by simp only [wordOf, h0, h1, h2, h3, h4, h5, if_true, if_false]; rfl, hM⟩)
  refine SC.seq ?_
  refine SC.region ?_
  refine SL.y (OV.eql rfl rfl) rfl ?_
  refine SL.y (OV.assign rfl) rfl ?_
  refine SL.nil ?_
  refine SC.then ?_
  refine SC.condP rfl (fun h6 => ?_) (fun h6 => ?_)
  · skip
    refine SC.seq ?_
    refine SC.region ?_
    refine SL.y (OV.assign rfl) rfl ?_
    refine SL.nil ?_
    refine SC.then ?_
    refine SC.ret ?_
    refine SE.blockR (SE.thenR ?_)
    exact SE.ret1 Ybad.results4 rfl (fun w' hM => ⟨by simp only [wordOf, h0, h1, h2, h3, h4, h5, h6, if_true, if_false]; rfl, hM⟩)
  refine SC.seq ?_
  refine SC.region ?_
  refine SL.y (OV.eql rfl rfl) rfl ?_
  refine SL.y (OV.assign rfl) rfl ?_
  refine SL.nil ?_
  refine SC.then ?_
  refine SC.condP rfl (fun h7 => ?_) (fun h7 => ?_)
  · skip
    refine SC.seq ?_
    refine SC.region ?_
    refine SL.y (OV.assign rfl) rfl ?_
    refine SL.nil ?_
    refine SC.then ?_
    refine SC.ret ?_
    refine SE.blockR (SE.thenR ?_)
    exact SE.ret1 Ybad.results4 rfl (fun w' hM => ⟨by simp only [wordOf, h0, h1, h2, h3, h4, h5, h6, h7, if_true, if_false]; rfl, hM⟩)
  refine SC.seq ?_
  refine SC.region ?_
  refine SL.y (OV.eql rfl rfl) rfl ?_
  refine SL.y (OV.assign rfl) rfl ?_
  refine SL.nil ?_
  refine SC.then ?_
  refine SC.condP rfl (fun h8 => ?_) (fun h8 => ?_)
  · skip
    refine SC.seq ?_
    refine SC.region ?_
    refine SL.y (OV.assign rfl) rfl ?_
    refine SL.nil ?_
    refine SC.then ?_
    refine SC.ret ?_
    refine SE.blockR (SE.thenR ?_)
    exact SE.ret1 Ybad.results4 rfl (fun w' hM => ⟨by simp only [wordOf, h0, h1, h2, h3, h4, h5, h6, h7, h8, if_true, if_false]; rfl, hM⟩)
  refine SC.skip ?_
  refine SE.nb ?_
  refine SC.then ?_
  refine SC.seq ?_
  refine SC.region ?_
  refine SL.y (OV.move rfl) rfl ?_
  refine SL.y (OV.assign rfl) rfl ?_
  refine SL.nil ?_
  refine SC.then ?_
  refine SC.ret ?_
  exact SE.ret1 Ybad.results4 rfl (fun w' hM => ⟨by simp only [wordOf, h0, h1, h2, h3, h4, h5, h6, h7, h8, if_false], hM⟩)

theorem fill5 (a b c d e : ByteArray) : Instr.fill (fun i => some (i * 1, 1)) ((Array.range (5 * 1)).map ((Value.string ⟨#[]⟩).cells[· % (Value.string ⟨#[]⟩).cells.size]!)) [(0, .string a), (1, .string b), (2, .string c), (3, .string d), (4, .string e)] = some #[.string a, .string b, .string c, .string d, .string e] := by kernel_rfl
theorem fill3 (a b c : ByteArray) : Instr.fill (fun i => some (i * 1, 1)) ((Array.range (3 * 1)).map ((Value.string ⟨#[]⟩).cells[· % (Value.string ⟨#[]⟩).cells.size]!)) [(0, .string a), (1, .string b), (2, .string c)] = some #[.string a, .string b, .string c] := by kernel_rfl
/-- (crashForm).form -/
theorem call10 (c : CF) (w : World) : Calls Ybad.prog 10 #[.agg c.cells.toArray] w fun e w' => ∃ b, e = .returned (.slice (some ⟨b, 0, none⟩) c.len c.len) ∧ Mm w [] [(b, row 9 c.words)] w' := by
  obtain ⟨i, hi, hz0, hz1, hz2⟩ := info_parts info9
  obtain ⟨whn, point, to, fail⟩ := c
  refine Calls.of_SC (args := [.agg (CF.mk whn point to fail).cells.toArray]) Ybad.func10 rfl (by simp [Ybad.f10]) (Mm.start w) ?_
  refine SC.seq ?_
  refine SC.region ?_
  refine SL.e (OE.box rfl) rfl ?_
  intro b1
  refine SL.y (OV.assign rfl) rfl ?_
  refine SL.nil ?_
  refine SC.then ?_
  refine SC.seq ?_
  refine SC.seq ?_
  refine SC.region ?_
  refine SL.y (OV.fld fo30_2 rfl) rfl ?_
  refine SL.y (OV.loadF 0 sc4 rfl rfl rfl) rfl ?_
  refine SL.nil ?_
  refine SC.then ?_
  refine SC.cond rfl (fun h => ?_) (fun h => ?_)
  · have h : to = true := h
    subst h
    refine SC.seq ?_
    refine SC.region ?_
    refine SL.y (OV.fld fo30_0 rfl) rfl ?_
    refine SL.y (OV.loadF 0 sc9 rfl rfl rfl) rfl ?_
    refine SL.y (OV.fld fo30_1 rfl) rfl ?_
    refine SL.y (OV.loadF 0 sc9 rfl rfl rfl) rfl ?_
    refine SL.e (OE.bsliceN (s := 1) (vs := [(0, .string bName), (1, .string whn), (2, .string point), (3, .string bTo), (4, .string bP)]) (cs := #[.string bName, .string whn, .string point, .string bTo, .string bP]) u43 hi hz0 hz1 (by decide) (by decide) (fun ρ hρ => by simp [hρ (.tmp 6) _ rfl, hρ (.tmp 8) _ rfl, hρ (.const _) _ rfl]; exact ⟨rfl, rfl, rfl⟩) (fill5 _ _ _ _ _)) rfl ?_
    intro b2
    refine SL.y (OV.assign rfl) rfl ?_
    refine SL.nil ?_
    refine SC.then ?_
    refine SC.ret ?_
    refine SE.thenR ?_
    exact SE.ret1 Ybad.results10 rfl (fun w' hM => ⟨b2, rfl, hM.weaken (List.sublist_append_right _ _)⟩)
  · have h : to = false := h
    subst h
    refine SC.skip ?_
    refine SC.then ?_
    refine SC.seq ?_
    refine SC.region ?_
    refine SL.y (OV.fld fo30_0 rfl) rfl ?_
    refine SL.y (OV.loadF 0 sc9 rfl rfl rfl) rfl ?_
    refine SL.y (OV.fld fo30_1 rfl) rfl ?_
    refine SL.y (OV.loadF 0 sc9 rfl rfl rfl) rfl ?_
    refine SL.e (OE.bsliceN (s := 1) (vs := [(0, .string bName), (1, .string whn), (2, .string point)]) (cs := #[.string bName, .string whn, .string point]) u43 hi hz0 hz1 (by decide) (by decide) (fun ρ hρ => by simp [hρ (.tmp 11) _ rfl, hρ (.tmp 13) _ rfl, hρ (.const _) _ rfl]; exact rfl) (fill3 _ _ _)) rfl ?_
    intro b2
    refine SL.y (OV.assign rfl) rfl ?_
    refine SL.nil ?_
    refine SC.then ?_
    refine SC.ret ?_
    exact SE.ret1 Ybad.results10 rfl (fun w' hM => ⟨b2, rfl, hM.weaken (List.sublist_append_right _ _)⟩)
end Go.Proofs.YbulkdrciDoor
