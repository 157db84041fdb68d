import Derived.Test.YbulkdrfaPiv
namespace Go.Proofs.Ybulkdrfa
open Go Go.RowKit Go.Proofs.Ybulkdrfa.Sym Go.Sort
set_option linter.unusedVariables false
set_option linter.unusedSimpArgs false
set_option maxRecDepth 100000

def hintI : Hint → Int
  | .unknown => 0
  | .increasing => 1
  | .decreasing => 2
/-- What the three places and the swaps come to. -/
def pivR (d : Array Nat) (a b : Nat) : Nat × Nat :=
  if b - a ≥ 50 then
    median Fl.lt d (medianAdjacent Fl.lt d (a + (b - a) / 4 * 1) 0).1 (medianAdjacent Fl.lt d (a + (b - a) / 4 * 2) (medianAdjacent Fl.lt d (a + (b - a) / 4 * 1) 0).2).1 (medianAdjacent Fl.lt d (a + (b - a) / 4 * 3) (medianAdjacent Fl.lt d (a + (b - a) / 4 * 2) (medianAdjacent Fl.lt d (a + (b - a) / 4 * 1) 0).2).2).1 (medianAdjacent Fl.lt d (a + (b - a) / 4 * 3) (medianAdjacent Fl.lt d (a + (b - a) / 4 * 2) (medianAdjacent Fl.lt d (a + (b - a) / 4 * 1) 0).2).2).2
  else median Fl.lt d (a + (b - a) / 4 * 1) (a + (b - a) / 4 * 2) (a + (b - a) / 4 * 3) 0
theorem choose_eq (d : Array Nat) (a b : Nat) (h : 8 ≤ b - a) : choosePivot Fl.lt d a b = ((pivR d a b).1, if (pivR d a b).2 = 0 then .increasing else if (pivR d a b).2 = 12 then .decreasing else .unknown) := by
  unfold choosePivot pivR
  simp only [ge_iff_le, h, if_true]
theorem info3 : (Yba.prog.info? 3).map (fun i => (i.zero, i.size, i.bytes)) = some (some (.int .i64 0), 1, 8) := by kernel_rfl
theorem info_parts {P : Program} {e : TypeId} {z : Value} {s b : Nat} (h : (P.info? e).map (fun i => (i.zero, i.size, i.bytes)) = some (some z, s, b)) : ∃ i, P.info? e = some i ∧ i.zero = some z ∧ i.size = s ∧ i.bytes = b := by
  cases hi : P.info? e with
  | none => simp [hi] at h
  | some i => simp [hi] at h; exact ⟨i, rfl, h.1, h.2.1, h.2.2⟩
theorem adj_lt {d : Array Nat} {a sw n : Nat} (ha : 1 ≤ a) (hb : a + 1 < n) : (medianAdjacent Fl.lt d a sw).1 < n ∧ (medianAdjacent Fl.lt d a sw).2 ≤ sw + 3 := median_lt (by omega) (by omega) hb

/-- choosePivotOrdered -/
theorem call13 {w : World} {blk n c a b : Nat} {d : Array Nat} (hn : n ≤ 1000000) (hds : d.size = n) (hb : b ≤ n) (hab : a + 8 ≤ b) (hw : w.heap[blk]? = some (fr d)) :
    Calls Yba.prog 13 #[sl blk n c, .int .i64 a, .int .i64 b] w fun e w' => e = .returned (.tuple #[.int .i64 (choosePivot Fl.lt d a b).1, .int .i64 (hintI (choosePivot Fl.lt d a b).2)]) ∧ Mm w [] [] w' := by
  obtain ⟨i3, hi3, hz3, hs3, hb3⟩ := info_parts info3
  rw [choose_eq d a b (by omega)]
  refine Calls.of_SC (args := [sl blk n c, .int .i64 a, .int .i64 b]) Yba.func13 rfl (by simp [Yba.f13]) (Mm.start w) ?_
  refine SC.seq ?_
  refine SC.region ?_
  refine SL.y (OV.assign rfl) rfl ?_
  refine SL.y (OV.assign rfl) rfl ?_
  refine SL.nil ?_
  refine SC.then ?_
  refine SC.seq ?_
  refine SC.region ?_
  refine SL.y (OV.move rfl) rfl ?_
  refine SL.y (OV.move rfl) rfl ?_
  refine SL.y (OV.sub (r := ((b - a : Nat) : Int)) rfl rfl (by rw [wrap_i64 (by omega) (by omega)]; omega)) rfl ?_
  refine SL.y (OV.assign rfl) rfl ?_
  refine SL.nil ?_
  refine SC.then ?_
  refine SC.seq ?_
  refine SC.region ?_
  refine SL.e (OE.alloc hi3 hz3) rfl ?_
  intro bs
  refine SL.nil ?_
  refine SC.then ?_
  refine SC.seq ?_
  refine SC.region ?_
  refine SL.y (OV.move rfl) rfl ?_
  refine SL.y (OV.move rfl) rfl ?_
  refine SL.y (OV.quo (r := (((b - a) / 4 : Nat) : Int)) rfl rfl (by decide) (by rw [Int.tdiv_eq_ediv_of_nonneg (by omega), wrap_i64 (by omega) (by omega)]; omega)) rfl ?_
  refine SL.y (OV.mul (r := (((b - a) / 4 * 1 : Nat) : Int)) rfl rfl (by rw [wrap_i64 (by omega) (by omega)]; omega)) rfl ?_
  refine SL.y (OV.add (r := ((a + (b - a) / 4 * 1 : Nat) : Int)) rfl rfl (by rw [wrap_i64 (by omega) (by omega)]; omega)) rfl ?_
  refine SL.y (OV.assign rfl) rfl ?_
  refine SL.nil ?_
  refine SC.then ?_
  refine SC.seq ?_
  refine SC.region ?_
  refine SL.y (OV.move rfl) rfl ?_
  refine SL.y (OV.move rfl) rfl ?_
  refine SL.y (OV.quo (r := (((b - a) / 4 : Nat) : Int)) rfl rfl (by decide) (by rw [Int.tdiv_eq_ediv_of_nonneg (by omega), wrap_i64 (by omega) (by omega)]; omega)) rfl ?_
  refine SL.y (OV.mul (r := (((b - a) / 4 * 2 : Nat) : Int)) rfl rfl (by rw [wrap_i64 (by omega) (by omega)]; omega)) rfl ?_
  refine SL.y (OV.add (r := ((a + (b - a) / 4 * 2 : Nat) : Int)) rfl rfl (by rw [wrap_i64 (by omega) (by omega)]; omega)) rfl ?_
  refine SL.y (OV.assign rfl) rfl ?_
  refine SL.nil ?_
  refine SC.then ?_
  refine SC.seq ?_
  refine SC.region ?_
  refine SL.y (OV.move rfl) rfl ?_
  refine SL.y (OV.move rfl) rfl ?_
  refine SL.y (OV.quo (r := (((b - a) / 4 : Nat) : Int)) rfl rfl (by decide) (by rw [Int.tdiv_eq_ediv_of_nonneg (by omega), wrap_i64 (by omega) (by omega)]; omega)) rfl ?_
  refine SL.y (OV.mul (r := (((b - a) / 4 * 3 : Nat) : Int)) rfl rfl (by rw [wrap_i64 (by omega) (by omega)]; omega)) rfl ?_
  refine SL.y (OV.add (r := ((a + (b - a) / 4 * 3 : Nat) : Int)) rfl rfl (by rw [wrap_i64 (by omega) (by omega)]; omega)) rfl ?_
  refine SL.y (OV.assign rfl) rfl ?_
  refine SL.nil ?_
  refine SC.then ?_
  refine SC.cutSt [(11, .int .i64 (pivR d a b).1), (9, .pointer (some ⟨bs, 0, none⟩))] [(bs, row 3 [.int .i64 (pivR d a b).2])] ?_ ?_
  · refine SC.weaken (env' := [(0, sl blk n c), (8, .int .i64 (b - a : Nat)), (9, .pointer (some ⟨bs, 0, none⟩)), (10, .int .i64 (a + (b - a) / 4 * 1 : Nat)), (11, .int .i64 (a + (b - a) / 4 * 2 : Nat)), (12, .int .i64 (a + (b - a) / 4 * 3 : Nat))]) (by repeat' (first | exact trivial | refine ⟨rfl, ?_⟩)) (List.Sublist.refl _) ?_
    have hq1 : 1 ≤ a + (b - a) / 4 * 1 ∧ a + (b - a) / 4 * 1 + 1 < n := by omega
    have hq2 : 1 ≤ a + (b - a) / 4 * 2 ∧ a + (b - a) / 4 * 2 + 1 < n := by omega
    have hq3 : 1 ≤ a + (b - a) / 4 * 3 ∧ a + (b - a) / 4 * 3 + 1 < n := by omega
    unfold pivR
    generalize a + (b - a) / 4 * 1 = p1 at *
    generalize a + (b - a) / 4 * 2 = p2 at *
    generalize a + (b - a) / 4 * 3 = p3 at *
    refine SC.seq ?_
    refine SC.region ?_
    refine SL.y (OV.move rfl) rfl ?_
    refine SL.y (OV.geq rfl rfl) rfl ?_
    refine SL.nil ?_
    refine SC.then ?_
    refine SC.condP rfl (fun _ => ?_) (fun h => absurd (show (8 : Int) ≤ ((b - a : Nat) : Int) by omega) h)
    have hfresh : ∀ {w1 : World} {o : Obj}, Mm w [] [(bs, o)] w1 → bs ≠ blk ∧ w1.heap[blk]? = some (fr d) := fun {w1 o} hM => ⟨fun e => by
      have h1 := (hM.own _ List.mem_cons_self).2
      have h2 : blk < w.heap.size := (Array.getElem?_eq_some_iff.1 hw).1
      rcases h1 with h1 | h1
      · simp at h1
      · have h3 : w.heap.size ≤ bs := h1
        omega, Mm.oldBlk hM (by simp) hw⟩
    by_cases h50 : 50 ≤ b - a
    · rw [if_pos h50]
      have m1 := adj_lt (d := d) (sw := 0) hq1.1 hq1.2
      generalize hr1 : medianAdjacent Fl.lt d p1 0 = r1 at *
      have m2 := adj_lt (d := d) (sw := r1.2) hq2.1 hq2.2
      generalize hr2 : medianAdjacent Fl.lt d p2 r1.2 = r2 at *
      have m3 := adj_lt (d := d) (sw := r2.2) hq3.1 hq3.2
      generalize hr3 : medianAdjacent Fl.lt d p3 r2.2 = r3 at *
      refine SC.seq ?_
      refine SC.seq ?_
      refine SC.region ?_
      refine SL.y (OV.move rfl) rfl ?_
      refine SL.y (OV.geq rfl rfl) rfl ?_
      refine SL.nil ?_
      refine SC.then ?_
      refine SC.condP rfl (fun _ => ?_) (fun h => absurd (show (50 : Int) ≤ ((b - a : Nat) : Int) by omega) h)
      refine SC.seq ?_
      refine SC.region ?_
      refine SL.y (OV.move rfl) rfl ?_
      refine SL.y (OV.move rfl) rfl ?_
      refine SL.callM (j := 0) pf24 (args3 rfl rfl rfl) rfl (fun w1 hM => hr1 ▸ call24 (sw := 0) hn hds hq1.1 hq1.2 (by omega) (hfresh hM).1 (hfresh hM).2 (hM.block (j := 0) rfl)) rfl ?_
      refine SL.y (OV.assign rfl) rfl ?_
      refine SL.nil ?_
      refine SC.then ?_
      refine SC.seq ?_
      refine SC.region ?_
      refine SL.y (OV.move rfl) rfl ?_
      refine SL.y (OV.move rfl) rfl ?_
      refine SL.callM (j := 0) pf24 (args3 rfl rfl rfl) rfl (fun w1 hM => hr2 ▸ call24 hn hds hq2.1 hq2.2 (by omega) (hfresh hM).1 (hfresh hM).2 (hM.block (j := 0) rfl)) rfl ?_
      refine SL.y (OV.assign rfl) rfl ?_
      refine SL.nil ?_
      refine SC.then ?_
      refine SC.region ?_
      refine SL.y (OV.move rfl) rfl ?_
      refine SL.y (OV.move rfl) rfl ?_
      refine SL.callM (j := 0) pf24 (args3 rfl rfl rfl) rfl (fun w1 hM => hr3 ▸ call24 hn hds hq3.1 hq3.2 (by omega) (hfresh hM).1 (hfresh hM).2 (hM.block (j := 0) rfl)) rfl ?_
      refine SL.y (OV.assign rfl) rfl ?_
      refine SL.nil ?_
      refine SC.then ?_
      refine SC.region ?_
      refine SL.y (OV.move rfl) rfl ?_
      refine SL.y (OV.move rfl) rfl ?_
      refine SL.y (OV.move rfl) rfl ?_
      refine SL.y (OV.move rfl) rfl ?_
      refine SL.callM (j := 0) pf25 (args5 rfl rfl rfl rfl rfl) rfl (fun w1 hM => call25 hn hds m1.1 m2.1 m3.1 (by omega) (hfresh hM).1 (hfresh hM).2 (hM.block (j := 0) rfl)) rfl ?_
      refine SL.y (OV.assign rfl) rfl ?_
      refine SL.nil ?_
      exact SE.toSt (by repeat' (first | exact trivial | refine ⟨rfl, ?_⟩)) (List.Sublist.refl _)
    · rw [if_neg h50]
      refine SC.seq ?_
      refine SC.seq ?_
      refine SC.region ?_
      refine SL.y (OV.move rfl) rfl ?_
      refine SL.y (OV.geq rfl rfl) rfl ?_
      refine SL.nil ?_
      refine SC.then ?_
      refine SC.condP rfl (fun h => absurd h (by omega)) (fun _ => ?_)
      refine SC.skip ?_
      refine SC.then ?_
      refine SC.region ?_
      refine SL.y (OV.move rfl) rfl ?_
      refine SL.y (OV.move rfl) rfl ?_
      refine SL.y (OV.move rfl) rfl ?_
      refine SL.y (OV.move rfl) rfl ?_
      refine SL.callM (j := 0) pf25 (args5 rfl rfl rfl rfl rfl) rfl (fun w1 hM => call25 (sw := 0) hn hds (by omega) (by omega) (by omega) (by omega) (hfresh hM).1 (hfresh hM).2 (hM.block (j := 0) rfl)) rfl ?_
      refine SL.y (OV.assign rfl) rfl ?_
      refine SL.nil ?_
      exact SE.toSt (by repeat' (first | exact trivial | refine ⟨rfl, ?_⟩)) (List.Sublist.refl _)
  generalize pivR d a b = r
  refine SC.seq ?_
  refine SC.region ?_
  refine SL.y (OV.load 0 sc3 rfl rfl rfl) rfl ?_
  refine SL.nil ?_
  refine SC.then ?_
  refine SC.block ?_
  refine SC.seq ?_
  refine SC.region ?_
  refine SL.y (OV.eql rfl rfl) rfl ?_
  refine SL.y (OV.assign rfl) rfl ?_
  refine SL.nil ?_
  refine SC.then ?_
  refine SC.condP rfl (fun h0 => ?_) (fun h0 => ?_)
  · have e0 : r.2 = 0 := by omega
    rw [if_pos e0]
    refine SC.seq ?_
    refine SC.region ?_
    refine SL.y (OV.move rfl) rfl ?_
    refine SL.y (OV.assign rfl) rfl ?_
    refine SL.y (OV.assign rfl) rfl ?_
    refine SL.nil ?_
    refine SC.then ?_
    refine SC.ret ?_
    repeat (first | refine SE.blockR ?_ | refine SE.thenR ?_)
    exact SE.ret2 Yba.results13 rfl rfl (fun w' hM => ⟨rfl, hM.weaken (List.nil_sublist _)⟩)
  · rw [if_neg (show ¬ r.2 = 0 by omega)]
    refine SC.seq ?_
    refine SC.region ?_
    refine SL.y (OV.eql rfl rfl) rfl ?_
    refine SL.y (OV.assign rfl) rfl ?_
    refine SL.nil ?_
    refine SC.then ?_
    refine SC.condP rfl (fun h12 => ?_) (fun h12 => ?_)
    · rw [if_pos (show r.2 = 12 by omega)]
      refine SC.seq ?_
      refine SC.region ?_
      refine SL.y (OV.move rfl) rfl ?_
      refine SL.y (OV.assign rfl) rfl ?_
      refine SL.y (OV.assign rfl) rfl ?_
      refine SL.nil ?_
      refine SC.then ?_
      refine SC.ret ?_
      repeat (first | refine SE.blockR ?_ | refine SE.thenR ?_)
      exact SE.ret2 Yba.results13 rfl rfl (fun w' hM => ⟨rfl, hM.weaken (List.nil_sublist _)⟩)
    · rw [if_neg (show ¬ r.2 = 12 by omega)]
      refine SC.seq ?_
      refine SC.region ?_
      refine SL.y (OV.move rfl) rfl ?_
      refine SL.y (OV.assign rfl) rfl ?_
      refine SL.y (OV.assign rfl) rfl ?_
      refine SL.nil ?_
      refine SC.then ?_
      refine SC.ret ?_
      repeat (first | refine SE.blockR ?_ | refine SE.thenR ?_)
      exact SE.ret2 Yba.results13 rfl rfl (fun w' hM => ⟨rfl, hM.weaken (List.nil_sublist _)⟩)
end Go.Proofs.Ybulkdrfa
