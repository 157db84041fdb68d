import Derived.Test.YbulkdrfaPdqEq
namespace Go.Proofs.Ybulkdrfa
open Go Go.RowKit Go.Proofs.Ybulkdrfa.Sym Go.Sort
set_option linter.unusedVariables false
set_option linter.unusedSimpArgs false
set_option maxRecDepth 100000

theorem pf8 : plainFunc Yba.prog 8 = true := by kernel_rfl
theorem pf10 : plainFunc Yba.prog 10 = true := by kernel_rfl
theorem pf11 : plainFunc Yba.prog 11 = true := by kernel_rfl
theorem pf12 : plainFunc Yba.prog 12 = true := by kernel_rfl
theorem pf13 : plainFunc Yba.prog 13 = true := by kernel_rfl
theorem pf14 : plainFunc Yba.prog 14 = true := by kernel_rfl
theorem pf15 : plainFunc Yba.prog 15 = true := by kernel_rfl
theorem pf17 : plainFunc Yba.prog 17 = true := by kernel_rfl
theorem pf18 : plainFunc Yba.prog 18 = true := by kernel_rfl
/-- The state of the loop. -/
structure PS where
  (a b lim : Nat)
  (wb wp : Bool)
  (d : Array Nat)
abbrev E8 (blk n c a b lim : Nat) (wb wp : Bool) : Env := [(0, sl blk n c), (1, .int .i64 a), (2, .int .i64 b), (3, .int .i64 lim), (8, .bool wb), (9, .bool wp)]
/-- pdqsortOrdered -/
theorem call8 {blk n c : Nat} (hn : n ≤ 60000) : ∀ (m : Nat) {w : World} {a b lim : Nat} {d : Array Nat}, b - a ≤ m → a ≤ b → b ≤ n → lim ≤ 1000 → d.size = n → Go.Sort.Below Fl.lt a b d → w.heap[blk]? = some (fr d) →
    Calls Yba.prog 8 #[sl blk n c, .int .i64 a, .int .i64 b, .int .i64 lim] w fun e w' => e = .returned (.tuple #[]) ∧ Mm w [blk] [(blk, fr (pdq Fl.lt d a b lim true true))] w' := by
  intro m
  induction m with
  | zero =>
    intro w a b lim d hm hab hb hlim hds hB hw
    refine Calls.of_SC (args := [sl blk n c, .int .i64 a, .int .i64 b, .int .i64 lim]) Yba.func8 rfl (by simp [Yba.f8]) (Mm.ofRow hw) ?_
    refine SC.seq ?_
    refine SC.region ?_
    refine SL.y (OV.assign rfl) rfl ?_
    refine SL.nil ?_
    refine SC.then ?_
    refine SC.seq ?_
    refine SC.region ?_
    refine SL.y (OV.assign rfl) rfl ?_
    refine SL.nil ?_
    refine SC.then ?_
    refine SC.block ?_
    refine SC.loop (fun _ : Unit => E8 blk n c a b lim true true) (fun _ => [(blk, fr d)]) (fun _ => True) (fun _ => 0) () trivial (by repeat' (first | exact trivial | refine ⟨rfl, ?_⟩)) (List.Sublist.refl _) ?_
    intro _ _
    refine SC.block ?_
    refine SC.seq ?_
    refine SC.region ?_
    refine SL.y (OV.move rfl) rfl ?_
    refine SL.y (OV.move rfl) rfl ?_
    refine SL.y (OV.sub rfl rfl (wrap_i64 (by omega) (by omega))) rfl ?_
    refine SL.y (OV.assign rfl) rfl ?_
    refine SL.nil ?_
    refine SC.then ?_
    refine SC.seq ?_
    refine SC.seq ?_
    refine SC.region ?_
    refine SL.y (OV.move rfl) rfl ?_
    refine SL.y (OV.leq rfl rfl) rfl ?_
    refine SL.nil ?_
    refine SC.then ?_
    refine SC.condP rfl (fun _ => ?_) (fun h => absurd (show (b : Int) - a ≤ 12 by omega) h)
    refine SC.seq ?_
    refine SC.region ?_
    refine SL.y (OV.move rfl) rfl ?_
    refine SL.y (OV.move rfl) rfl ?_
    refine SL.y (OV.move rfl) rfl ?_
    refine SL.callB (j := 0) pf10 (args3 rfl rfl rfl) rfl (fun w h => call10 (by omega) hds hb hab h) rfl ?_
    refine SL.nil ?_
    refine SC.then ?_
    refine SC.ret ?_
    repeat (first | refine SE.blockR ?_ | refine SE.thenR ?_)
    rw [pdq_small (by omega)]
    exact SE.ret0 Yba.results8 (fun w' hM => ⟨rfl, hM⟩)
  | succ m ih =>
    intro w a b lim d hm hab hb hlim hds hB hw
    refine Calls.of_SC (args := [sl blk n c, .int .i64 a, .int .i64 b, .int .i64 lim]) Yba.func8 rfl (by simp [Yba.f8]) (Mm.ofRow hw) ?_
    obtain ⟨R, hR⟩ : ∃ R, R = pdq Fl.lt d a b lim true true := ⟨_, rfl⟩
    rw [← hR]
    refine SC.seq ?_
    refine SC.region ?_
    refine SL.y (OV.assign rfl) rfl ?_
    refine SL.nil ?_
    refine SC.then ?_
    refine SC.seq ?_
    refine SC.region ?_
    refine SL.y (OV.assign rfl) rfl ?_
    refine SL.nil ?_
    refine SC.then ?_
    refine SC.block ?_
    refine SC.loop (fun s : PS => E8 blk n c s.a s.b s.lim s.wb s.wp) (fun s => [(blk, fr s.d)]) (fun s => s.b - s.a ≤ m + 1 ∧ s.a ≤ s.b ∧ s.b ≤ n ∧ s.lim ≤ 1000 ∧ s.d.size = n ∧ Go.Sort.Below Fl.lt s.a s.b s.d ∧ R = pdq Fl.lt s.d s.a s.b s.lim s.wb s.wp) (fun s => s.b - s.a) ⟨a, b, lim, true, true, d⟩ ⟨hm, hab, hb, hlim, hds, hB, hR⟩ (by repeat' (first | exact trivial | refine ⟨rfl, ?_⟩)) (List.Sublist.refl _) ?_
    clear hm hab hb hlim hds hB hR hw
    rintro ⟨a, b, lim, wb, wp, d⟩ ⟨hm, hab, hb, hlim, hds, hB, hR⟩
    dsimp only at hm hab hb hlim hds hB hR ⊢
    refine SC.block ?_
    refine SC.seq ?_
    refine SC.region ?_
    refine SL.y (OV.move rfl) rfl ?_
    refine SL.y (OV.move rfl) rfl ?_
    refine SL.y (OV.sub (r := ((b - a : Nat) : Int)) rfl rfl (by rw [wrap_i64 (by omega) (by omega)]; omega)) rfl ?_
    refine SL.y (OV.assign rfl) rfl ?_
    refine SL.nil ?_
    refine SC.then ?_
    refine SC.seq ?_
    refine SC.seq ?_
    refine SC.region ?_
    refine SL.y (OV.move rfl) rfl ?_
    refine SL.y (OV.leq rfl rfl) rfl ?_
    refine SL.nil ?_
    refine SC.then ?_
    refine SC.condP rfl (fun h12 => ?_) (fun h12 => ?_)
    · skip
      refine SC.seq ?_
      refine SC.region ?_
      refine SL.y (OV.move rfl) rfl ?_
      refine SL.y (OV.move rfl) rfl ?_
      refine SL.y (OV.move rfl) rfl ?_
      refine SL.callB (j := 0) pf10 (args3 rfl rfl rfl) rfl (fun w h => call10 (by omega) hds hb hab h) rfl ?_
      refine SL.nil ?_
      refine SC.then ?_
      refine SC.ret ?_
      repeat (first | refine SE.blockR ?_ | refine SE.thenR ?_)
      rw [pdq_small (by omega)] at hR
      rw [hR]
      exact SE.ret0 Yba.results8 (fun w' hM => ⟨rfl, hM⟩)
    have hl12 : ¬ b - a ≤ 12 := by omega
    refine SC.skip ?_
    refine SC.then ?_
    refine SC.seq ?_
    refine SC.seq ?_
    refine SC.region ?_
    refine SL.y (OV.move rfl) rfl ?_
    refine SL.y (OV.eql rfl rfl) rfl ?_
    refine SL.nil ?_
    refine SC.then ?_
    refine SC.condP rfl (fun h0 => ?_) (fun h0 => ?_)
    · skip
      refine SC.seq ?_
      refine SC.region ?_
      refine SL.y (OV.move rfl) rfl ?_
      refine SL.y (OV.move rfl) rfl ?_
      refine SL.y (OV.move rfl) rfl ?_
      refine SL.callB (j := 0) pf11 (args3 rfl rfl rfl) rfl (fun w h => call11 (by omega) hds hb (by omega) h) rfl ?_
      refine SL.nil ?_
      refine SC.then ?_
      refine SC.ret ?_
      repeat (first | refine SE.blockR ?_ | refine SE.thenR ?_)
      rw [pdq_heap hl12 (by omega)] at hR
      rw [hR]
      exact SE.ret0 Yba.results8 (fun w' hM => ⟨rfl, hM⟩)
    have hlim0 : ¬ lim = 0 := by omega
    rw [pdq_round hl12 hlim0] at hR
    refine SC.skip ?_
    refine SC.then ?_
    have h1 : (st1 d a b lim wb).1.size = n ∧ Go.Sort.Below Fl.lt a b (st1 d a b lim wb).1 ∧ (st1 d a b lim wb).2 ≤ 1000 := by
      unfold st1
      cases wb
      · have hP := breakPatterns_holds d a b hab (by omega)
        exact ⟨hP.1.trans hds, below_perm hB hP (by omega), by show lim - 1 ≤ 1000; omega⟩
      · exact ⟨hds, hB, hlim⟩
    refine SC.cutSt ((10, .int .i64 (b - a : Nat)) :: E8 blk n c a b (st1 d a b lim wb).2 wb wp) [(blk, fr (st1 d a b lim wb).1)] ?_ ?_
    · unfold st1
      cases wb
      · skip
        refine SC.seq ?_
        refine SC.region ?_
        refine SL.y (OV.move rfl) rfl ?_
        refine SL.y (OV.not rfl) rfl ?_
        refine SL.nil ?_
        refine SC.then ?_
        refine SC.condT rfl ?_
        refine SC.seq ?_
        refine SC.region ?_
        refine SL.y (OV.move rfl) rfl ?_
        refine SL.y (OV.move rfl) rfl ?_
        refine SL.y (OV.move rfl) rfl ?_
        refine SL.callB (j := 0) pf12 (args3 rfl rfl rfl) rfl (fun w h => call12 hn hds hb (by omega) h) rfl ?_
        refine SL.nil ?_
        refine SC.then ?_
        refine SC.region ?_
        refine SL.y (OV.move rfl) rfl ?_
        refine SL.y (OV.sub (r := ((lim - 1 : Nat) : Int)) rfl rfl (by rw [wrap_i64 (by omega) (by omega)]; omega)) rfl ?_
        refine SL.y (OV.assign rfl) rfl ?_
        refine SL.nil ?_
        exact SE.toSt (by repeat' (first | exact trivial | refine ⟨rfl, ?_⟩)) (List.Sublist.refl _)
      · skip
        refine SC.seq ?_
        refine SC.region ?_
        refine SL.y (OV.move rfl) rfl ?_
        refine SL.y (OV.not rfl) rfl ?_
        refine SL.nil ?_
        refine SC.then ?_
        refine SC.condF rfl ?_
        refine SC.skip ?_
        exact SE.toSt (by repeat' (first | exact trivial | refine ⟨rfl, ?_⟩)) (List.Sublist.refl _)
    obtain ⟨h1s, h1B, h1l⟩ := h1
    generalize st1 d a b lim wb = q1 at *
    obtain ⟨d1, l1⟩ := q1
    dsimp only at h1s h1B h1l hR ⊢
    have hcp := choosePivot_holds Fl.lt d1 a b (by omega)
    have h2 : (st2 d1 a b).1.size = n ∧ Go.Sort.Below Fl.lt a b (st2 d1 a b).1 ∧ a ≤ (st2 d1 a b).2.1 ∧ (st2 d1 a b).2.1 < b := by
      unfold st2
      by_cases hd : (choosePivot Fl.lt d1 a b).2 = .decreasing
      · simp only [hd, if_true]
        have hP := reverseRange_holds d1 a b hab (by omega)
        exact ⟨hP.1.trans h1s, below_perm h1B hP (by omega), by omega, by omega⟩
      · simp only [hd, if_false]
        exact ⟨h1s, h1B, hcp.1, hcp.2⟩
    refine SC.seq ?_
    refine SC.region ?_
    refine SL.y (OV.move rfl) rfl ?_
    refine SL.y (OV.move rfl) rfl ?_
    refine SL.y (OV.move rfl) rfl ?_
    refine SL.callQ pf13 (args3 rfl rfl rfl) (fun w hM => call13 (by omega) h1s hb (by omega) (hM.block (j := 0) rfl)) rfl ?_
    refine SL.y (OV.move rfl) rfl ?_
    refine SL.y (OV.extract rfl rfl) rfl ?_
    refine SL.y (OV.extract rfl rfl) rfl ?_
    refine SL.y (OV.assign rfl) rfl ?_
    refine SL.y (OV.assign rfl) rfl ?_
    refine SL.nil ?_
    refine SC.then ?_
    refine SC.cutSt ((11, .int .i64 (st2 d1 a b).2.1) :: (12, .int .i64 (hintI (st2 d1 a b).2.2)) :: (10, .int .i64 (b - a : Nat)) :: E8 blk n c a b l1 wb wp) [(blk, fr (st2 d1 a b).1)] ?_ ?_
    · unfold st2
      by_cases hd : (choosePivot Fl.lt d1 a b).2 = .decreasing
      · simp only [hd, if_true]
        generalize hc1 : (choosePivot Fl.lt d1 a b).1 = p1 at *
        refine SC.seq ?_
        refine SC.region ?_
        refine SL.y (OV.move rfl) rfl ?_
        refine SL.y ((OV.eql rfl rfl).yes rfl) rfl ?_
        refine SL.nil ?_
        refine SC.then ?_
        refine SC.condT rfl ?_
        refine SC.seq ?_
        refine SC.region ?_
        refine SL.y (OV.move rfl) rfl ?_
        refine SL.y (OV.move rfl) rfl ?_
        refine SL.y (OV.move rfl) rfl ?_
        refine SL.callB (j := 0) pf14 (args3 rfl rfl rfl) rfl (fun w h => call14 (by omega) h1s hb (by omega) h) rfl ?_
        refine SL.nil ?_
        refine SC.then ?_
        refine SC.seq ?_
        refine SC.region ?_
        refine SL.y (OV.move rfl) rfl ?_
        refine SL.y (OV.sub (r := ((b - 1 : Nat) : Int)) rfl rfl (by rw [wrap_i64 (by omega) (by omega)]; omega)) rfl ?_
        refine SL.y (OV.move rfl) rfl ?_
        refine SL.y (OV.move rfl) rfl ?_
        refine SL.y (OV.sub (r := ((p1 - a : Nat) : Int)) rfl rfl (by rw [wrap_i64 (by omega) (by omega)]; omega)) rfl ?_
        refine SL.y (OV.sub (r := ((b - 1 - (p1 - a) : Nat) : Int)) rfl rfl (by rw [wrap_i64 (by omega) (by omega)]; omega)) rfl ?_
        refine SL.y (OV.assign rfl) rfl ?_
        refine SL.nil ?_
        refine SC.then ?_
        refine SC.region ?_
        refine SL.y (OV.assign rfl) rfl ?_
        refine SL.nil ?_
        exact SE.toSt (by repeat' (first | exact trivial | refine ⟨rfl, ?_⟩)) (List.Sublist.refl _)
      · simp only [hd, if_false]
        have hne : ¬ hintI (choosePivot Fl.lt d1 a b).2 = 2 := by
          cases he : (choosePivot Fl.lt d1 a b).2 <;> simp [hintI]
          exact hd he
        refine SC.seq ?_
        refine SC.region ?_
        refine SL.y (OV.move rfl) rfl ?_
        refine SL.y ((OV.eql rfl rfl).no hne) rfl ?_
        refine SL.nil ?_
        refine SC.then ?_
        refine SC.condF rfl ?_
        refine SC.skip ?_
        exact SE.toSt (by repeat' (first | exact trivial | refine ⟨rfl, ?_⟩)) (List.Sublist.refl _)
    obtain ⟨h2s, h2B, hp1, hp2⟩ := h2
    generalize st2 d1 a b = q2 at *
    obtain ⟨d2, pv, hn2⟩ := q2
    dsimp only at h2s h2B hp1 hp2 hR ⊢
    have h3 : (st3 d2 a b wb wp hn2).1.size = n ∧ Go.Sort.Below Fl.lt a b (st3 d2 a b wb wp hn2).1 := by
      unfold st3
      split
      · have hP := (partialInsertionSort_holds swo d2 a b (by omega) (by omega) h2B).1
        exact ⟨hP.1.trans h2s, below_perm h2B hP (by omega)⟩
      · exact ⟨h2s, h2B⟩
    refine SC.cutG (fun _ : Unit => (11, .int .i64 pv) :: (10, .int .i64 (b - a : Nat)) :: E8 blk n c a b l1 wb wp) (fun _ => [(blk, fr (st3 d2 a b wb wp hn2).1)]) (fun _ => (st3 d2 a b wb wp hn2).2 = false) ?_ ?_
    · by_cases hc : wb = true ∧ wp = true ∧ hn2 = .increasing
      · obtain ⟨rfl, rfl, rfl⟩ := hc
        have e3 : st3 d2 a b true true .increasing = partialInsertionSort Fl.lt d2 a b := rfl
        rw [e3] at hR h3 ⊢
        refine SC.seq ?_
        refine SC.region ?_
        refine SL.y (OV.move rfl) rfl ?_
        refine SL.y (OV.move rfl) rfl ?_
        refine SL.yg rfl rfl (OV.move rfl) rfl ?_
        refine SL.y (OV.pickT rfl rfl) rfl ?_
        refine SL.y (OV.move rfl) rfl ?_
        refine SL.yg rfl rfl (OV.move rfl) rfl ?_
        refine SL.yg rfl rfl ((OV.eql rfl rfl).yes rfl) rfl ?_
        refine SL.y (OV.pickT rfl rfl) rfl ?_
        refine SL.nil ?_
        refine SC.then ?_
        refine SC.condT rfl ?_
        refine SC.seq ?_
        refine SC.region ?_
        refine SL.y (OV.move rfl) rfl ?_
        refine SL.y (OV.move rfl) rfl ?_
        refine SL.y (OV.move rfl) rfl ?_
        refine SL.callB (j := 0) pf15 (args3 rfl rfl rfl) rfl (fun w h => call15 (by omega) h2s hb (by omega) h) rfl ?_
        refine SL.nil ?_
        refine SC.then ?_
        refine SC.cond rfl (fun e => ?_) (fun e => ?_)
        · rw [if_pos e] at hR
          rw [hR]
          refine SC.ret ?_
          repeat (first | refine SE.blockR ?_ | refine SE.thenR ?_)
          exact SE.ret0 Yba.results8 (fun w' hM => ⟨rfl, hM⟩)
        · refine SC.skip ?_
          exact SE.toG () e (by repeat' (first | exact trivial | refine ⟨rfl, ?_⟩)) (List.Sublist.refl _)
      · have e3 : st3 d2 a b wb wp hn2 = (d2, false) := by
          unfold st3
          rw [if_neg]
          simpa [and_assoc] using hc
        rw [e3]
        cases wb
        · skip
          refine SC.seq ?_
          refine SC.region ?_
          refine SL.y (OV.move rfl) rfl ?_
          refine SL.y (OV.move rfl) rfl ?_
          refine SL.skip rfl rfl rfl ?_
          refine SL.y (OV.pickF rfl rfl) rfl ?_
          refine SL.y (OV.move rfl) rfl ?_
          refine SL.skip rfl rfl rfl ?_
          refine SL.skip rfl rfl rfl ?_
          refine SL.y (OV.pickF rfl rfl) rfl ?_
          refine SL.nil ?_
          refine SC.then ?_
          refine SC.condF rfl ?_
          refine SC.skip ?_
          exact SE.toG () rfl (by repeat' (first | exact trivial | refine ⟨rfl, ?_⟩)) (List.Sublist.refl _)
        · cases wp
          · skip
            refine SC.seq ?_
            refine SC.region ?_
            refine SL.y (OV.move rfl) rfl ?_
            refine SL.y (OV.move rfl) rfl ?_
            refine SL.yg rfl rfl (OV.move rfl) rfl ?_
            refine SL.y (OV.pickT rfl rfl) rfl ?_
            refine SL.y (OV.move rfl) rfl ?_
            refine SL.skip rfl rfl rfl ?_
            refine SL.skip rfl rfl rfl ?_
            refine SL.y (OV.pickF rfl rfl) rfl ?_
            refine SL.nil ?_
            refine SC.then ?_
            refine SC.condF rfl ?_
            refine SC.skip ?_
            exact SE.toG () rfl (by repeat' (first | exact trivial | refine ⟨rfl, ?_⟩)) (List.Sublist.refl _)
          · have hne : ¬ hintI hn2 = 1 := by
              cases hn2 <;> simp [hintI]
              exact hc ⟨rfl, rfl, rfl⟩
            refine SC.seq ?_
            refine SC.region ?_
            refine SL.y (OV.move rfl) rfl ?_
            refine SL.y (OV.move rfl) rfl ?_
            refine SL.yg rfl rfl (OV.move rfl) rfl ?_
            refine SL.y (OV.pickT rfl rfl) rfl ?_
            refine SL.y (OV.move rfl) rfl ?_
            refine SL.yg rfl rfl (OV.move rfl) rfl ?_
            refine SL.yg rfl rfl ((OV.eql rfl rfl).no hne) rfl ?_
            refine SL.y (OV.pickT rfl rfl) rfl ?_
            refine SL.nil ?_
            refine SC.then ?_
            refine SC.condF rfl ?_
            refine SC.skip ?_
            exact SE.toG () rfl (by repeat' (first | exact trivial | refine ⟨rfl, ?_⟩)) (List.Sublist.refl _)
    intro _ h3f
    rw [if_neg (by rw [h3f]; simp)] at hR
    obtain ⟨h3s, h3B⟩ := h3
    generalize (st3 d2 a b wb wp hn2).1 = d3 at *
    refine SC.seq ?_
    by_cases hc : 0 < a ∧ Fl.lt d3[a - 1]! d3[pv]! = false
    · have hf := pe_facts hp1 hp2 (by omega) (ge_pivot h3B hc.1 hc.2)
      have e4 : st4 d3 a b pv l1 wb wp = pdq Fl.lt (partitionEqual Fl.lt d3 a b pv).2 (partitionEqual Fl.lt d3 a b pv).1 b l1 wb wp := by
        unfold st4
        rw [if_pos (by simp [hc.1, hc.2]), if_pos ⟨hf.1, hf.2.1⟩]
      rw [e4] at hR
      refine SC.seq ?_
      refine SC.quiet mixed (by kernel_rfl) ?_
      refine SQ.y (OV.move rfl) rfl ?_
      refine SQ.y ((OV.gtr rfl rfl).yes (by omega)) rfl ?_
      refine SQ.y (OV.move rfl) rfl ?_
      refine SQ.yg rfl rfl (OV.move rfl) rfl ?_
      refine SQ.yg rfl rfl (OV.move rfl) rfl ?_
      refine SQ.yg rfl rfl (OV.sub rfl rfl (wrap_i64 (by omega) (by omega))) rfl ?_
      refine SQ.yg rfl rfl (OV.idx1 (a - 1) u22 se22 rfl rfl (by omega) (by omega)) rfl ?_
      refine SQ.yg rfl rfl (OV.loadFr 0 sc23 rfl rfl (by omega)) rfl ?_
      refine SQ.yg rfl rfl (OV.move rfl) rfl ?_
      refine SQ.yg rfl rfl (OV.move rfl) rfl ?_
      refine SQ.yg rfl rfl (OV.idx1 pv u22 se22 rfl rfl rfl (by omega)) rfl ?_
      refine SQ.yg rfl rfl (OV.loadFr 0 sc23 rfl rfl (by omega)) rfl ?_
      refine SQ.callQg rfl rfl pf16 (args2 rfl rfl) (fun w hM => by have := call16 d3[a - 1]! d3[pv]! w; rwa [hc.2] at this) rfl ?_
      refine SQ.yg rfl rfl (OV.not rfl) rfl ?_
      refine SQ.y (OV.pickT rfl rfl) rfl ?_
      refine SQ.nil ?_
      refine SC.then ?_
      refine SC.condT rfl ?_
      refine SC.seq ?_
      refine SC.region ?_
      refine SL.y (OV.move rfl) rfl ?_
      refine SL.y (OV.move rfl) rfl ?_
      refine SL.y (OV.move rfl) rfl ?_
      refine SL.y (OV.move rfl) rfl ?_
      refine SL.callB (j := 0) pf17 (args4 rfl rfl rfl rfl) rfl (fun w h => call17 (by omega) h3s hb (by omega) (by omega) h) rfl ?_
      refine SL.y (OV.assign rfl) rfl ?_
      refine SL.nil ?_
      refine SC.then ?_
      refine SC.seq ?_
      refine SC.region ?_
      refine SL.y (OV.move rfl) rfl ?_
      refine SL.y (OV.assign rfl) rfl ?_
      refine SL.nil ?_
      refine SC.then ?_
      refine SC.exit ?_
      generalize partitionEqual Fl.lt d3 a b pv = r at *
      repeat (first | refine SE.thenE ?_ | refine SE.inBlock ?_)
      exact SE.round (s := PS.mk a b lim wb wp d) ⟨r.1, b, l1, wb, wp, r.2⟩ ⟨by show b - r.1 ≤ m + 1; omega, hf.2.1, hb, h1l, hf.2.2.1.trans h3s, hf.2.2.2, hR⟩ (by show b - r.1 < b - a; omega) (by repeat' (first | exact trivial | refine ⟨rfl, ?_⟩)) (List.Sublist.refl _)
    · have hf := pt_facts hp1 hp2 (by omega) h3B
      have e4 : st4 d3 a b pv l1 wb wp = (if (partition Fl.lt d3 a b pv).1 - a < b - (partition Fl.lt d3 a b pv).1 then pdq Fl.lt (pdq Fl.lt (partition Fl.lt d3 a b pv).2.2 a (partition Fl.lt d3 a b pv).1 l1 true true) ((partition Fl.lt d3 a b pv).1 + 1) b l1 (decide ((partition Fl.lt d3 a b pv).1 - a ≥ (b - a) / 8)) (partition Fl.lt d3 a b pv).2.1 else pdq Fl.lt (pdq Fl.lt (partition Fl.lt d3 a b pv).2.2 ((partition Fl.lt d3 a b pv).1 + 1) b l1 true true) a (partition Fl.lt d3 a b pv).1 l1 (decide (b - (partition Fl.lt d3 a b pv).1 ≥ (b - a) / 8)) (partition Fl.lt d3 a b pv).2.1) := by
        unfold st4
        rw [if_neg (by simpa using hc), if_pos ⟨hf.1, hf.2.1⟩]
      rw [e4] at hR
      refine SC.cutSt ((87, .bool false) :: (11, .int .i64 pv) :: (10, .int .i64 (b - a : Nat)) :: E8 blk n c a b l1 wb wp) [(blk, fr d3)] ?_ ?_
      · by_cases ha : 0 < a
        · have hl : Fl.lt d3[a - 1]! d3[pv]! = true := by
            cases h : Fl.lt d3[a - 1]! d3[pv]!
            · exact absurd ⟨ha, h⟩ hc
            · rfl
          refine SC.quiet mixed (by kernel_rfl) ?_
          refine SQ.y (OV.move rfl) rfl ?_
          refine SQ.y ((OV.gtr rfl rfl).yes (by omega)) rfl ?_
          refine SQ.y (OV.move rfl) rfl ?_
          refine SQ.yg rfl rfl (OV.move rfl) rfl ?_
          refine SQ.yg rfl rfl (OV.move rfl) rfl ?_
          refine SQ.yg rfl rfl (OV.sub rfl rfl (wrap_i64 (by omega) (by omega))) rfl ?_
          refine SQ.yg rfl rfl (OV.idx1 (a - 1) u22 se22 rfl rfl (by omega) (by omega)) rfl ?_
          refine SQ.yg rfl rfl (OV.loadFr 0 sc23 rfl rfl (by omega)) rfl ?_
          refine SQ.yg rfl rfl (OV.move rfl) rfl ?_
          refine SQ.yg rfl rfl (OV.move rfl) rfl ?_
          refine SQ.yg rfl rfl (OV.idx1 pv u22 se22 rfl rfl rfl (by omega)) rfl ?_
          refine SQ.yg rfl rfl (OV.loadFr 0 sc23 rfl rfl (by omega)) rfl ?_
          refine SQ.callQg rfl rfl pf16 (args2 rfl rfl) (fun w hM => by have := call16 d3[a - 1]! d3[pv]! w; rwa [hl] at this) rfl ?_
          refine SQ.yg rfl rfl (OV.not rfl) rfl ?_
          refine SQ.y (OV.pickT rfl rfl) rfl ?_
          refine SQ.nil ?_
          exact SE.toSt (by repeat' (first | exact trivial | refine ⟨rfl, ?_⟩)) (List.Sublist.refl _)
        · skip
          refine SC.quiet mixed (by kernel_rfl) ?_
          refine SQ.y (OV.move rfl) rfl ?_
          refine SQ.y ((OV.gtr rfl rfl).no (by omega)) rfl ?_
          refine SQ.y (OV.move rfl) rfl ?_
          refine SQ.skip rfl rfl rfl ?_
          refine SQ.skip rfl rfl rfl ?_
          refine SQ.skip rfl rfl rfl ?_
          refine SQ.skip rfl rfl rfl ?_
          refine SQ.skip rfl rfl rfl ?_
          refine SQ.skip rfl rfl rfl ?_
          refine SQ.skip rfl rfl rfl ?_
          refine SQ.skip rfl rfl rfl ?_
          refine SQ.skip rfl rfl rfl ?_
          refine SQ.skip rfl rfl rfl ?_
          refine SQ.skip rfl rfl rfl ?_
          refine SQ.y (OV.pickF rfl rfl) rfl ?_
          refine SQ.nil ?_
          exact SE.toSt (by repeat' (first | exact trivial | refine ⟨rfl, ?_⟩)) (List.Sublist.refl _)
      refine SC.condF rfl ?_
      refine SC.skip ?_
      refine SC.then ?_
      refine SC.seq ?_
      refine SC.region ?_
      refine SL.y (OV.move rfl) rfl ?_
      refine SL.y (OV.move rfl) rfl ?_
      refine SL.y (OV.move rfl) rfl ?_
      refine SL.y (OV.move rfl) rfl ?_
      refine SL.callB (j := 0) pf18 (args4 rfl rfl rfl rfl) rfl (fun w h => call18 (by omega) h3s hb (by omega) (by omega) h) rfl ?_
      refine SL.y (OV.move rfl) rfl ?_
      refine SL.y (OV.extract rfl rfl) rfl ?_
      refine SL.y (OV.extract rfl rfl) rfl ?_
      refine SL.y (OV.assign rfl) rfl ?_
      refine SL.y (OV.assign rfl) rfl ?_
      refine SL.nil ?_
      refine SC.then ?_
      generalize partition Fl.lt d3 a b pv = r at *
      obtain ⟨mid, ap, d4⟩ := r
      dsimp only at hf hR ⊢
      obtain ⟨f1, f2, f3, f4, f5⟩ := hf
      refine SC.seq ?_
      refine SC.region ?_
      refine SL.y (OV.move rfl) rfl ?_
      refine SL.y (OV.assign rfl) rfl ?_
      refine SL.nil ?_
      refine SC.then ?_
      refine SC.seq ?_
      refine SC.region ?_
      refine SL.y (OV.move rfl) rfl ?_
      refine SL.y (OV.move rfl) rfl ?_
      refine SL.y (OV.sub (r := ((mid - a : Nat) : Int)) rfl rfl (by rw [wrap_i64 (by omega) (by omega)]; omega)) rfl ?_
      refine SL.y (OV.move rfl) rfl ?_
      refine SL.y (OV.move rfl) rfl ?_
      refine SL.y (OV.sub (r := ((b - mid : Nat) : Int)) rfl rfl (by rw [wrap_i64 (by omega) (by omega)]; omega)) rfl ?_
      refine SL.y (OV.assign rfl) rfl ?_
      refine SL.y (OV.assign rfl) rfl ?_
      refine SL.nil ?_
      refine SC.then ?_
      refine SC.seq ?_
      refine SC.region ?_
      refine SL.y (OV.move rfl) rfl ?_
      refine SL.y (OV.quo (r := (((b - a) / 8 : Nat) : Int)) rfl rfl (by decide) (by rw [Int.tdiv_eq_ediv_of_nonneg (by omega), wrap_i64 (by omega) (by omega)]; omega)) rfl ?_
      refine SL.y (OV.assign rfl) rfl ?_
      refine SL.nil ?_
      refine SC.then ?_
      refine SC.seq ?_
      refine SC.region ?_
      refine SL.y (OV.move rfl) rfl ?_
      refine SL.y (OV.move rfl) rfl ?_
      refine SL.y (OV.lss rfl rfl) rfl ?_
      refine SL.nil ?_
      refine SC.then ?_
      refine SC.condP rfl (fun hlt => ?_) (fun hge => ?_)
      · rw [if_pos (show mid - a < b - mid by omega)] at hR
        have hP := (pdq_sorts Fl.lt swo d4 a mid l1 true true f1 (by omega) f4).1
        refine SC.seq ?_
        refine SC.region ?_
        refine SL.y (OV.move rfl) rfl ?_
        refine SL.y (OV.move rfl) rfl ?_
        refine SL.y ((OV.geq rfl rfl).is (v' := .bool (decide (mid - a ≥ (b - a) / 8))) (by congr 1; exact decide_eq_decide.2 (by omega))) rfl ?_
        refine SL.y (OV.assign rfl) rfl ?_
        refine SL.nil ?_
        refine SC.then ?_
        refine SC.seq ?_
        refine SC.region ?_
        refine SL.y (OV.move rfl) rfl ?_
        refine SL.y (OV.move rfl) rfl ?_
        refine SL.y (OV.move rfl) rfl ?_
        refine SL.y (OV.move rfl) rfl ?_
        refine SL.callB (j := 0) pf8 (args4 rfl rfl rfl rfl) rfl (fun w h => ih (by omega) f1 (by omega) h1l (f3.trans h3s) f4 h) rfl ?_
        refine SL.nil ?_
        refine SC.then ?_
        refine SC.region ?_
        refine SL.y (OV.move rfl) rfl ?_
        refine SL.y (OV.add (r := ((mid + 1 : Nat) : Int)) rfl rfl (by rw [wrap_i64 (by omega) (by omega)]; omega)) rfl ?_
        refine SL.y (OV.assign rfl) rfl ?_
        refine SL.nil ?_
        refine SE.nb ?_
        exact SE.round (s := PS.mk a b lim wb wp d) ⟨mid + 1, b, l1, decide (mid - a ≥ (b - a) / 8), ap, pdq Fl.lt d4 a mid l1 true true⟩ ⟨by show b - (mid + 1) ≤ m + 1; omega, by show mid + 1 ≤ b; omega, hb, h1l, hP.1.trans (f3.trans h3s), below_left_kept f5 hP, hR⟩ (by show b - (mid + 1) < b - a; omega) (by repeat' (first | exact trivial | refine ⟨rfl, ?_⟩)) (List.Sublist.refl _)
      · rw [if_neg (show ¬ mid - a < b - mid by omega)] at hR
        have hP := (pdq_sorts Fl.lt swo d4 (mid + 1) b l1 true true (by omega) (by omega) f5).1
        refine SC.seq ?_
        refine SC.region ?_
        refine SL.y (OV.move rfl) rfl ?_
        refine SL.y (OV.move rfl) rfl ?_
        refine SL.y ((OV.geq rfl rfl).is (v' := .bool (decide (b - mid ≥ (b - a) / 8))) (by congr 1; exact decide_eq_decide.2 (by omega))) rfl ?_
        refine SL.y (OV.assign rfl) rfl ?_
        refine SL.nil ?_
        refine SC.then ?_
        refine SC.seq ?_
        refine SC.region ?_
        refine SL.y (OV.move rfl) rfl ?_
        refine SL.y (OV.move rfl) rfl ?_
        refine SL.y (OV.add (r := ((mid + 1 : Nat) : Int)) rfl rfl (by rw [wrap_i64 (by omega) (by omega)]; omega)) rfl ?_
        refine SL.y (OV.move rfl) rfl ?_
        refine SL.y (OV.move rfl) rfl ?_
        refine SL.callB (j := 0) pf8 (args4 rfl rfl rfl rfl) rfl (fun w h => ih (by omega) (by omega) hb h1l (f3.trans h3s) f5 h) rfl ?_
        refine SL.nil ?_
        refine SC.then ?_
        refine SC.region ?_
        refine SL.y (OV.move rfl) rfl ?_
        refine SL.y (OV.assign rfl) rfl ?_
        refine SL.nil ?_
        refine SE.nb ?_
        exact SE.round (s := PS.mk a b lim wb wp d) ⟨a, mid, l1, decide (b - mid ≥ (b - a) / 8), ap, pdq Fl.lt d4 (mid + 1) b l1 true true⟩ ⟨by show mid - a ≤ m + 1; omega, f1, by show mid ≤ n; omega, h1l, hP.1.trans (f3.trans h3s), below_right_kept f4 hP f1, hR⟩ (by show mid - a < b - a; omega) (by repeat' (first | exact trivial | refine ⟨rfl, ?_⟩)) (List.Sublist.refl _)
end Go.Proofs.Ybulkdrfa
