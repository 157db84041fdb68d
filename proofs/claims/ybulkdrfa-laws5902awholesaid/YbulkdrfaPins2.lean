import Derived.Test.YbulkdrfaPins
namespace Go.Proofs.Ybulkdrfa
open Go Go.RowKit Go.Proofs.Ybulkdrfa.Sym Go.Sort
set_option linter.unusedVariables false
set_option linter.unusedSimpArgs false
set_option maxRecDepth 100000

section
variable {w0 : World} {Q : Exit → Act → World → Prop} {blk n c a b st i : Nat} {q : Array Nat}
/-- the greater one is shifted up -/
theorem pup {j : Nat} (hPQ : PanicOk Q) (hn : n ≤ 1000000) (hqs : q.size = n) (hb : b ≤ n) (hj : 1 ≤ j)
    (h : ∀ q', q'.size = n → q' = shiftUp Fl.lt b j q → SE (Q .normal) Yba.f15.ntmps (EP blk n c a b st i) w0 [blk] [(blk, fr q')]) :
    SC Yba.prog (sub [1, 1, 0, 1, 2, 2, 1, 0, 2, 1, 1, 1, 1, 1, 1, 3, 1] (Yba.f15.body.getD .skip)) Q Yba.f15.ntmps ((10, .int .i64 j) :: EP blk n c a b st i) w0 [blk] [(blk, fr q)] := by
  refine SC.block ?_
  refine SC.loopAB (fun (j' : Nat) (q' : Array Nat) => (10, .int .i64 j') :: EP blk n c a b st i) (fun j' q' => [(blk, fr q')]) (fun j' q' => 1 ≤ j' ∧ q'.size = n ∧ shiftUp Fl.lt b j' q' = shiftUp Fl.lt b j q) (fun j' q' => b - j') j q ⟨hj, hqs, rfl⟩ (by repeat' (first | exact trivial | refine ⟨rfl, ?_⟩)) (List.Sublist.refl _) ?_
  rintro j' q' ⟨hj', hqs', he⟩
  refine SC.seq ?_
  refine SC.seq ?_
  refine SC.region ?_
  refine SL.y (OV.move rfl) rfl ?_
  refine SL.y (OV.move rfl) rfl ?_
  refine SL.y (OV.lss rfl rfl) rfl ?_
  refine SL.nil ?_
  refine SC.then ?_
  refine SC.condP rfl (fun hlt => ?_) (fun hge => ?_)
  · have hjb : j' < b := by omega
    refine SC.skip ?_
    refine SC.then ?_
    refine SC.seq ?_
    refine SC.block ?_
    refine SC.seq ?_
    refine SC.seq ?_
    refine SC.quiet mixed (by kernel_rfl) ?_
    refine SQ.y (OV.move rfl) rfl ?_
    refine SQ.y (OV.move rfl) rfl ?_
    refine SQ.y (OV.idx1 j' u22 se22 rfl rfl rfl (by omega)) rfl ?_
    refine SQ.y (OV.loadFr 0 sc23 rfl rfl (by omega)) rfl ?_
    refine SQ.y (OV.move rfl) rfl ?_
    refine SQ.y (OV.move rfl) rfl ?_
    refine SQ.y (OV.sub rfl rfl (wrap_i64 (by omega) (by omega))) rfl ?_
    refine SQ.y (OV.idx1 (j' - 1) u22 se22 rfl rfl (by omega) (by omega)) rfl ?_
    refine SQ.y (OV.loadFr 0 sc23 rfl rfl (by omega)) rfl ?_
    refine SQ.callQ pf16 (args2 rfl rfl) (fun w hM => call16 _ _ w) rfl ?_
    refine SQ.y (OV.not rfl) rfl ?_
    refine SQ.nil ?_
    refine SC.then ?_
    refine SC.cond rfl (fun e => ?_) (fun e => ?_)
    · rw [su_stop hjb e] at he
      refine SC.exit ?_
      refine SE.thenE (SE.inBlock_ne rfl (SE.thenE (SE.thenE (SE.inBlock ?_))))
      exact SE.weaken (by repeat' (first | exact trivial | refine ⟨rfl, ?_⟩)) (List.Sublist.refl _) (h q' hqs' he)
    · refine SC.skip ?_
      refine SC.then ?_
      refine SC.weaken (env' := (10, .int .i64 j') :: EP blk n c a b st i) (by repeat' (first | exact trivial | refine ⟨rfl, ?_⟩)) (List.Sublist.refl _) ?_
      refine SC.endSt ((10, .int .i64 j') :: EP blk n c a b st i) [(blk, fr (swp q' j' (j' - 1)))] ?_ ?_
      · skip
        refine SC.held 15 [(blk, fr q')] [] mixed ?_
        refine SA.takeC (i := 0) (by repeat (first | exact hPQ | refine PanicOk.then ?_ | refine PanicOk.block ?_ | exact PanicOk.body)) rfl (by kernel_rfl) (by kernel_rfl) (by kernel_rfl) rfl (by first | exact List.nil_sublist _ | exact List.Sublist.refl _ | (repeat (first | exact List.Sublist.refl _ | exact List.nil_sublist _ | refine List.Sublist.cons_cons _ ?_ | refine List.Sublist.cons _ ?_))) (OV.move rfl) rfl ?_
        refine SA.takeC (i := 1) (by repeat (first | exact hPQ | refine PanicOk.then ?_ | refine PanicOk.block ?_ | exact PanicOk.body)) rfl (by kernel_rfl) (by kernel_rfl) (by kernel_rfl) rfl (by first | exact List.nil_sublist _ | exact List.Sublist.refl _ | (repeat (first | exact List.Sublist.refl _ | exact List.nil_sublist _ | refine List.Sublist.cons_cons _ ?_ | refine List.Sublist.cons _ ?_))) (OV.move rfl) rfl ?_
        refine SA.takeC (i := 2) (by repeat (first | exact hPQ | refine PanicOk.then ?_ | refine PanicOk.block ?_ | exact PanicOk.body)) rfl (by kernel_rfl) (by kernel_rfl) (by kernel_rfl) rfl (by first | exact List.nil_sublist _ | exact List.Sublist.refl _ | (repeat (first | exact List.Sublist.refl _ | exact List.nil_sublist _ | refine List.Sublist.cons_cons _ ?_ | refine List.Sublist.cons _ ?_))) (OV.move rfl) rfl ?_
        refine SA.takeC (i := 3) (by repeat (first | exact hPQ | refine PanicOk.then ?_ | refine PanicOk.block ?_ | exact PanicOk.body)) rfl (by kernel_rfl) (by kernel_rfl) (by kernel_rfl) rfl (by first | exact List.nil_sublist _ | exact List.Sublist.refl _ | (repeat (first | exact List.Sublist.refl _ | exact List.nil_sublist _ | refine List.Sublist.cons_cons _ ?_ | refine List.Sublist.cons _ ?_))) (OV.move rfl) rfl ?_
        refine SA.takeC (i := 4) (by repeat (first | exact hPQ | refine PanicOk.then ?_ | refine PanicOk.block ?_ | exact PanicOk.body)) rfl (by kernel_rfl) (by kernel_rfl) (by kernel_rfl) rfl (by first | exact List.nil_sublist _ | exact List.Sublist.refl _ | (repeat (first | exact List.Sublist.refl _ | exact List.nil_sublist _ | refine List.Sublist.cons_cons _ ?_ | refine List.Sublist.cons _ ?_))) (OV.sub rfl rfl (wrap_i64 (by omega) (by omega))) rfl ?_
        refine SA.takeC (i := 5) (by repeat (first | exact hPQ | refine PanicOk.then ?_ | refine PanicOk.block ?_ | exact PanicOk.body)) rfl (by kernel_rfl) (by kernel_rfl) (by kernel_rfl) rfl (by first | exact List.nil_sublist _ | exact List.Sublist.refl _ | (repeat (first | exact List.Sublist.refl _ | exact List.nil_sublist _ | refine List.Sublist.cons_cons _ ?_ | refine List.Sublist.cons _ ?_))) (OV.move rfl) rfl ?_
        refine SA.takeC (i := 6) (by repeat (first | exact hPQ | refine PanicOk.then ?_ | refine PanicOk.block ?_ | exact PanicOk.body)) rfl (by kernel_rfl) (by kernel_rfl) (by kernel_rfl) rfl (by first | exact List.nil_sublist _ | exact List.Sublist.refl _ | (repeat (first | exact List.Sublist.refl _ | exact List.nil_sublist _ | refine List.Sublist.cons_cons _ ?_ | refine List.Sublist.cons _ ?_))) (OV.move rfl) rfl ?_
        refine SA.takeC (i := 7) (by repeat (first | exact hPQ | refine PanicOk.then ?_ | refine PanicOk.block ?_ | exact PanicOk.body)) rfl (by kernel_rfl) (by kernel_rfl) (by kernel_rfl) rfl (by first | exact List.nil_sublist _ | exact List.Sublist.refl _ | (repeat (first | exact List.Sublist.refl _ | exact List.nil_sublist _ | refine List.Sublist.cons_cons _ ?_ | refine List.Sublist.cons _ ?_))) (OV.sub rfl rfl (wrap_i64 (by omega) (by omega))) rfl ?_
        refine SA.takeC (i := 8) (by repeat (first | exact hPQ | refine PanicOk.then ?_ | refine PanicOk.block ?_ | exact PanicOk.body)) rfl (by kernel_rfl) (by kernel_rfl) (by kernel_rfl) rfl (by first | exact List.nil_sublist _ | exact List.Sublist.refl _ | (repeat (first | exact List.Sublist.refl _ | exact List.nil_sublist _ | refine List.Sublist.cons_cons _ ?_ | refine List.Sublist.cons _ ?_))) (OV.idx1 (j' - 1) u22 se22 rfl rfl (by omega) (by omega)) rfl ?_
        refine SA.takeA (i := 9) (by repeat (first | exact hPQ | refine PanicOk.then ?_ | refine PanicOk.block ?_ | exact PanicOk.body)) rfl (by kernel_rfl) (by kernel_rfl) (by kernel_rfl) rfl (by kernel_rfl) (by kernel_rfl) (by first | exact List.nil_sublist _ | exact List.Sublist.refl _ | (repeat (first | exact List.Sublist.refl _ | exact List.nil_sublist _ | refine List.Sublist.cons_cons _ ?_ | refine List.Sublist.cons _ ?_))) (OV.loadFr 0 sc23 rfl rfl (by omega)) rfl ?_
        refine SA.takeC (i := 10) (by repeat (first | exact hPQ | refine PanicOk.then ?_ | refine PanicOk.block ?_ | exact PanicOk.body)) rfl (by kernel_rfl) (by kernel_rfl) (by kernel_rfl) rfl (by first | exact List.nil_sublist _ | exact List.Sublist.refl _ | (repeat (first | exact List.Sublist.refl _ | exact List.nil_sublist _ | refine List.Sublist.cons_cons _ ?_ | refine List.Sublist.cons _ ?_))) (OV.move rfl) rfl ?_
        refine SA.takeC (i := 11) (by repeat (first | exact hPQ | refine PanicOk.then ?_ | refine PanicOk.block ?_ | exact PanicOk.body)) rfl (by kernel_rfl) (by kernel_rfl) (by kernel_rfl) rfl (by first | exact List.nil_sublist _ | exact List.Sublist.refl _ | (repeat (first | exact List.Sublist.refl _ | exact List.nil_sublist _ | refine List.Sublist.cons_cons _ ?_ | refine List.Sublist.cons _ ?_))) (OV.move rfl) rfl ?_
        refine SA.takeC (i := 12) (by repeat (first | exact hPQ | refine PanicOk.then ?_ | refine PanicOk.block ?_ | exact PanicOk.body)) rfl (by kernel_rfl) (by kernel_rfl) (by kernel_rfl) rfl (by first | exact List.nil_sublist _ | exact List.Sublist.refl _ | (repeat (first | exact List.Sublist.refl _ | exact List.nil_sublist _ | refine List.Sublist.cons_cons _ ?_ | refine List.Sublist.cons _ ?_))) (OV.idx1 (j') u22 se22 rfl rfl (by omega) (by omega)) rfl ?_
        refine SA.takeA (i := 13) (by repeat (first | exact hPQ | refine PanicOk.then ?_ | refine PanicOk.block ?_ | exact PanicOk.body)) rfl (by kernel_rfl) (by kernel_rfl) (by kernel_rfl) rfl (by kernel_rfl) (by kernel_rfl) (by first | exact List.nil_sublist _ | exact List.Sublist.refl _ | (repeat (first | exact List.Sublist.refl _ | exact List.nil_sublist _ | refine List.Sublist.cons_cons _ ?_ | refine List.Sublist.cons _ ?_))) (OV.loadFr 0 sc23 rfl rfl (by omega)) rfl ?_
        refine SA.takeC (i := 14) (by repeat (first | exact hPQ | refine PanicOk.then ?_ | refine PanicOk.block ?_ | exact PanicOk.body)) rfl (by kernel_rfl) (by kernel_rfl) (by kernel_rfl) rfl (by first | exact List.nil_sublist _ | exact List.Sublist.refl _ | (repeat (first | exact List.Sublist.refl _ | exact List.nil_sublist _ | refine List.Sublist.cons_cons _ ?_ | refine List.Sublist.cons _ ?_))) (OV.idx1 (j') u22 se22 rfl rfl (by omega) (by omega)) rfl ?_
        refine SA.all (rs := [15]) (by kernel_rfl) (by simp) (all_cons ?_ (all_nil))
        · skip
          refine SO.s rfl (OS.storeFr 0 sz23 rfl rfl rfl (by omega)) (by first | exact List.nil_sublist _ | exact List.Sublist.refl _ | (repeat (first | exact List.Sublist.refl _ | exact List.nil_sublist _ | refine List.Sublist.cons_cons _ ?_ | refine List.Sublist.cons _ ?_))) ?_
          refine SA.takeC (i := 16) (by repeat (first | exact hPQ | refine PanicOk.then ?_ | refine PanicOk.block ?_ | exact PanicOk.body)) rfl (by kernel_rfl) (by kernel_rfl) (by kernel_rfl) rfl (by first | exact List.nil_sublist _ | exact List.Sublist.refl _ | (repeat (first | exact List.Sublist.refl _ | exact List.nil_sublist _ | refine List.Sublist.cons_cons _ ?_ | refine List.Sublist.cons _ ?_))) (OV.idx1 (j' - 1) u22 se22 rfl rfl (by omega) (by omega)) rfl ?_
          refine SA.all (rs := [17]) (by kernel_rfl) (by simp) (all_cons ?_ (all_nil))
          · skip
            refine SO.s rfl (OS.storeFr 0 sz23 rfl rfl rfl (by simp; omega)) (by first | exact List.nil_sublist _ | exact List.Sublist.refl _ | (repeat (first | exact List.Sublist.refl _ | exact List.nil_sublist _ | refine List.Sublist.cons_cons _ ?_ | refine List.Sublist.cons _ ?_))) ?_
            refine SA.done (by kernel_rfl) ?_
            exact SE.toSt (by repeat' (first | exact trivial | refine ⟨rfl, ?_⟩)) (List.Sublist.refl _)
      refine SE.nb ?_
      refine SC.then ?_
      refine SC.region ?_
      refine SL.y (OV.move rfl) rfl ?_
      refine SL.y (OV.add rfl rfl (wrap_i64 (by omega) (by omega))) rfl ?_
      refine SL.y (OV.assign rfl) rfl ?_
      refine SL.nil ?_
      exact SE.roundAB (j' + 1) (swp q' j' (j' - 1)) ⟨by omega, by rw [size_swp]; exact hqs', by rw [← he]; exact (su_step hjb e).symm⟩ (by omega) (by repeat' (first | exact trivial | refine ⟨rfl, ?_⟩)) (List.Sublist.refl _)
  · rw [su_end (by omega)] at he
    refine SC.exit ?_
    refine SE.thenE (SE.thenE (SE.inBlock ?_))
    exact SE.weaken (by repeat' (first | exact trivial | refine ⟨rfl, ?_⟩)) (List.Sublist.refl _) (h q' hqs' he)
end

/-- partialInsertionSortOrdered -/
theorem call15 {w : World} {blk n c a b : Nat} {d : Array Nat} (hn : n ≤ 1000000) (hds : d.size = n) (hb : b ≤ n) (hab : a < b) (hw : w.heap[blk]? = some (fr d)) :
    Calls Yba.prog 15 #[sl blk n c, .int .i64 a, .int .i64 b] w fun e w' => e = .returned (.bool (partialInsertionSort Fl.lt d a b).2) ∧ Mm w [blk] [(blk, fr (partialInsertionSort Fl.lt d a b).1)] w' := by
  refine Calls.of_SC (args := [sl blk n c, .int .i64 a, .int .i64 b]) Yba.func15 rfl (by simp [Yba.f15]) (Mm.ofRow hw) ?_
  have hPQ : PanicOk (bodyPost Yba.prog Yba.f15 (fun e w' => e = .returned (.bool (partialInsertionSort Fl.lt d a b).2) ∧ Mm w [blk] [(blk, fr (partialInsertionSort Fl.lt d a b).1)] w')) := PanicOk.body
  refine SC.seq ?_
  refine SC.region ?_
  refine SL.y (OV.assign rfl) rfl ?_
  refine SL.nil ?_
  refine SC.then ?_
  refine SC.seq ?_
  refine SC.region ?_
  refine SL.y (OV.move rfl) rfl ?_
  refine SL.y (OV.add (r := ((a + 1 : Nat) : Int)) rfl rfl (by rw [wrap_i64 (by omega) (by omega)]; omega)) rfl ?_
  refine SL.y (OV.assign rfl) rfl ?_
  refine SL.nil ?_
  refine SC.then ?_
  refine SC.seq ?_
  refine SC.seq ?_
  refine SC.region ?_
  refine SL.y (OV.assign rfl) rfl ?_
  refine SL.nil ?_
  refine SC.then ?_
  refine SC.block ?_
  refine SC.loopAB (fun (s : Nat × Nat) (q : Array Nat) => EP blk n c a b s.1 s.2) (fun s q => [(blk, fr q)]) (fun s q => s.1 ≤ 5 ∧ 1 ≤ s.2 ∧ a < s.2 ∧ s.2 ≤ b ∧ q.size = n ∧ partialIns Fl.lt a b (5 - s.1) s.2 q = partialInsertionSort Fl.lt d a b) (fun s q => 5 - s.1) (0, a + 1) d ⟨by show 0 ≤ 5; omega, by show 1 ≤ a + 1; omega, by show a < a + 1; omega, by show a + 1 ≤ b; omega, hds, rfl⟩ (by repeat' (first | exact trivial | refine ⟨rfl, ?_⟩)) (List.Sublist.refl _) ?_
  rintro ⟨st, i⟩ q ⟨hst, hi1, hai, hib, hqs, hq⟩
  dsimp only at hst hi1 hai hib hq ⊢
  refine SC.seq ?_
  refine SC.seq ?_
  refine SC.region ?_
  refine SL.y (OV.move rfl) rfl ?_
  refine SL.y (OV.lss rfl rfl) rfl ?_
  refine SL.nil ?_
  refine SC.then ?_
  refine SC.condP rfl (fun hlt => ?_) (fun hge => ?_)
  · obtain ⟨s, hs⟩ : ∃ s, 5 - st = s + 1 := ⟨4 - st, by omega⟩
    have hs' : 5 - (st + 1) = s := by omega
    rw [hs] at hq
    have hunf : partialIns Fl.lt a b (s + 1) i q = (if scanSorted Fl.lt q b i = b then (q, true) else if b - a < 50 then (q, false) else partialIns Fl.lt a b s (scanSorted Fl.lt q b i) (if b - scanSorted Fl.lt q b i ≥ 2 then shiftUp Fl.lt b (scanSorted Fl.lt q b i + 1) (if scanSorted Fl.lt q b i - a ≥ 2 then shiftDown Fl.lt (scanSorted Fl.lt q b i - 1) (swp q (scanSorted Fl.lt q b i) (scanSorted Fl.lt q b i - 1)) else swp q (scanSorted Fl.lt q b i) (scanSorted Fl.lt q b i - 1)) else (if scanSorted Fl.lt q b i - a ≥ 2 then shiftDown Fl.lt (scanSorted Fl.lt q b i - 1) (swp q (scanSorted Fl.lt q b i) (scanSorted Fl.lt q b i - 1)) else swp q (scanSorted Fl.lt q b i) (scanSorted Fl.lt q b i - 1)))) := rfl
    rw [hunf] at hq
    have hge : i ≤ scanSorted Fl.lt q b i := by
      have : ∀ f i, b - i ≤ f → i ≤ scanSorted Fl.lt q b i := by
        intro f
        induction f with
        | zero => intro i hf; rw [ss_stop (fun h => by have := h.1; omega)]; exact Nat.le_refl _
        | succ f ih =>
          intro i hf
          by_cases hc : i < b ∧ (!Fl.lt q[i]! q[i - 1]!) = true
          · rw [ss_step hc.1 hc.2]
            have := ih (i + 1) (by omega)
            omega
          · rw [ss_stop hc]; exact Nat.le_refl _
      exact this (b - i) i (Nat.le_refl _)
    refine SC.skip ?_
    refine SC.then ?_
    refine SC.seq ?_
    refine SC.block ?_
    refine SC.seq ?_
    refine SC.weaken ?_ (List.Sublist.refl _) (pscan (blk := blk) (n := n) (c := c) (a := a) (b := b) (st := st) (i := i) (q := q) hn hqs hb hi1 hib ?_)
    · exact (by repeat' (first | exact trivial | refine ⟨rfl, ?_⟩))
    intro hle
    generalize scanSorted Fl.lt q b i = i2 at *
    refine SC.then ?_
    refine SC.seq ?_
    refine SC.seq ?_
    refine SC.region ?_
    refine SL.y (OV.move rfl) rfl ?_
    refine SL.y (OV.move rfl) rfl ?_
    refine SL.y (OV.eql rfl rfl) rfl ?_
    refine SL.nil ?_
    refine SC.then ?_
    refine SC.condP rfl (fun heq => ?_) (fun hneq => ?_)
    · rw [if_pos (show i2 = b by omega)] at hq
      rw [← hq]
      refine SC.seq ?_
      refine SC.region ?_
      refine SL.y (OV.assign rfl) rfl ?_
      refine SL.nil ?_
      refine SC.then ?_
      refine SC.ret ?_
      repeat (first | refine SE.blockR ?_ | refine SE.thenR ?_)
      exact SE.ret1 Yba.results15 rfl (fun w' hM => ⟨rfl, hM⟩)
    · rw [if_neg (show ¬ i2 = b by omega)] at hq
      refine SC.skip ?_
      refine SC.then ?_
      refine SC.seq ?_
      refine SC.seq ?_
      refine SC.region ?_
      refine SL.y (OV.move rfl) rfl ?_
      refine SL.y (OV.move rfl) rfl ?_
      refine SL.y (OV.sub rfl rfl (wrap_i64 (by omega) (by omega))) rfl ?_
      refine SL.y (OV.lss rfl rfl) rfl ?_
      refine SL.nil ?_
      refine SC.then ?_
      refine SC.condP rfl (fun h50 => ?_) (fun h50 => ?_)
      · rw [if_pos (show b - a < 50 by omega)] at hq
        rw [← hq]
        refine SC.seq ?_
        refine SC.region ?_
        refine SL.y (OV.assign rfl) rfl ?_
        refine SL.nil ?_
        refine SC.then ?_
        refine SC.ret ?_
        repeat (first | refine SE.blockR ?_ | refine SE.thenR ?_)
        exact SE.ret1 Yba.results15 rfl (fun w' hM => ⟨rfl, hM⟩)
      · rw [if_neg (show ¬ b - a < 50 by omega)] at hq
        refine SC.skip ?_
        refine SC.then ?_
        refine SC.weaken (env' := EP blk n c a b st i2) (by repeat' (first | exact trivial | refine ⟨rfl, ?_⟩)) (List.Sublist.refl _) ?_
        refine SC.cutSt (EP blk n c a b st i2) [(blk, fr (swp q i2 (i2 - 1)))] ?_ ?_
        · skip
          refine SC.held 15 [(blk, fr q)] [] mixed ?_
          refine SA.takeC (i := 0) (by repeat (first | exact hPQ | refine PanicOk.then ?_ | refine PanicOk.block ?_ | exact PanicOk.body)) rfl (by kernel_rfl) (by kernel_rfl) (by kernel_rfl) rfl (by first | exact List.nil_sublist _ | exact List.Sublist.refl _ | (repeat (first | exact List.Sublist.refl _ | exact List.nil_sublist _ | refine List.Sublist.cons_cons _ ?_ | refine List.Sublist.cons _ ?_))) (OV.move rfl) rfl ?_
          refine SA.takeC (i := 1) (by repeat (first | exact hPQ | refine PanicOk.then ?_ | refine PanicOk.block ?_ | exact PanicOk.body)) rfl (by kernel_rfl) (by kernel_rfl) (by kernel_rfl) rfl (by first | exact List.nil_sublist _ | exact List.Sublist.refl _ | (repeat (first | exact List.Sublist.refl _ | exact List.nil_sublist _ | refine List.Sublist.cons_cons _ ?_ | refine List.Sublist.cons _ ?_))) (OV.move rfl) rfl ?_
          refine SA.takeC (i := 2) (by repeat (first | exact hPQ | refine PanicOk.then ?_ | refine PanicOk.block ?_ | exact PanicOk.body)) rfl (by kernel_rfl) (by kernel_rfl) (by kernel_rfl) rfl (by first | exact List.nil_sublist _ | exact List.Sublist.refl _ | (repeat (first | exact List.Sublist.refl _ | exact List.nil_sublist _ | refine List.Sublist.cons_cons _ ?_ | refine List.Sublist.cons _ ?_))) (OV.move rfl) rfl ?_
          refine SA.takeC (i := 3) (by repeat (first | exact hPQ | refine PanicOk.then ?_ | refine PanicOk.block ?_ | exact PanicOk.body)) rfl (by kernel_rfl) (by kernel_rfl) (by kernel_rfl) rfl (by first | exact List.nil_sublist _ | exact List.Sublist.refl _ | (repeat (first | exact List.Sublist.refl _ | exact List.nil_sublist _ | refine List.Sublist.cons_cons _ ?_ | refine List.Sublist.cons _ ?_))) (OV.move rfl) rfl ?_
          refine SA.takeC (i := 4) (by repeat (first | exact hPQ | refine PanicOk.then ?_ | refine PanicOk.block ?_ | exact PanicOk.body)) rfl (by kernel_rfl) (by kernel_rfl) (by kernel_rfl) rfl (by first | exact List.nil_sublist _ | exact List.Sublist.refl _ | (repeat (first | exact List.Sublist.refl _ | exact List.nil_sublist _ | refine List.Sublist.cons_cons _ ?_ | refine List.Sublist.cons _ ?_))) (OV.sub rfl rfl (wrap_i64 (by omega) (by omega))) rfl ?_
          refine SA.takeC (i := 5) (by repeat (first | exact hPQ | refine PanicOk.then ?_ | refine PanicOk.block ?_ | exact PanicOk.body)) rfl (by kernel_rfl) (by kernel_rfl) (by kernel_rfl) rfl (by first | exact List.nil_sublist _ | exact List.Sublist.refl _ | (repeat (first | exact List.Sublist.refl _ | exact List.nil_sublist _ | refine List.Sublist.cons_cons _ ?_ | refine List.Sublist.cons _ ?_))) (OV.move rfl) rfl ?_
          refine SA.takeC (i := 6) (by repeat (first | exact hPQ | refine PanicOk.then ?_ | refine PanicOk.block ?_ | exact PanicOk.body)) rfl (by kernel_rfl) (by kernel_rfl) (by kernel_rfl) rfl (by first | exact List.nil_sublist _ | exact List.Sublist.refl _ | (repeat (first | exact List.Sublist.refl _ | exact List.nil_sublist _ | refine List.Sublist.cons_cons _ ?_ | refine List.Sublist.cons _ ?_))) (OV.move rfl) rfl ?_
          refine SA.takeC (i := 7) (by repeat (first | exact hPQ | refine PanicOk.then ?_ | refine PanicOk.block ?_ | exact PanicOk.body)) rfl (by kernel_rfl) (by kernel_rfl) (by kernel_rfl) rfl (by first | exact List.nil_sublist _ | exact List.Sublist.refl _ | (repeat (first | exact List.Sublist.refl _ | exact List.nil_sublist _ | refine List.Sublist.cons_cons _ ?_ | refine List.Sublist.cons _ ?_))) (OV.sub rfl rfl (wrap_i64 (by omega) (by omega))) rfl ?_
          refine SA.takeC (i := 8) (by repeat (first | exact hPQ | refine PanicOk.then ?_ | refine PanicOk.block ?_ | exact PanicOk.body)) rfl (by kernel_rfl) (by kernel_rfl) (by kernel_rfl) rfl (by first | exact List.nil_sublist _ | exact List.Sublist.refl _ | (repeat (first | exact List.Sublist.refl _ | exact List.nil_sublist _ | refine List.Sublist.cons_cons _ ?_ | refine List.Sublist.cons _ ?_))) (OV.idx1 (i2 - 1) u22 se22 rfl rfl (by omega) (by omega)) rfl ?_
          refine SA.takeA (i := 9) (by repeat (first | exact hPQ | refine PanicOk.then ?_ | refine PanicOk.block ?_ | exact PanicOk.body)) rfl (by kernel_rfl) (by kernel_rfl) (by kernel_rfl) rfl (by kernel_rfl) (by kernel_rfl) (by first | exact List.nil_sublist _ | exact List.Sublist.refl _ | (repeat (first | exact List.Sublist.refl _ | exact List.nil_sublist _ | refine List.Sublist.cons_cons _ ?_ | refine List.Sublist.cons _ ?_))) (OV.loadFr 0 sc23 rfl rfl (by omega)) rfl ?_
          refine SA.takeC (i := 10) (by repeat (first | exact hPQ | refine PanicOk.then ?_ | refine PanicOk.block ?_ | exact PanicOk.body)) rfl (by kernel_rfl) (by kernel_rfl) (by kernel_rfl) rfl (by first | exact List.nil_sublist _ | exact List.Sublist.refl _ | (repeat (first | exact List.Sublist.refl _ | exact List.nil_sublist _ | refine List.Sublist.cons_cons _ ?_ | refine List.Sublist.cons _ ?_))) (OV.move rfl) rfl ?_
          refine SA.takeC (i := 11) (by repeat (first | exact hPQ | refine PanicOk.then ?_ | refine PanicOk.block ?_ | exact PanicOk.body)) rfl (by kernel_rfl) (by kernel_rfl) (by kernel_rfl) rfl (by first | exact List.nil_sublist _ | exact List.Sublist.refl _ | (repeat (first | exact List.Sublist.refl _ | exact List.nil_sublist _ | refine List.Sublist.cons_cons _ ?_ | refine List.Sublist.cons _ ?_))) (OV.move rfl) rfl ?_
          refine SA.takeC (i := 12) (by repeat (first | exact hPQ | refine PanicOk.then ?_ | refine PanicOk.block ?_ | exact PanicOk.body)) rfl (by kernel_rfl) (by kernel_rfl) (by kernel_rfl) rfl (by first | exact List.nil_sublist _ | exact List.Sublist.refl _ | (repeat (first | exact List.Sublist.refl _ | exact List.nil_sublist _ | refine List.Sublist.cons_cons _ ?_ | refine List.Sublist.cons _ ?_))) (OV.idx1 (i2) u22 se22 rfl rfl (by omega) (by omega)) rfl ?_
          refine SA.takeA (i := 13) (by repeat (first | exact hPQ | refine PanicOk.then ?_ | refine PanicOk.block ?_ | exact PanicOk.body)) rfl (by kernel_rfl) (by kernel_rfl) (by kernel_rfl) rfl (by kernel_rfl) (by kernel_rfl) (by first | exact List.nil_sublist _ | exact List.Sublist.refl _ | (repeat (first | exact List.Sublist.refl _ | exact List.nil_sublist _ | refine List.Sublist.cons_cons _ ?_ | refine List.Sublist.cons _ ?_))) (OV.loadFr 0 sc23 rfl rfl (by omega)) rfl ?_
          refine SA.takeC (i := 14) (by repeat (first | exact hPQ | refine PanicOk.then ?_ | refine PanicOk.block ?_ | exact PanicOk.body)) rfl (by kernel_rfl) (by kernel_rfl) (by kernel_rfl) rfl (by first | exact List.nil_sublist _ | exact List.Sublist.refl _ | (repeat (first | exact List.Sublist.refl _ | exact List.nil_sublist _ | refine List.Sublist.cons_cons _ ?_ | refine List.Sublist.cons _ ?_))) (OV.idx1 (i2) u22 se22 rfl rfl (by omega) (by omega)) rfl ?_
          refine SA.all (rs := [15]) (by kernel_rfl) (by simp) (all_cons ?_ (all_nil))
          · skip
            refine SO.s rfl (OS.storeFr 0 sz23 rfl rfl rfl (by omega)) (by first | exact List.nil_sublist _ | exact List.Sublist.refl _ | (repeat (first | exact List.Sublist.refl _ | exact List.nil_sublist _ | refine List.Sublist.cons_cons _ ?_ | refine List.Sublist.cons _ ?_))) ?_
            refine SA.takeC (i := 16) (by repeat (first | exact hPQ | refine PanicOk.then ?_ | refine PanicOk.block ?_ | exact PanicOk.body)) rfl (by kernel_rfl) (by kernel_rfl) (by kernel_rfl) rfl (by first | exact List.nil_sublist _ | exact List.Sublist.refl _ | (repeat (first | exact List.Sublist.refl _ | exact List.nil_sublist _ | refine List.Sublist.cons_cons _ ?_ | refine List.Sublist.cons _ ?_))) (OV.idx1 (i2 - 1) u22 se22 rfl rfl (by omega) (by omega)) rfl ?_
            refine SA.all (rs := [17]) (by kernel_rfl) (by simp) (all_cons ?_ (all_nil))
            · skip
              refine SO.s rfl (OS.storeFr 0 sz23 rfl rfl rfl (by simp; omega)) (by first | exact List.nil_sublist _ | exact List.Sublist.refl _ | (repeat (first | exact List.Sublist.refl _ | exact List.nil_sublist _ | refine List.Sublist.cons_cons _ ?_ | refine List.Sublist.cons _ ?_))) ?_
              refine SA.done (by kernel_rfl) ?_
              exact SE.toSt (by repeat' (first | exact trivial | refine ⟨rfl, ?_⟩)) (List.Sublist.refl _)
        have hq1s : (swp q i2 (i2 - 1)).size = n := by rw [size_swp]; exact hqs
        generalize swp q i2 (i2 - 1) = q1 at *
        refine SC.cutG (fun q2 : Array Nat => EP blk n c a b st i2) (fun q2 => [(blk, fr q2)]) (fun q2 => q2.size = n ∧ q2 = if i2 - a ≥ 2 then shiftDown Fl.lt (i2 - 1) q1 else q1) ?_ ?_
        · skip
          refine SC.seq ?_
          refine SC.region ?_
          refine SL.y (OV.move rfl) rfl ?_
          refine SL.y (OV.move rfl) rfl ?_
          refine SL.y (OV.sub rfl rfl (wrap_i64 (by omega) (by omega))) rfl ?_
          refine SL.y (OV.geq rfl rfl) rfl ?_
          refine SL.nil ?_
          refine SC.then ?_
          refine SC.condP rfl (fun hg => ?_) (fun hg => ?_)
          · rw [if_pos (show i2 - a ≥ 2 by omega)]
            refine SC.seq ?_
            refine SC.region ?_
            refine SL.y (OV.move rfl) rfl ?_
            refine SL.y (OV.sub (r := ((i2 - 1 : Nat) : Int)) rfl rfl (by rw [wrap_i64 (by omega) (by omega)]; omega)) rfl ?_
            refine SL.y (OV.assign rfl) rfl ?_
            refine SL.nil ?_
            refine SC.then ?_
            refine SC.weaken ?_ (List.Sublist.refl _) (pdown (blk := blk) (n := n) (c := c) (a := a) (b := b) (st := st) (i := i2) (q := q1) (j := i2 - 1) (by repeat (first | exact hPQ | refine PanicOk.then ?_ | refine PanicOk.block ?_)) hn hq1s (by omega) ?_)
            · exact (by repeat' (first | exact trivial | refine ⟨rfl, ?_⟩))
            intro q2 h1 h2
            exact SE.toG q2 ⟨h1, h2⟩ (by repeat' (first | exact trivial | refine ⟨rfl, ?_⟩)) (List.Sublist.refl _)
          · rw [if_neg (show ¬ i2 - a ≥ 2 by omega)]
            refine SC.skip ?_
            exact SE.toG q1 ⟨hq1s, rfl⟩ (by repeat' (first | exact trivial | refine ⟨rfl, ?_⟩)) (List.Sublist.refl _)
        rintro q2 ⟨hq2s, hq2⟩
        rw [← hq2] at hq
        refine SC.seq ?_
        refine SC.region ?_
        refine SL.y (OV.move rfl) rfl ?_
        refine SL.y (OV.move rfl) rfl ?_
        refine SL.y (OV.sub rfl rfl (wrap_i64 (by omega) (by omega))) rfl ?_
        refine SL.y (OV.geq rfl rfl) rfl ?_
        refine SL.nil ?_
        refine SC.then ?_
        refine SC.condP rfl (fun hg => ?_) (fun hg => ?_)
        · rw [if_pos (show b - i2 ≥ 2 by omega)] at hq
          refine SC.seq ?_
          refine SC.region ?_
          refine SL.y (OV.move rfl) rfl ?_
          refine SL.y (OV.add (r := ((i2 + 1 : Nat) : Int)) rfl rfl (by rw [wrap_i64 (by omega) (by omega)]; omega)) rfl ?_
          refine SL.y (OV.assign rfl) rfl ?_
          refine SL.nil ?_
          refine SC.then ?_
          refine SC.weaken ?_ (List.Sublist.refl _) (pup (blk := blk) (n := n) (c := c) (a := a) (b := b) (st := st) (i := i2) (q := q2) (j := i2 + 1) (by repeat (first | exact hPQ | refine PanicOk.then ?_ | refine PanicOk.block ?_)) hn hq2s hb (by omega) ?_)
          · exact (by repeat' (first | exact trivial | refine ⟨rfl, ?_⟩))
          intro q3 h1 h2
          refine SE.nb ?_
          refine SC.then ?_
          refine SC.region ?_
          refine SL.y (OV.move rfl) rfl ?_
          refine SL.y (OV.add rfl rfl (wrap_i64 (by omega) (by omega))) rfl ?_
          refine SL.y (OV.assign rfl) rfl ?_
          refine SL.nil ?_
          exact SE.roundAB (st + 1, i2) q3 ⟨by show st + 1 ≤ 5; omega, by show 1 ≤ i2; omega, by show a < i2; omega, hle, h1, by show partialIns Fl.lt a b (5 - (st + 1)) i2 q3 = _; rw [hs', h2]; exact hq⟩ (by show 5 - (st + 1) < 5 - st; omega) (by repeat' (first | exact trivial | refine ⟨rfl, ?_⟩)) (List.Sublist.refl _)
        · rw [if_neg (show ¬ b - i2 ≥ 2 by omega)] at hq
          refine SC.skip ?_
          refine SE.nb ?_
          refine SC.then ?_
          refine SC.region ?_
          refine SL.y (OV.move rfl) rfl ?_
          refine SL.y (OV.add rfl rfl (wrap_i64 (by omega) (by omega))) rfl ?_
          refine SL.y (OV.assign rfl) rfl ?_
          refine SL.nil ?_
          exact SE.roundAB (st + 1, i2) q2 ⟨by show st + 1 ≤ 5; omega, by show 1 ≤ i2; omega, by show a < i2; omega, hle, hq2s, by show partialIns Fl.lt a b (5 - (st + 1)) i2 q2 = _; rw [hs']; exact hq⟩ (by show 5 - (st + 1) < 5 - st; omega) (by repeat' (first | exact trivial | refine ⟨rfl, ?_⟩)) (List.Sublist.refl _)
  · have h5 : st = 5 := by omega
    subst h5
    have hq' : (q, false) = partialInsertionSort Fl.lt d a b := hq
    refine SC.exit ?_
    refine SE.thenE (SE.thenE (SE.inBlock ?_))
    refine SC.then ?_
    refine SC.seq ?_
    refine SC.region ?_
    refine SL.y (OV.assign rfl) rfl ?_
    refine SL.nil ?_
    refine SC.then ?_
    refine SC.ret ?_
    rw [← hq']
    exact SE.ret1 Yba.results15 rfl (fun w' hM => ⟨rfl, hM⟩)
end Go.Proofs.Ybulkdrfa
