import Derived.Test.YbulkdrfaPartEq
namespace Go.Proofs.Ybulkdrfa
open Go Go.RowKit Go.Proofs.Ybulkdrfa.Sym Go.Sort
set_option linter.unusedVariables false
set_option linter.unusedSimpArgs false
set_option maxRecDepth 100000

/-- The ways through x meet at its end. -/
theorem Sym.SC.endSt {P : Program} {Q : Exit → Act → World → Prop} {N : Nat} {w0 : World} {F : List Nat} {env : Env} {m : List Blk} {x : Code} (E : Env) (M : List Blk) (h : SC P x (Exit.then (St N w0 F E M) Q) N env w0 F m) (h2 : SE (Q .normal) N E w0 F M) : SC P x Q N env w0 F m :=
  ⟨fun a w hF hM => wp_mono (h.out a w hF hM) fun e a w hq => by cases e <;> first | exact h2.out _ _ hq.1 hq.2 | exact hq⟩
theorem ss_step {d : Array Nat} {b i : Nat} (h : i < b) (hl : (!Fl.lt d[i]! d[i - 1]!) = true) : scanSorted Fl.lt d b i = scanSorted Fl.lt d b (i + 1) := by
  rw [scanSorted, if_pos (by simp only [Bool.and_eq_true, decide_eq_true_eq]; exact ⟨h, hl⟩)]
theorem ss_stop {d : Array Nat} {b i : Nat} (h : ¬ (i < b ∧ (!Fl.lt d[i]! d[i - 1]!) = true)) : scanSorted Fl.lt d b i = i := by
  rw [scanSorted, if_neg (by simp only [Bool.and_eq_true, decide_eq_true_eq]; exact h)]
theorem sd_stop {d : Array Nat} {j : Nat} (h : j = 0 ∨ (!Fl.lt d[j]! d[j - 1]!) = true) : shiftDown Fl.lt j d = d := by
  cases j with
  | zero => rfl
  | succ k =>
    rcases h with h | h
    · omega
    · rw [Nat.add_sub_cancel] at h
      show (if _ then _ else _) = _
      rw [if_pos h]
theorem sd_step {d : Array Nat} {j : Nat} (h : 1 ≤ j) (hl : (!Fl.lt d[j]! d[j - 1]!) = false) : shiftDown Fl.lt j d = shiftDown Fl.lt (j - 1) (swp d j (j - 1)) := by
  obtain ⟨k, rfl⟩ : ∃ k, j = k + 1 := ⟨j - 1, by omega⟩
  show (if _ then _ else _) = _
  rw [if_neg (by have e : k + 1 - 1 = k := by omega
                 rw [e] at hl; rw [hl]; simp)]
  rfl
theorem su_end {d : Array Nat} {b j : Nat} (h : ¬ j < b) : shiftUp Fl.lt b j d = d := by rw [shiftUp, if_neg h]
theorem su_stop {d : Array Nat} {b j : Nat} (h : j < b) (hl : (!Fl.lt d[j]! d[j - 1]!) = true) : shiftUp Fl.lt b j d = d := by rw [shiftUp, if_pos h, if_pos hl]
theorem su_step {d : Array Nat} {b j : Nat} (h : j < b) (hl : (!Fl.lt d[j]! d[j - 1]!) = false) : shiftUp Fl.lt b j d = shiftUp Fl.lt b (j + 1) (swp d j (j - 1)) := by rw [shiftUp, if_pos h, if_neg (by rw [hl]; simp)]

section
variable {w0 : World} {Q : Exit → Act → World → Prop} {blk n c a b st i : Nat} {q : Array Nat}
abbrev EP (blk n c a b st i : Nat) : Env := [(0, sl blk n c), (1, .int .i64 a), (2, .int .i64 b), (7, .int .i64 i), (8, .int .i64 st)]
/-- i goes up while it is sorted -/
theorem pscan (hn : n ≤ 1000000) (hqs : q.size = n) (hb : b ≤ n) (hi1 : 1 ≤ i) (hib : i ≤ b)
    (h : scanSorted Fl.lt q b i ≤ b → SE (Q .normal) Yba.f15.ntmps (EP blk n c a b st (scanSorted Fl.lt q b i)) w0 [blk] [(blk, fr q)]) :
    SC Yba.prog (sub [1, 1, 0, 1, 2, 2, 1, 0, 2, 0] (Yba.f15.body.getD .skip)) Q Yba.f15.ntmps (EP blk n c a b st i) w0 [blk] [(blk, fr q)] := by
  refine SC.block ?_
  refine SC.loop (fun i' : Nat => EP blk n c a b st i') (fun _ => [(blk, fr q)]) (fun i' => 1 ≤ i' ∧ i' ≤ b ∧ scanSorted Fl.lt q b i' = scanSorted Fl.lt q b i) (fun i' => b - i') i ⟨hi1, hib, rfl⟩ (by repeat' (first | exact trivial | refine ⟨rfl, ?_⟩)) (List.Sublist.refl _) ?_
  rintro i' ⟨hi', hib', he⟩
  refine SC.seq ?_
  refine SC.cutG (fun t : Bool => (32, .bool t) :: EP blk n c a b st i') (fun _ => [(blk, fr q)]) (fun t => t = true ↔ i' < b ∧ (!Fl.lt q[i']! q[i' - 1]!) = true) ?_ ?_
  · by_cases hij : i' < b
    · skip
      refine SC.quiet mixed (by kernel_rfl) ?_
      refine SQ.y (OV.move rfl) rfl ?_
      refine SQ.y (OV.move rfl) rfl ?_
      refine SQ.y ((OV.lss rfl rfl).yes (by omega)) rfl ?_
      refine SQ.y (OV.move rfl) rfl ?_
      refine SQ.yg rfl rfl (OV.move rfl) rfl ?_
      refine SQ.yg rfl rfl (OV.move rfl) rfl ?_
      refine SQ.yg rfl rfl (OV.idx1 i' u22 se22 rfl rfl rfl (by omega)) rfl ?_
      refine SQ.yg rfl rfl (OV.loadFr 0 sc23 rfl rfl (by omega)) rfl ?_
      refine SQ.yg rfl rfl (OV.move rfl) rfl ?_
      refine SQ.yg rfl rfl (OV.move rfl) rfl ?_
      refine SQ.yg rfl rfl (OV.sub rfl rfl (wrap_i64 (by omega) (by omega))) rfl ?_
      refine SQ.yg rfl rfl (OV.idx1 (i' - 1) u22 se22 rfl rfl (by omega) (by omega)) rfl ?_
      refine SQ.yg rfl rfl (OV.loadFr 0 sc23 rfl rfl (by omega)) rfl ?_
      refine SQ.callQg rfl rfl pf16 (args2 rfl rfl) (fun w hM => call16 _ _ w) rfl ?_
      refine SQ.yg rfl rfl (OV.not rfl) rfl ?_
      refine SQ.y (OV.pickT rfl rfl) rfl ?_
      refine SQ.nil ?_
      exact SE.toG _ ⟨fun h => ⟨hij, h⟩, fun h => h.2⟩ (by repeat' (first | exact trivial | refine ⟨rfl, ?_⟩)) (List.Sublist.refl _)
    · skip
      refine SC.quiet mixed (by kernel_rfl) ?_
      refine SQ.y (OV.move rfl) rfl ?_
      refine SQ.y (OV.move rfl) rfl ?_
      refine SQ.y ((OV.lss rfl rfl).no (by omega)) rfl ?_
      refine SQ.y (OV.move rfl) rfl ?_
      refine SQ.skip rfl rfl rfl ?_
      refine SQ.skip rfl rfl rfl ?_
      refine SQ.skip rfl rfl rfl ?_
      refine SQ.skip rfl rfl rfl ?_
      refine SQ.skip rfl rfl rfl ?_
      refine SQ.skip rfl rfl rfl ?_
      refine SQ.skip rfl rfl rfl ?_
      refine SQ.skip rfl rfl rfl ?_
      refine SQ.skip rfl rfl rfl ?_
      refine SQ.skip rfl rfl rfl ?_
      refine SQ.skip rfl rfl rfl ?_
      refine SQ.y (OV.pickF rfl rfl) rfl ?_
      refine SQ.nil ?_
      exact SE.toG false ⟨fun h => (by cases h), fun h => absurd h.1 hij⟩ (by repeat' (first | exact trivial | refine ⟨rfl, ?_⟩)) (List.Sublist.refl _)
  intro t ht
  refine SC.cond rfl (fun e => ?_) (fun e => ?_)
  · obtain ⟨hij, hl⟩ := ht.1 e
    refine SC.skip ?_
    refine SC.then ?_
    refine SC.block ?_
    refine SC.region ?_
    refine SL.y (OV.move rfl) rfl ?_
    refine SL.y (OV.add rfl rfl (wrap_i64 (by omega) (by omega))) rfl ?_
    refine SL.y (OV.assign rfl) rfl ?_
    refine SL.nil ?_
    refine SE.nb ?_
    exact SE.round (i' + 1) ⟨by omega, by omega, by rw [← he]; exact (ss_step hij hl).symm⟩ (by omega) (by repeat' (first | exact trivial | refine ⟨rfl, ?_⟩)) (List.Sublist.refl _)
  · have hst := ss_stop (d := q) (b := b) (i := i') (fun h => by rw [ht.2 h] at e; cases e)
    rw [hst] at he
    refine SC.exit ?_
    refine SE.thenE (SE.thenE (SE.inBlock ?_))
    have h' := h (by rw [← he]; exact hib')
    rw [← he] at h'
    exact SE.weaken (by repeat' (first | exact trivial | refine ⟨rfl, ?_⟩)) (List.Sublist.refl _) h'
/-- the smaller one is shifted down -/
theorem pdown {j : Nat} (hPQ : PanicOk Q) (hn : n ≤ 1000000) (hqs : q.size = n) (hj : j < n)
    (h : ∀ q', q'.size = n → q' = shiftDown Fl.lt j q → SE (Q .normal) Yba.f15.ntmps (EP blk n c a b st i) w0 [blk] [(blk, fr q')]) :
    SC Yba.prog (sub [1, 1, 0, 1, 2, 2, 1, 0, 2, 1, 1, 1, 1, 0, 1, 3, 1] (Yba.f15.body.getD .skip)) Q Yba.f15.ntmps ((9, .int .i64 j) :: EP blk n c a b st i) w0 [blk] [(blk, fr q)] := by
  refine SC.block ?_
  refine SC.loopAB (fun (j' : Nat) (q' : Array Nat) => (9, .int .i64 j') :: EP blk n c a b st i) (fun j' q' => [(blk, fr q')]) (fun j' q' => j' < n ∧ q'.size = n ∧ shiftDown Fl.lt j' q' = shiftDown Fl.lt j q) (fun j' q' => j') j q ⟨hj, hqs, rfl⟩ (by repeat' (first | exact trivial | refine ⟨rfl, ?_⟩)) (List.Sublist.refl _) ?_
  rintro j' q' ⟨hj', hqs', he⟩
  refine SC.seq ?_
  refine SC.seq ?_
  refine SC.region ?_
  refine SL.y (OV.move rfl) rfl ?_
  refine SL.y (OV.geq rfl rfl) rfl ?_
  refine SL.nil ?_
  refine SC.then ?_
  refine SC.condP rfl (fun hge => ?_) (fun hlt => ?_)
  · have hj1 : 1 ≤ j' := by omega
    refine SC.skip ?_
    refine SC.then ?_
    refine SC.seq ?_
    refine SC.block ?_
    refine SC.seq ?_
    refine SC.seq ?_
    refine SC.quiet mixed (by kernel_rfl) ?_
    refine SQ.y (OV.move rfl) rfl ?_
    refine SQ.y (OV.move rfl) rfl ?_
    refine SQ.y (OV.idx1 j' u22 se22 rfl rfl rfl (by omega)) rfl ?_
    refine SQ.y (OV.loadFr 0 sc23 rfl rfl (by omega)) rfl ?_
    refine SQ.y (OV.move rfl) rfl ?_
    refine SQ.y (OV.move rfl) rfl ?_
    refine SQ.y (OV.sub rfl rfl (wrap_i64 (by omega) (by omega))) rfl ?_
    refine SQ.y (OV.idx1 (j' - 1) u22 se22 rfl rfl (by omega) (by omega)) rfl ?_
    refine SQ.y (OV.loadFr 0 sc23 rfl rfl (by omega)) rfl ?_
    refine SQ.callQ pf16 (args2 rfl rfl) (fun w hM => call16 _ _ w) rfl ?_
    refine SQ.y (OV.not rfl) rfl ?_
    refine SQ.nil ?_
    refine SC.then ?_
    refine SC.cond rfl (fun e => ?_) (fun e => ?_)
    · rw [sd_stop (.inr e)] at he
      refine SC.exit ?_
      refine SE.thenE (SE.inBlock_ne rfl (SE.thenE (SE.thenE (SE.inBlock ?_))))
      exact SE.weaken (by repeat' (first | exact trivial | refine ⟨rfl, ?_⟩)) (List.Sublist.refl _) (h q' hqs' he)
    · refine SC.skip ?_
      refine SC.then ?_
      refine SC.weaken (env' := (9, .int .i64 j') :: EP blk n c a b st i) (by repeat' (first | exact trivial | refine ⟨rfl, ?_⟩)) (List.Sublist.refl _) ?_
      refine SC.endSt ((9, .int .i64 j') :: EP blk n c a b st i) [(blk, fr (swp q' j' (j' - 1)))] ?_ ?_
      · skip
        refine SC.held 15 [(blk, fr q')] [] mixed ?_
        refine SA.takeC (i := 0) (by repeat (first | exact hPQ | refine PanicOk.then ?_ | refine PanicOk.block ?_ | exact PanicOk.body)) rfl (by kernel_rfl) (by kernel_rfl) (by kernel_rfl) rfl (by first | exact List.nil_sublist _ | exact List.Sublist.refl _ | (repeat (first | exact List.Sublist.refl _ | exact List.nil_sublist _ | refine List.Sublist.cons_cons _ ?_ | refine List.Sublist.cons _ ?_))) (OV.move rfl) rfl ?_
        refine SA.takeC (i := 1) (by repeat (first | exact hPQ | refine PanicOk.then ?_ | refine PanicOk.block ?_ | exact PanicOk.body)) rfl (by kernel_rfl) (by kernel_rfl) (by kernel_rfl) rfl (by first | exact List.nil_sublist _ | exact List.Sublist.refl _ | (repeat (first | exact List.Sublist.refl _ | exact List.nil_sublist _ | refine List.Sublist.cons_cons _ ?_ | refine List.Sublist.cons _ ?_))) (OV.move rfl) rfl ?_
        refine SA.takeC (i := 2) (by repeat (first | exact hPQ | refine PanicOk.then ?_ | refine PanicOk.block ?_ | exact PanicOk.body)) rfl (by kernel_rfl) (by kernel_rfl) (by kernel_rfl) rfl (by first | exact List.nil_sublist _ | exact List.Sublist.refl _ | (repeat (first | exact List.Sublist.refl _ | exact List.nil_sublist _ | refine List.Sublist.cons_cons _ ?_ | refine List.Sublist.cons _ ?_))) (OV.move rfl) rfl ?_
        refine SA.takeC (i := 3) (by repeat (first | exact hPQ | refine PanicOk.then ?_ | refine PanicOk.block ?_ | exact PanicOk.body)) rfl (by kernel_rfl) (by kernel_rfl) (by kernel_rfl) rfl (by first | exact List.nil_sublist _ | exact List.Sublist.refl _ | (repeat (first | exact List.Sublist.refl _ | exact List.nil_sublist _ | refine List.Sublist.cons_cons _ ?_ | refine List.Sublist.cons _ ?_))) (OV.move rfl) rfl ?_
        refine SA.takeC (i := 4) (by repeat (first | exact hPQ | refine PanicOk.then ?_ | refine PanicOk.block ?_ | exact PanicOk.body)) rfl (by kernel_rfl) (by kernel_rfl) (by kernel_rfl) rfl (by first | exact List.nil_sublist _ | exact List.Sublist.refl _ | (repeat (first | exact List.Sublist.refl _ | exact List.nil_sublist _ | refine List.Sublist.cons_cons _ ?_ | refine List.Sublist.cons _ ?_))) (OV.sub rfl rfl (wrap_i64 (by omega) (by omega))) rfl ?_
        refine SA.takeC (i := 5) (by repeat (first | exact hPQ | refine PanicOk.then ?_ | refine PanicOk.block ?_ | exact PanicOk.body)) rfl (by kernel_rfl) (by kernel_rfl) (by kernel_rfl) rfl (by first | exact List.nil_sublist _ | exact List.Sublist.refl _ | (repeat (first | exact List.Sublist.refl _ | exact List.nil_sublist _ | refine List.Sublist.cons_cons _ ?_ | refine List.Sublist.cons _ ?_))) (OV.move rfl) rfl ?_
        refine SA.takeC (i := 6) (by repeat (first | exact hPQ | refine PanicOk.then ?_ | refine PanicOk.block ?_ | exact PanicOk.body)) rfl (by kernel_rfl) (by kernel_rfl) (by kernel_rfl) rfl (by first | exact List.nil_sublist _ | exact List.Sublist.refl _ | (repeat (first | exact List.Sublist.refl _ | exact List.nil_sublist _ | refine List.Sublist.cons_cons _ ?_ | refine List.Sublist.cons _ ?_))) (OV.move rfl) rfl ?_
        refine SA.takeC (i := 7) (by repeat (first | exact hPQ | refine PanicOk.then ?_ | refine PanicOk.block ?_ | exact PanicOk.body)) rfl (by kernel_rfl) (by kernel_rfl) (by kernel_rfl) rfl (by first | exact List.nil_sublist _ | exact List.Sublist.refl _ | (repeat (first | exact List.Sublist.refl _ | exact List.nil_sublist _ | refine List.Sublist.cons_cons _ ?_ | refine List.Sublist.cons _ ?_))) (OV.sub rfl rfl (wrap_i64 (by omega) (by omega))) rfl ?_
        refine SA.takeC (i := 8) (by repeat (first | exact hPQ | refine PanicOk.then ?_ | refine PanicOk.block ?_ | exact PanicOk.body)) rfl (by kernel_rfl) (by kernel_rfl) (by kernel_rfl) rfl (by first | exact List.nil_sublist _ | exact List.Sublist.refl _ | (repeat (first | exact List.Sublist.refl _ | exact List.nil_sublist _ | refine List.Sublist.cons_cons _ ?_ | refine List.Sublist.cons _ ?_))) (OV.idx1 (j' - 1) u22 se22 rfl rfl (by omega) (by omega)) rfl ?_
        refine SA.takeA (i := 9) (by repeat (first | exact hPQ | refine PanicOk.then ?_ | refine PanicOk.block ?_ | exact PanicOk.body)) rfl (by kernel_rfl) (by kernel_rfl) (by kernel_rfl) rfl (by kernel_rfl) (by kernel_rfl) (by first | exact List.nil_sublist _ | exact List.Sublist.refl _ | (repeat (first | exact List.Sublist.refl _ | exact List.nil_sublist _ | refine List.Sublist.cons_cons _ ?_ | refine List.Sublist.cons _ ?_))) (OV.loadFr 0 sc23 rfl rfl (by omega)) rfl ?_
        refine SA.takeC (i := 10) (by repeat (first | exact hPQ | refine PanicOk.then ?_ | refine PanicOk.block ?_ | exact PanicOk.body)) rfl (by kernel_rfl) (by kernel_rfl) (by kernel_rfl) rfl (by first | exact List.nil_sublist _ | exact List.Sublist.refl _ | (repeat (first | exact List.Sublist.refl _ | exact List.nil_sublist _ | refine List.Sublist.cons_cons _ ?_ | refine List.Sublist.cons _ ?_))) (OV.move rfl) rfl ?_
        refine SA.takeC (i := 11) (by repeat (first | exact hPQ | refine PanicOk.then ?_ | refine PanicOk.block ?_ | exact PanicOk.body)) rfl (by kernel_rfl) (by kernel_rfl) (by kernel_rfl) rfl (by first | exact List.nil_sublist _ | exact List.Sublist.refl _ | (repeat (first | exact List.Sublist.refl _ | exact List.nil_sublist _ | refine List.Sublist.cons_cons _ ?_ | refine List.Sublist.cons _ ?_))) (OV.move rfl) rfl ?_
        refine SA.takeC (i := 12) (by repeat (first | exact hPQ | refine PanicOk.then ?_ | refine PanicOk.block ?_ | exact PanicOk.body)) rfl (by kernel_rfl) (by kernel_rfl) (by kernel_rfl) rfl (by first | exact List.nil_sublist _ | exact List.Sublist.refl _ | (repeat (first | exact List.Sublist.refl _ | exact List.nil_sublist _ | refine List.Sublist.cons_cons _ ?_ | refine List.Sublist.cons _ ?_))) (OV.idx1 (j') u22 se22 rfl rfl (by omega) (by omega)) rfl ?_
        refine SA.takeA (i := 13) (by repeat (first | exact hPQ | refine PanicOk.then ?_ | refine PanicOk.block ?_ | exact PanicOk.body)) rfl (by kernel_rfl) (by kernel_rfl) (by kernel_rfl) rfl (by kernel_rfl) (by kernel_rfl) (by first | exact List.nil_sublist _ | exact List.Sublist.refl _ | (repeat (first | exact List.Sublist.refl _ | exact List.nil_sublist _ | refine List.Sublist.cons_cons _ ?_ | refine List.Sublist.cons _ ?_))) (OV.loadFr 0 sc23 rfl rfl (by omega)) rfl ?_
        refine SA.takeC (i := 14) (by repeat (first | exact hPQ | refine PanicOk.then ?_ | refine PanicOk.block ?_ | exact PanicOk.body)) rfl (by kernel_rfl) (by kernel_rfl) (by kernel_rfl) rfl (by first | exact List.nil_sublist _ | exact List.Sublist.refl _ | (repeat (first | exact List.Sublist.refl _ | exact List.nil_sublist _ | refine List.Sublist.cons_cons _ ?_ | refine List.Sublist.cons _ ?_))) (OV.idx1 (j') u22 se22 rfl rfl (by omega) (by omega)) rfl ?_
        refine SA.all (rs := [15]) (by kernel_rfl) (by simp) (all_cons ?_ (all_nil))
        · skip
          refine SO.s rfl (OS.storeFr 0 sz23 rfl rfl rfl (by omega)) (by first | exact List.nil_sublist _ | exact List.Sublist.refl _ | (repeat (first | exact List.Sublist.refl _ | exact List.nil_sublist _ | refine List.Sublist.cons_cons _ ?_ | refine List.Sublist.cons _ ?_))) ?_
          refine SA.takeC (i := 16) (by repeat (first | exact hPQ | refine PanicOk.then ?_ | refine PanicOk.block ?_ | exact PanicOk.body)) rfl (by kernel_rfl) (by kernel_rfl) (by kernel_rfl) rfl (by first | exact List.nil_sublist _ | exact List.Sublist.refl _ | (repeat (first | exact List.Sublist.refl _ | exact List.nil_sublist _ | refine List.Sublist.cons_cons _ ?_ | refine List.Sublist.cons _ ?_))) (OV.idx1 (j' - 1) u22 se22 rfl rfl (by omega) (by omega)) rfl ?_
          refine SA.all (rs := [17]) (by kernel_rfl) (by simp) (all_cons ?_ (all_nil))
          · skip
            refine SO.s rfl (OS.storeFr 0 sz23 rfl rfl rfl (by simp; omega)) (by first | exact List.nil_sublist _ | exact List.Sublist.refl _ | (repeat (first | exact List.Sublist.refl _ | exact List.nil_sublist _ | refine List.Sublist.cons_cons _ ?_ | refine List.Sublist.cons _ ?_))) ?_
            refine SA.done (by kernel_rfl) ?_
            exact SE.toSt (by repeat' (first | exact trivial | refine ⟨rfl, ?_⟩)) (List.Sublist.refl _)
      refine SE.nb ?_
      refine SC.then ?_
      refine SC.region ?_
      refine SL.y (OV.move rfl) rfl ?_
      refine SL.y (OV.sub (r := ((j' - 1 : Nat) : Int)) rfl rfl (by rw [wrap_i64 (by omega) (by omega)]; omega)) rfl ?_
      refine SL.y (OV.assign rfl) rfl ?_
      refine SL.nil ?_
      exact SE.roundAB (j' - 1) (swp q' j' (j' - 1)) ⟨by omega, by rw [size_swp]; exact hqs', by rw [← he]; exact (sd_step hj1 e).symm⟩ (by omega) (by repeat' (first | exact trivial | refine ⟨rfl, ?_⟩)) (List.Sublist.refl _)
  · have hj0 : j' = 0 := by omega
    rw [sd_stop (.inl hj0)] at he
    refine SC.exit ?_
    refine SE.thenE (SE.thenE (SE.inBlock ?_))
    exact SE.weaken (by repeat' (first | exact trivial | refine ⟨rfl, ?_⟩)) (List.Sublist.refl _) (h q' hqs' he)
end
end Go.Proofs.Ybulkdrfa
