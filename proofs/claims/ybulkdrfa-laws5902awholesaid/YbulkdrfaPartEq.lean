import Derived.Test.YbulkdrfaPart
namespace Go.Proofs.Ybulkdrfa
open Go Go.RowKit Go.Proofs.Ybulkdrfa.Sym Go.Sort
set_option linter.unusedVariables false
set_option linter.unusedSimpArgs false
set_option maxRecDepth 100000

abbrev EQ (blk n c a i j : Nat) : Env := [(0, sl blk n c), (1, .int .i64 a), (9, .int .i64 i), (10, .int .i64 j)]
/-- partitionEqualOrdered -/
theorem call17 {w : World} {blk n c a b p : Nat} {d : Array Nat} (hn : n ≤ 1000000) (hds : d.size = n) (hb : b ≤ n) (hab : a + 1 < b) (hp : p < n) (hw : w.heap[blk]? = some (fr d)) :
    Calls Yba.prog 17 #[sl blk n c, .int .i64 a, .int .i64 b, .int .i64 p] w fun e w' => e = .returned (.int .i64 (partitionEqual Fl.lt d a b p).1) ∧ Mm w [blk] [(blk, fr (partitionEqual Fl.lt d a b p).2)] w' := by
  have hpart : partitionEqual Fl.lt d a b p = partEqLoop Fl.lt a (a + 1) (b - 1) (swp d a p) := rfl
  rw [hpart]
  have hd1s : (swp d a p).size = n := by rw [size_swp]; exact hds
  refine Calls.of_SC (args := [sl blk n c, .int .i64 a, .int .i64 b, .int .i64 p]) Yba.func17 rfl (by simp [Yba.f17]) (Mm.ofRow hw) ?_
  refine SC.seq ?_
  refine SC.region ?_
  refine SL.y (OV.assign rfl) rfl ?_
  refine SL.nil ?_
  refine SC.then ?_
  refine SC.cutSt [(0, sl blk n c), (1, .int .i64 a), (2, .int .i64 b)] [(blk, fr (swp d a p))] ?_ ?_
  · skip
    refine SC.held 13 [(blk, fr d)] [] mixed ?_
    refine SA.takeC (i := 0) (by repeat (first | exact hPQ | refine PanicOk.then ?_ | refine PanicOk.block ?_ | exact PanicOk.body)) rfl (by kernel_rfl) (by kernel_rfl) (by kernel_rfl) rfl (by first | exact List.nil_sublist _ | exact List.Sublist.refl _ | (repeat (first | exact List.Sublist.refl _ | exact List.nil_sublist _ | refine List.Sublist.cons_cons _ ?_ | refine List.Sublist.cons _ ?_))) (OV.move rfl) rfl ?_
    refine SA.takeC (i := 1) (by repeat (first | exact hPQ | refine PanicOk.then ?_ | refine PanicOk.block ?_ | exact PanicOk.body)) rfl (by kernel_rfl) (by kernel_rfl) (by kernel_rfl) rfl (by first | exact List.nil_sublist _ | exact List.Sublist.refl _ | (repeat (first | exact List.Sublist.refl _ | exact List.nil_sublist _ | refine List.Sublist.cons_cons _ ?_ | refine List.Sublist.cons _ ?_))) (OV.move rfl) rfl ?_
    refine SA.takeC (i := 2) (by repeat (first | exact hPQ | refine PanicOk.then ?_ | refine PanicOk.block ?_ | exact PanicOk.body)) rfl (by kernel_rfl) (by kernel_rfl) (by kernel_rfl) rfl (by first | exact List.nil_sublist _ | exact List.Sublist.refl _ | (repeat (first | exact List.Sublist.refl _ | exact List.nil_sublist _ | refine List.Sublist.cons_cons _ ?_ | refine List.Sublist.cons _ ?_))) (OV.move rfl) rfl ?_
    refine SA.takeC (i := 3) (by repeat (first | exact hPQ | refine PanicOk.then ?_ | refine PanicOk.block ?_ | exact PanicOk.body)) rfl (by kernel_rfl) (by kernel_rfl) (by kernel_rfl) rfl (by first | exact List.nil_sublist _ | exact List.Sublist.refl _ | (repeat (first | exact List.Sublist.refl _ | exact List.nil_sublist _ | refine List.Sublist.cons_cons _ ?_ | refine List.Sublist.cons _ ?_))) (OV.move rfl) rfl ?_
    refine SA.takeC (i := 4) (by repeat (first | exact hPQ | refine PanicOk.then ?_ | refine PanicOk.block ?_ | exact PanicOk.body)) rfl (by kernel_rfl) (by kernel_rfl) (by kernel_rfl) rfl (by first | exact List.nil_sublist _ | exact List.Sublist.refl _ | (repeat (first | exact List.Sublist.refl _ | exact List.nil_sublist _ | refine List.Sublist.cons_cons _ ?_ | refine List.Sublist.cons _ ?_))) (OV.move rfl) rfl ?_
    refine SA.takeC (i := 5) (by repeat (first | exact hPQ | refine PanicOk.then ?_ | refine PanicOk.block ?_ | exact PanicOk.body)) rfl (by kernel_rfl) (by kernel_rfl) (by kernel_rfl) rfl (by first | exact List.nil_sublist _ | exact List.Sublist.refl _ | (repeat (first | exact List.Sublist.refl _ | exact List.nil_sublist _ | refine List.Sublist.cons_cons _ ?_ | refine List.Sublist.cons _ ?_))) (OV.move rfl) rfl ?_
    refine SA.takeC (i := 6) (by repeat (first | exact hPQ | refine PanicOk.then ?_ | refine PanicOk.block ?_ | exact PanicOk.body)) rfl (by kernel_rfl) (by kernel_rfl) (by kernel_rfl) rfl (by first | exact List.nil_sublist _ | exact List.Sublist.refl _ | (repeat (first | exact List.Sublist.refl _ | exact List.nil_sublist _ | refine List.Sublist.cons_cons _ ?_ | refine List.Sublist.cons _ ?_))) (OV.idx1 (p) u22 se22 rfl rfl (by omega) (by omega)) rfl ?_
    refine SA.takeA (i := 7) (by repeat (first | exact hPQ | refine PanicOk.then ?_ | refine PanicOk.block ?_ | exact PanicOk.body)) rfl (by kernel_rfl) (by kernel_rfl) (by kernel_rfl) rfl (by kernel_rfl) (by kernel_rfl) (by first | exact List.nil_sublist _ | exact List.Sublist.refl _ | (repeat (first | exact List.Sublist.refl _ | exact List.nil_sublist _ | refine List.Sublist.cons_cons _ ?_ | refine List.Sublist.cons _ ?_))) (OV.loadFr 0 sc23 rfl rfl (by omega)) rfl ?_
    refine SA.takeC (i := 8) (by repeat (first | exact hPQ | refine PanicOk.then ?_ | refine PanicOk.block ?_ | exact PanicOk.body)) rfl (by kernel_rfl) (by kernel_rfl) (by kernel_rfl) rfl (by first | exact List.nil_sublist _ | exact List.Sublist.refl _ | (repeat (first | exact List.Sublist.refl _ | exact List.nil_sublist _ | refine List.Sublist.cons_cons _ ?_ | refine List.Sublist.cons _ ?_))) (OV.move rfl) rfl ?_
    refine SA.takeC (i := 9) (by repeat (first | exact hPQ | refine PanicOk.then ?_ | refine PanicOk.block ?_ | exact PanicOk.body)) rfl (by kernel_rfl) (by kernel_rfl) (by kernel_rfl) rfl (by first | exact List.nil_sublist _ | exact List.Sublist.refl _ | (repeat (first | exact List.Sublist.refl _ | exact List.nil_sublist _ | refine List.Sublist.cons_cons _ ?_ | refine List.Sublist.cons _ ?_))) (OV.move rfl) rfl ?_
    refine SA.takeC (i := 10) (by repeat (first | exact hPQ | refine PanicOk.then ?_ | refine PanicOk.block ?_ | exact PanicOk.body)) rfl (by kernel_rfl) (by kernel_rfl) (by kernel_rfl) rfl (by first | exact List.nil_sublist _ | exact List.Sublist.refl _ | (repeat (first | exact List.Sublist.refl _ | exact List.nil_sublist _ | refine List.Sublist.cons_cons _ ?_ | refine List.Sublist.cons _ ?_))) (OV.idx1 (a) u22 se22 rfl rfl (by omega) (by omega)) rfl ?_
    refine SA.takeA (i := 11) (by repeat (first | exact hPQ | refine PanicOk.then ?_ | refine PanicOk.block ?_ | exact PanicOk.body)) rfl (by kernel_rfl) (by kernel_rfl) (by kernel_rfl) rfl (by kernel_rfl) (by kernel_rfl) (by first | exact List.nil_sublist _ | exact List.Sublist.refl _ | (repeat (first | exact List.Sublist.refl _ | exact List.nil_sublist _ | refine List.Sublist.cons_cons _ ?_ | refine List.Sublist.cons _ ?_))) (OV.loadFr 0 sc23 rfl rfl (by omega)) rfl ?_
    refine SA.takeC (i := 12) (by repeat (first | exact hPQ | refine PanicOk.then ?_ | refine PanicOk.block ?_ | exact PanicOk.body)) rfl (by kernel_rfl) (by kernel_rfl) (by kernel_rfl) rfl (by first | exact List.nil_sublist _ | exact List.Sublist.refl _ | (repeat (first | exact List.Sublist.refl _ | exact List.nil_sublist _ | refine List.Sublist.cons_cons _ ?_ | refine List.Sublist.cons _ ?_))) (OV.idx1 (a) u22 se22 rfl rfl (by omega) (by omega)) rfl ?_
    refine SA.all (rs := [13]) (by kernel_rfl) (by simp) (all_cons ?_ (all_nil))
    · skip
      refine SO.s rfl (OS.storeFr 0 sz23 rfl rfl rfl (by omega)) (by first | exact List.nil_sublist _ | exact List.Sublist.refl _ | (repeat (first | exact List.Sublist.refl _ | exact List.nil_sublist _ | refine List.Sublist.cons_cons _ ?_ | refine List.Sublist.cons _ ?_))) ?_
      refine SA.takeC (i := 14) (by repeat (first | exact hPQ | refine PanicOk.then ?_ | refine PanicOk.block ?_ | exact PanicOk.body)) rfl (by kernel_rfl) (by kernel_rfl) (by kernel_rfl) rfl (by first | exact List.nil_sublist _ | exact List.Sublist.refl _ | (repeat (first | exact List.Sublist.refl _ | exact List.nil_sublist _ | refine List.Sublist.cons_cons _ ?_ | refine List.Sublist.cons _ ?_))) (OV.idx1 (p) u22 se22 rfl rfl (by omega) (by omega)) rfl ?_
      refine SA.all (rs := [15]) (by kernel_rfl) (by simp) (all_cons ?_ (all_nil))
      · skip
        refine SO.s rfl (OS.storeFr 0 sz23 rfl rfl rfl (by simp; omega)) (by first | exact List.nil_sublist _ | exact List.Sublist.refl _ | (repeat (first | exact List.Sublist.refl _ | exact List.nil_sublist _ | refine List.Sublist.cons_cons _ ?_ | refine List.Sublist.cons _ ?_))) ?_
        refine SA.done (by kernel_rfl) ?_
        exact SE.toSt (by repeat' (first | exact trivial | refine ⟨rfl, ?_⟩)) (List.Sublist.refl _)
  generalize swp d a p = d1 at *
  refine SC.seq ?_
  refine SC.region ?_
  refine SL.y (OV.move rfl) rfl ?_
  refine SL.y (OV.add (r := ((a + 1 : Nat) : Int)) rfl rfl (by rw [wrap_i64 (by omega) (by omega)]; omega)) rfl ?_
  refine SL.y (OV.move rfl) rfl ?_
  refine SL.y (OV.sub (r := ((b - 1 : Nat) : Int)) rfl rfl (by rw [wrap_i64 (by omega) (by omega)]; omega)) rfl ?_
  refine SL.y (OV.assign rfl) rfl ?_
  refine SL.y (OV.assign rfl) rfl ?_
  refine SL.nil ?_
  refine SC.then ?_
  refine SC.cutG (fun s : Nat × Array Nat => [(9, .int .i64 s.1)]) (fun s => [(blk, fr s.2)]) (fun s => s = partEqLoop Fl.lt a (a + 1) (b - 1) d1) ?_ ?_
  · refine SC.block ?_
    refine SC.loopAB (fun (s : Nat × Nat) (q : Array Nat) => EQ blk n c a s.1 s.2) (fun s q => [(blk, fr q)]) (fun s q => 1 ≤ s.1 ∧ s.2 < n ∧ q.size = n ∧ partEqLoop Fl.lt a s.1 s.2 q = partEqLoop Fl.lt a (a + 1) (b - 1) d1) (fun s q => s.2 + 1 - s.1) (a + 1, b - 1) d1 ⟨by show 1 ≤ a + 1; omega, by show b - 1 < n; omega, hd1s, rfl⟩ (by repeat' (first | exact trivial | refine ⟨rfl, ?_⟩)) (List.Sublist.refl _) ?_
    rintro ⟨i', j'⟩ q ⟨hi', hj', hqs, hq⟩
    dsimp only at hi' hj' hq ⊢
    rw [partEqLoop_eq] at hq
    refine SC.block ?_
    have hge : i' ≤ scanUp (fun x => !Fl.lt q[a]! x) q j' i' := scanUp_ge _ _ _ _
    refine SC.cutSt (EQ blk n c a (scanUp (fun x => !Fl.lt q[a]! x) q j' i') j') [(blk, fr q)] ?_ ?_
    · refine SC.block ?_
      refine SC.loop (fun i : Nat => EQ blk n c a i j') (fun _ => [(blk, fr q)]) (fun i => scanUp (fun x => !Fl.lt q[a]! x) q j' i = scanUp (fun x => !Fl.lt q[a]! x) q j' i') (fun i => j' + 1 - i) i' rfl (by repeat' (first | exact trivial | refine ⟨rfl, ?_⟩)) (List.Sublist.refl _) ?_
      intro i he
      refine SC.seq ?_
      refine SC.cutG (fun t : Bool => (43, .bool t) :: EQ blk n c a i j') (fun _ => [(blk, fr q)]) (fun t => t = true ↔ i ≤ j' ∧ (!Fl.lt q[a]! q[i]!) = true) ?_ ?_
      · by_cases hij : i ≤ j'
        · skip
          refine SC.quiet mixed (by kernel_rfl) ?_
          refine SQ.y (OV.move rfl) rfl ?_
          refine SQ.y (OV.move rfl) rfl ?_
          refine SQ.y ((OV.leq rfl rfl).yes (by omega)) rfl ?_
          refine SQ.y (OV.move rfl) rfl ?_
          refine SQ.yg rfl rfl (OV.move rfl) rfl ?_
          refine SQ.yg rfl rfl (OV.move rfl) rfl ?_
          refine SQ.yg rfl rfl (OV.idx1 a u22 se22 rfl rfl rfl (by omega)) rfl ?_
          refine SQ.yg rfl rfl (OV.loadFr 0 sc23 rfl rfl (by omega)) rfl ?_
          refine SQ.yg rfl rfl (OV.move rfl) rfl ?_
          refine SQ.yg rfl rfl (OV.move rfl) rfl ?_
          refine SQ.yg rfl rfl (OV.idx1 i u22 se22 rfl rfl rfl (by omega)) rfl ?_
          refine SQ.yg rfl rfl (OV.loadFr 0 sc23 rfl rfl (by omega)) rfl ?_
          refine SQ.callQg rfl rfl pf16 (args2 rfl rfl) (fun w hM => call16 _ _ w) rfl ?_
          refine SQ.yg rfl rfl (OV.not rfl) rfl ?_
          refine SQ.y (OV.pickT rfl rfl) rfl ?_
          refine SQ.nil ?_
          exact SE.toG _ ⟨fun h => ⟨hij, h⟩, fun h => h.2⟩ (by repeat' (first | exact trivial | refine ⟨rfl, ?_⟩)) (List.Sublist.refl _)
        · skip
          refine SC.quiet mixed (by kernel_rfl) ?_
          refine SQ.y (OV.move rfl) rfl ?_
          refine SQ.y (OV.move rfl) rfl ?_
          refine SQ.y ((OV.leq rfl rfl).no (by omega)) rfl ?_
          refine SQ.y (OV.move rfl) rfl ?_
          refine SQ.skip rfl rfl rfl ?_
          refine SQ.skip rfl rfl rfl ?_
          refine SQ.skip rfl rfl rfl ?_
          refine SQ.skip rfl rfl rfl ?_
          refine SQ.skip rfl rfl rfl ?_
          refine SQ.skip rfl rfl rfl ?_
          refine SQ.skip rfl rfl rfl ?_
          refine SQ.skip rfl rfl rfl ?_
          refine SQ.skip rfl rfl rfl ?_
          refine SQ.skip rfl rfl rfl ?_
          refine SQ.y (OV.pickF rfl rfl) rfl ?_
          refine SQ.nil ?_
          exact SE.toG false ⟨fun h => (by cases h), fun h => absurd h.1 hij⟩ (by repeat' (first | exact trivial | refine ⟨rfl, ?_⟩)) (List.Sublist.refl _)
      intro t ht
      refine SC.cond rfl (fun e => ?_) (fun e => ?_)
      · obtain ⟨hij, hl⟩ := ht.1 e
        refine SC.skip ?_
        refine SC.then ?_
        refine SC.block ?_
        refine SC.region ?_
        refine SL.y (OV.move rfl) rfl ?_
        refine SL.y (OV.add rfl rfl (wrap_i64 (by omega) (by omega))) rfl ?_
        refine SL.y (OV.assign rfl) rfl ?_
        refine SL.nil ?_
        refine SE.nb ?_
        exact SE.round (i + 1) (by rw [← he]; exact (scanUp_step (p := fun x => !Fl.lt q[a]! x) hij hl).symm) (by omega) (by repeat' (first | exact trivial | refine ⟨rfl, ?_⟩)) (List.Sublist.refl _)
      · have hst := scanUp_stop (p := fun x => !Fl.lt q[a]! x) (d := q) (j := j') (i := i) (fun h => by rw [ht.2 h] at e; cases e)
        rw [hst] at he
        refine SC.exit ?_
        refine SE.thenE (SE.thenE (SE.inBlock ?_))
        rw [← he]
        exact SE.toSt (by repeat' (first | exact trivial | refine ⟨rfl, ?_⟩)) (List.Sublist.refl _)
    generalize scanUp (fun x => !Fl.lt q[a]! x) q j' i' = i2 at *
    have hle2 : scanDown (fun x => Fl.lt q[a]! x) q i2 j' ≤ j' := scanDown_le _ _ _ _
    refine SC.cutSt (EQ blk n c a i2 (scanDown (fun x => Fl.lt q[a]! x) q i2 j')) [(blk, fr q)] ?_ ?_
    · refine SC.block ?_
      refine SC.loop (fun j : Nat => EQ blk n c a i2 j) (fun _ => [(blk, fr q)]) (fun j => j < n ∧ scanDown (fun x => Fl.lt q[a]! x) q i2 j = scanDown (fun x => Fl.lt q[a]! x) q i2 j') (fun j => j) j' ⟨hj', rfl⟩ (by repeat' (first | exact trivial | refine ⟨rfl, ?_⟩)) (List.Sublist.refl _) ?_
      rintro j ⟨hj, he⟩
      refine SC.seq ?_
      refine SC.cutG (fun t : Bool => (59, .bool t) :: EQ blk n c a i2 j) (fun _ => [(blk, fr q)]) (fun t => t = true ↔ i2 ≤ j ∧ Fl.lt q[a]! q[j]! = true) ?_ ?_
      · by_cases hij : i2 ≤ j
        · skip
          refine SC.quiet mixed (by kernel_rfl) ?_
          refine SQ.y (OV.move rfl) rfl ?_
          refine SQ.y (OV.move rfl) rfl ?_
          refine SQ.y ((OV.leq rfl rfl).yes (by omega)) rfl ?_
          refine SQ.y (OV.move rfl) rfl ?_
          refine SQ.yg rfl rfl (OV.move rfl) rfl ?_
          refine SQ.yg rfl rfl (OV.move rfl) rfl ?_
          refine SQ.yg rfl rfl (OV.idx1 a u22 se22 rfl rfl rfl (by omega)) rfl ?_
          refine SQ.yg rfl rfl (OV.loadFr 0 sc23 rfl rfl (by omega)) rfl ?_
          refine SQ.yg rfl rfl (OV.move rfl) rfl ?_
          refine SQ.yg rfl rfl (OV.move rfl) rfl ?_
          refine SQ.yg rfl rfl (OV.idx1 j u22 se22 rfl rfl rfl (by omega)) rfl ?_
          refine SQ.yg rfl rfl (OV.loadFr 0 sc23 rfl rfl (by omega)) rfl ?_
          refine SQ.callQg rfl rfl pf16 (args2 rfl rfl) (fun w hM => call16 _ _ w) rfl ?_
          refine SQ.y (OV.pickT rfl rfl) rfl ?_
          refine SQ.nil ?_
          exact SE.toG _ ⟨fun h => ⟨hij, h⟩, fun h => h.2⟩ (by repeat' (first | exact trivial | refine ⟨rfl, ?_⟩)) (List.Sublist.refl _)
        · skip
          refine SC.quiet mixed (by kernel_rfl) ?_
          refine SQ.y (OV.move rfl) rfl ?_
          refine SQ.y (OV.move rfl) rfl ?_
          refine SQ.y ((OV.leq rfl rfl).no (by omega)) rfl ?_
          refine SQ.y (OV.move rfl) rfl ?_
          refine SQ.skip rfl rfl rfl ?_
          refine SQ.skip rfl rfl rfl ?_
          refine SQ.skip rfl rfl rfl ?_
          refine SQ.skip rfl rfl rfl ?_
          refine SQ.skip rfl rfl rfl ?_
          refine SQ.skip rfl rfl rfl ?_
          refine SQ.skip rfl rfl rfl ?_
          refine SQ.skip rfl rfl rfl ?_
          refine SQ.skip rfl rfl rfl ?_
          refine SQ.y (OV.pickF rfl rfl) rfl ?_
          refine SQ.nil ?_
          exact SE.toG false ⟨fun h => (by cases h), fun h => absurd h.1 hij⟩ (by repeat' (first | exact trivial | refine ⟨rfl, ?_⟩)) (List.Sublist.refl _)
      intro t ht
      refine SC.cond rfl (fun e => ?_) (fun e => ?_)
      · obtain ⟨hij, hl⟩ := ht.1 e
        refine SC.skip ?_
        refine SC.then ?_
        refine SC.block ?_
        refine SC.region ?_
        refine SL.y (OV.move rfl) rfl ?_
        refine SL.y (OV.sub (r := ((j - 1 : Nat) : Int)) rfl rfl (by rw [wrap_i64 (by omega) (by omega)]; omega)) rfl ?_
        refine SL.y (OV.assign rfl) rfl ?_
        refine SL.nil ?_
        refine SE.nb ?_
        exact SE.round (j - 1) ⟨by omega, by rw [← he]; exact (scanDown_step (p := fun x => Fl.lt q[a]! x) (by omega) hij hl).symm⟩ (by omega) (by repeat' (first | exact trivial | refine ⟨rfl, ?_⟩)) (List.Sublist.refl _)
      · have hst := scanDown_stop (p := fun x => Fl.lt q[a]! x) (d := q) (j := j) (i := i2) (fun h => by rw [ht.2 h] at e; cases e)
        rw [hst] at he
        refine SC.exit ?_
        refine SE.thenE (SE.thenE (SE.inBlock ?_))
        rw [← he]
        exact SE.toSt (by repeat' (first | exact trivial | refine ⟨rfl, ?_⟩)) (List.Sublist.refl _)
    generalize scanDown (fun x => Fl.lt q[a]! x) q i2 j' = j2 at *
    refine SC.seq ?_
    refine SC.seq ?_
    refine SC.region ?_
    refine SL.y (OV.move rfl) rfl ?_
    refine SL.y (OV.move rfl) rfl ?_
    refine SL.y (OV.gtr rfl rfl) rfl ?_
    refine SL.nil ?_
    refine SC.then ?_
    refine SC.condP rfl (fun hgt => ?_) (fun hle3 => ?_)
    · rw [if_pos (show i2 > j2 by omega)] at hq
      refine SC.exit ?_
      refine SE.thenE (SE.inBlock_ne rfl (SE.thenE (SE.inBlock ?_)))
      exact SE.toG (i2, q) hq (by repeat' (first | exact trivial | refine ⟨rfl, ?_⟩)) (List.Sublist.refl _)
    · rw [if_neg (show ¬ i2 > j2 by omega)] at hq
      refine SC.skip ?_
      refine SC.then ?_
      refine SC.cutSt (EQ blk n c a i2 j2) [(blk, fr (swp q i2 j2))] ?_ ?_
      · skip
        refine SC.held 13 [(blk, fr q)] [] mixed ?_
        refine SA.takeC (i := 0) (by repeat (first | exact hPQ | refine PanicOk.then ?_ | refine PanicOk.block ?_ | exact PanicOk.body)) rfl (by kernel_rfl) (by kernel_rfl) (by kernel_rfl) rfl (by first | exact List.nil_sublist _ | exact List.Sublist.refl _ | (repeat (first | exact List.Sublist.refl _ | exact List.nil_sublist _ | refine List.Sublist.cons_cons _ ?_ | refine List.Sublist.cons _ ?_))) (OV.move rfl) rfl ?_
        refine SA.takeC (i := 1) (by repeat (first | exact hPQ | refine PanicOk.then ?_ | refine PanicOk.block ?_ | exact PanicOk.body)) rfl (by kernel_rfl) (by kernel_rfl) (by kernel_rfl) rfl (by first | exact List.nil_sublist _ | exact List.Sublist.refl _ | (repeat (first | exact List.Sublist.refl _ | exact List.nil_sublist _ | refine List.Sublist.cons_cons _ ?_ | refine List.Sublist.cons _ ?_))) (OV.move rfl) rfl ?_
        refine SA.takeC (i := 2) (by repeat (first | exact hPQ | refine PanicOk.then ?_ | refine PanicOk.block ?_ | exact PanicOk.body)) rfl (by kernel_rfl) (by kernel_rfl) (by kernel_rfl) rfl (by first | exact List.nil_sublist _ | exact List.Sublist.refl _ | (repeat (first | exact List.Sublist.refl _ | exact List.nil_sublist _ | refine List.Sublist.cons_cons _ ?_ | refine List.Sublist.cons _ ?_))) (OV.move rfl) rfl ?_
        refine SA.takeC (i := 3) (by repeat (first | exact hPQ | refine PanicOk.then ?_ | refine PanicOk.block ?_ | exact PanicOk.body)) rfl (by kernel_rfl) (by kernel_rfl) (by kernel_rfl) rfl (by first | exact List.nil_sublist _ | exact List.Sublist.refl _ | (repeat (first | exact List.Sublist.refl _ | exact List.nil_sublist _ | refine List.Sublist.cons_cons _ ?_ | refine List.Sublist.cons _ ?_))) (OV.move rfl) rfl ?_
        refine SA.takeC (i := 4) (by repeat (first | exact hPQ | refine PanicOk.then ?_ | refine PanicOk.block ?_ | exact PanicOk.body)) rfl (by kernel_rfl) (by kernel_rfl) (by kernel_rfl) rfl (by first | exact List.nil_sublist _ | exact List.Sublist.refl _ | (repeat (first | exact List.Sublist.refl _ | exact List.nil_sublist _ | refine List.Sublist.cons_cons _ ?_ | refine List.Sublist.cons _ ?_))) (OV.move rfl) rfl ?_
        refine SA.takeC (i := 5) (by repeat (first | exact hPQ | refine PanicOk.then ?_ | refine PanicOk.block ?_ | exact PanicOk.body)) rfl (by kernel_rfl) (by kernel_rfl) (by kernel_rfl) rfl (by first | exact List.nil_sublist _ | exact List.Sublist.refl _ | (repeat (first | exact List.Sublist.refl _ | exact List.nil_sublist _ | refine List.Sublist.cons_cons _ ?_ | refine List.Sublist.cons _ ?_))) (OV.move rfl) rfl ?_
        refine SA.takeC (i := 6) (by repeat (first | exact hPQ | refine PanicOk.then ?_ | refine PanicOk.block ?_ | exact PanicOk.body)) rfl (by kernel_rfl) (by kernel_rfl) (by kernel_rfl) rfl (by first | exact List.nil_sublist _ | exact List.Sublist.refl _ | (repeat (first | exact List.Sublist.refl _ | exact List.nil_sublist _ | refine List.Sublist.cons_cons _ ?_ | refine List.Sublist.cons _ ?_))) (OV.idx1 (j2) u22 se22 rfl rfl (by omega) (by omega)) rfl ?_
        refine SA.takeA (i := 7) (by repeat (first | exact hPQ | refine PanicOk.then ?_ | refine PanicOk.block ?_ | exact PanicOk.body)) rfl (by kernel_rfl) (by kernel_rfl) (by kernel_rfl) rfl (by kernel_rfl) (by kernel_rfl) (by first | exact List.nil_sublist _ | exact List.Sublist.refl _ | (repeat (first | exact List.Sublist.refl _ | exact List.nil_sublist _ | refine List.Sublist.cons_cons _ ?_ | refine List.Sublist.cons _ ?_))) (OV.loadFr 0 sc23 rfl rfl (by omega)) rfl ?_
        refine SA.takeC (i := 8) (by repeat (first | exact hPQ | refine PanicOk.then ?_ | refine PanicOk.block ?_ | exact PanicOk.body)) rfl (by kernel_rfl) (by kernel_rfl) (by kernel_rfl) rfl (by first | exact List.nil_sublist _ | exact List.Sublist.refl _ | (repeat (first | exact List.Sublist.refl _ | exact List.nil_sublist _ | refine List.Sublist.cons_cons _ ?_ | refine List.Sublist.cons _ ?_))) (OV.move rfl) rfl ?_
        refine SA.takeC (i := 9) (by repeat (first | exact hPQ | refine PanicOk.then ?_ | refine PanicOk.block ?_ | exact PanicOk.body)) rfl (by kernel_rfl) (by kernel_rfl) (by kernel_rfl) rfl (by first | exact List.nil_sublist _ | exact List.Sublist.refl _ | (repeat (first | exact List.Sublist.refl _ | exact List.nil_sublist _ | refine List.Sublist.cons_cons _ ?_ | refine List.Sublist.cons _ ?_))) (OV.move rfl) rfl ?_
        refine SA.takeC (i := 10) (by repeat (first | exact hPQ | refine PanicOk.then ?_ | refine PanicOk.block ?_ | exact PanicOk.body)) rfl (by kernel_rfl) (by kernel_rfl) (by kernel_rfl) rfl (by first | exact List.nil_sublist _ | exact List.Sublist.refl _ | (repeat (first | exact List.Sublist.refl _ | exact List.nil_sublist _ | refine List.Sublist.cons_cons _ ?_ | refine List.Sublist.cons _ ?_))) (OV.idx1 (i2) u22 se22 rfl rfl (by omega) (by omega)) rfl ?_
        refine SA.takeA (i := 11) (by repeat (first | exact hPQ | refine PanicOk.then ?_ | refine PanicOk.block ?_ | exact PanicOk.body)) rfl (by kernel_rfl) (by kernel_rfl) (by kernel_rfl) rfl (by kernel_rfl) (by kernel_rfl) (by first | exact List.nil_sublist _ | exact List.Sublist.refl _ | (repeat (first | exact List.Sublist.refl _ | exact List.nil_sublist _ | refine List.Sublist.cons_cons _ ?_ | refine List.Sublist.cons _ ?_))) (OV.loadFr 0 sc23 rfl rfl (by omega)) rfl ?_
        refine SA.takeC (i := 12) (by repeat (first | exact hPQ | refine PanicOk.then ?_ | refine PanicOk.block ?_ | exact PanicOk.body)) rfl (by kernel_rfl) (by kernel_rfl) (by kernel_rfl) rfl (by first | exact List.nil_sublist _ | exact List.Sublist.refl _ | (repeat (first | exact List.Sublist.refl _ | exact List.nil_sublist _ | refine List.Sublist.cons_cons _ ?_ | refine List.Sublist.cons _ ?_))) (OV.idx1 (i2) u22 se22 rfl rfl (by omega) (by omega)) rfl ?_
        refine SA.all (rs := [13]) (by kernel_rfl) (by simp) (all_cons ?_ (all_nil))
        · skip
          refine SO.s rfl (OS.storeFr 0 sz23 rfl rfl rfl (by omega)) (by first | exact List.nil_sublist _ | exact List.Sublist.refl _ | (repeat (first | exact List.Sublist.refl _ | exact List.nil_sublist _ | refine List.Sublist.cons_cons _ ?_ | refine List.Sublist.cons _ ?_))) ?_
          refine SA.takeC (i := 14) (by repeat (first | exact hPQ | refine PanicOk.then ?_ | refine PanicOk.block ?_ | exact PanicOk.body)) rfl (by kernel_rfl) (by kernel_rfl) (by kernel_rfl) rfl (by first | exact List.nil_sublist _ | exact List.Sublist.refl _ | (repeat (first | exact List.Sublist.refl _ | exact List.nil_sublist _ | refine List.Sublist.cons_cons _ ?_ | refine List.Sublist.cons _ ?_))) (OV.idx1 (j2) u22 se22 rfl rfl (by omega) (by omega)) rfl ?_
          refine SA.all (rs := [15]) (by kernel_rfl) (by simp) (all_cons ?_ (all_nil))
          · skip
            refine SO.s rfl (OS.storeFr 0 sz23 rfl rfl rfl (by simp; omega)) (by first | exact List.nil_sublist _ | exact List.Sublist.refl _ | (repeat (first | exact List.Sublist.refl _ | exact List.nil_sublist _ | refine List.Sublist.cons_cons _ ?_ | refine List.Sublist.cons _ ?_))) ?_
            refine SA.done (by kernel_rfl) ?_
            exact SE.toSt (by repeat' (first | exact trivial | refine ⟨rfl, ?_⟩)) (List.Sublist.refl _)
      refine SC.seq ?_
      refine SC.region ?_
      refine SL.y (OV.move rfl) rfl ?_
      refine SL.y (OV.add (r := ((i2 + 1 : Nat) : Int)) rfl rfl (by rw [wrap_i64 (by omega) (by omega)]; omega)) rfl ?_
      refine SL.y (OV.assign rfl) rfl ?_
      refine SL.nil ?_
      refine SC.then ?_
      refine SC.region ?_
      refine SL.y (OV.move rfl) rfl ?_
      refine SL.y (OV.sub (r := ((j2 - 1 : Nat) : Int)) rfl rfl (by rw [wrap_i64 (by omega) (by omega)]; omega)) rfl ?_
      refine SL.y (OV.assign rfl) rfl ?_
      refine SL.nil ?_
      refine SE.nb ?_
      exact SE.roundAB (i2 + 1, j2 - 1) (swp q i2 j2) ⟨by show 1 ≤ i2 + 1; omega, by show j2 - 1 < n; omega, by rw [size_swp]; exact hqs, hq⟩ (by show j2 - 1 + 1 - (i2 + 1) < j' + 1 - i'; omega) (by repeat' (first | exact trivial | refine ⟨rfl, ?_⟩)) (List.Sublist.refl _)
  rintro ⟨i3, q3⟩ hs
  dsimp only
  rw [← hs]
  refine SC.seq ?_
  refine SC.region ?_
  refine SL.y (OV.move rfl) rfl ?_
  refine SL.y (OV.assign rfl) rfl ?_
  refine SL.nil ?_
  refine SC.then ?_
  refine SC.ret ?_
  exact SE.ret1 Yba.results17 rfl (fun w' hM => ⟨rfl, hM⟩)
end Go.Proofs.Ybulkdrfa
