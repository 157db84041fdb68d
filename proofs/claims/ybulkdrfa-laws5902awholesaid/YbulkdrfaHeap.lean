import Derived.Test.YbulkdrfaIns
namespace Go.Proofs.Ybulkdrfa
open Go Go.RowKit Go.Proofs.Ybulkdrfa.Sym Go.Sort
set_option linter.unusedVariables false
set_option linter.unusedSimpArgs false
set_option maxRecDepth 100000

/-- A call that leaves the memory as it was, in a region that draws. -/
theorem Sym.SQ.callQ {P : Program} {w0 : World} {F : List Nat} {env : Env} {m : List Blk} {ty : TypeId} {pos : String} {af : Array Edge} {Q : Exit → Act → World → Prop} {N : Nat} {ops : Array Oper} {rest : List Oper} {d f : Nat} {args : Array Operand} {ts : Array TypeId} {vs : Array Value} {v : Value} (hf : plainFunc P f = true) (hargs : ∀ (ρ : Operand → Value), (∀ x u, ev env x = some u → ρ x = u) → args.map ρ = vs)
    (hc : ∀ w, Mm w0 F m w → Calls P f vs w fun e w' => e = .returned v ∧ Mm w [] [] w') (hd : Nat.blt d N = true)
    (h : SQ P ops Q rest N ((d, v) :: env) w0 F m) : SQ P ops Q (⟨some d, .call ⟨.value (.func f), args, ts⟩, ty, pos, af, none⟩ :: rest) N env w0 F m :=
  ⟨fun a hF => wpQuiet_step fun K hK => by
    refine (if_pos rfl).mpr ⟨v, fun w hM => ?_, hK _ (h.out _ (hF.put hd v))⟩
    unfold Oper.quietAt
    rw [run_call hf (hargs a.eval (fun x u hx => hF.eval hx))]
    refine ⟨rfl, (hc w hM).mono fun e w' ⟨he, hM'⟩ => ⟨he, ?_⟩⟩
    have := hM.callee0 hM'
    rwa [List.append_nil] at this⟩

/-- The greater child. -/
def childOf (hi first root : Nat) (d : Array Nat) : Nat := if 2 * root + 2 < hi ∧ Fl.lt d[first + (2 * root + 1)]! d[first + (2 * root + 2)]! = true then 2 * root + 2 else 2 * root + 1
theorem sift_stop {hi first root : Nat} {d : Array Nat} (h : hi ≤ 2 * root + 1) : siftDown Fl.lt hi first root d = d := by
  rw [siftDown, dif_pos h]
theorem sift_step {hi first root : Nat} {d : Array Nat} (h : 2 * root + 1 < hi) : siftDown Fl.lt hi first root d = if Fl.lt d[first + root]! d[first + childOf hi first root d]! = true then siftDown Fl.lt hi first (childOf hi first root d) (swp d (first + root) (first + childOf hi first root d)) else d := by
  conv => lhs; rw [siftDown, dif_neg (by omega)]
  unfold childOf
  have e1 : 2 * root + 1 + 1 = 2 * root + 2 := by omega
  have e2 : first + (2 * root + 1) + 1 = first + (2 * root + 2) := by omega
  simp only [e1, e2]
  by_cases hc : 2 * root + 2 < hi ∧ Fl.lt d[first + (2 * root + 1)]! d[first + (2 * root + 2)]! = true
  · rw [if_pos hc, if_pos (by simp only [Bool.and_eq_true, decide_eq_true_eq]; exact hc)]
    cases Fl.lt d[first + root]! d[first + (2 * root + 2)]!
    · simp
    · simp only [Bool.not_true, Bool.false_eq_true, if_false, if_true]
      rw [dif_pos hc.1]
  · rw [if_neg hc, if_neg (by simp only [Bool.and_eq_true, decide_eq_true_eq]; exact hc)]
    cases Fl.lt d[first + root]! d[first + (2 * root + 1)]! <;> simp
theorem childOf_lt {hi first root : Nat} {d : Array Nat} (h : 2 * root + 1 < hi) : childOf hi first root d < hi ∧ root < childOf hi first root d := by
  unfold childOf
  split
  · rename_i h2; omega
  · omega

/-- siftDownOrdered -/
theorem call21 {w : World} {blk n c lo hi first : Nat} {d : Array Nat} (hn : n ≤ 1000000) (hds : d.size = n) (hb : first + hi ≤ n) (hlo : lo ≤ n) (hw : w.heap[blk]? = some (fr d)) :
    Calls Yba.prog 21 #[sl blk n c, .int .i64 lo, .int .i64 hi, .int .i64 first] w fun e w' => e = .returned (.tuple #[]) ∧ Mm w [blk] [(blk, fr (siftDown Fl.lt hi first lo d))] w' := by
  refine Calls.of_SC (args := [sl blk n c, .int .i64 lo, .int .i64 hi, .int .i64 first]) Yba.func21 rfl (by simp [Yba.f21]) (Mm.ofRow hw) ?_
  refine SC.seq ?_
  refine SC.region ?_
  refine SL.y (OV.move rfl) rfl ?_
  refine SL.y (OV.assign rfl) rfl ?_
  refine SL.nil ?_
  refine SC.then ?_
  refine SC.block ?_
  refine SC.loopAB (fun (r : Nat) (q : Array Nat) => [(0, sl blk n c), (2, .int .i64 hi), (3, .int .i64 first), (8, .int .i64 r)]) (fun r q => [(blk, fr q)]) (fun r q => r ≤ n ∧ q.size = n ∧ siftDown Fl.lt hi first r q = siftDown Fl.lt hi first lo d) (fun r q => n + 1 - r) lo d ⟨hlo, hds, rfl⟩ (by repeat' (first | exact trivial | refine ⟨rfl, ?_⟩)) (List.Sublist.refl _) ?_
  rintro r q ⟨hrn, hqs, hq⟩
  refine SC.block ?_
  refine SC.seq ?_
  refine SC.region ?_
  refine SL.y (OV.move rfl) rfl ?_
  refine SL.y (OV.mul rfl rfl (wrap_i64 (by omega) (by omega))) rfl ?_
  refine SL.y (OV.add (r := ((2 * r + 1 : Nat) : Int)) rfl rfl (by rw [wrap_i64 (by omega) (by omega)]; omega)) rfl ?_
  refine SL.y (OV.assign rfl) rfl ?_
  refine SL.nil ?_
  refine SC.then ?_
  refine SC.seq ?_
  refine SC.seq ?_
  refine SC.region ?_
  refine SL.y (OV.move rfl) rfl ?_
  refine SL.y (OV.move rfl) rfl ?_
  refine SL.y (OV.geq rfl rfl) rfl ?_
  refine SL.nil ?_
  refine SC.then ?_
  refine SC.condP rfl (fun hge => ?_) (fun hlt => ?_)
  · refine SC.exit ?_
    refine SE.thenE (SE.inBlock_ne rfl (SE.thenE (SE.inBlock ?_)))
    rw [sift_stop (by omega)] at hq
    rw [hq]
    exact SE.end0 Yba.results21 (fun w' hM => ⟨rfl, hM⟩)
  · have hlt' : 2 * r + 1 < hi := by omega
    have hstep := sift_step (first := first) (d := q) hlt'
    have hch := childOf_lt (first := first) (d := q) hlt'
    have hchd : childOf hi first r q = if 2 * r + 2 < hi ∧ Fl.lt q[first + (2 * r + 1)]! q[first + (2 * r + 2)]! = true then 2 * r + 2 else 2 * r + 1 := rfl
    refine SC.skip ?_
    refine SC.then ?_
    generalize childOf hi first r q = ch at *
    refine SC.cutSt [(9, .int .i64 ch), (0, sl blk n c), (2, .int .i64 hi), (3, .int .i64 first), (8, .int .i64 r)] [(blk, fr q)] ?_ ?_
    · refine SC.cutG (fun t : Bool => [(36, .bool t), (9, .int .i64 (2 * r + 1 : Nat)), (0, sl blk n c), (2, .int .i64 hi), (3, .int .i64 first), (8, .int .i64 r)]) (fun _ => [(blk, fr q)]) (fun t => t = true ↔ 2 * r + 2 < hi ∧ Fl.lt q[first + (2 * r + 1)]! q[first + (2 * r + 2)]! = true) ?_ ?_
      · by_cases h2 : 2 * r + 2 < hi
        · skip
          refine SC.quiet mixed (by kernel_rfl) ?_
          refine SQ.y (OV.move rfl) rfl ?_
          refine SQ.y (OV.add rfl rfl (wrap_i64 (by omega) (by omega))) rfl ?_
          refine SQ.y (OV.move rfl) rfl ?_
          refine SQ.y ((OV.lss rfl rfl).yes (by omega)) rfl ?_
          refine SQ.y (OV.move rfl) rfl ?_
          refine SQ.yg rfl rfl (OV.move rfl) rfl ?_
          refine SQ.yg rfl rfl (OV.move rfl) rfl ?_
          refine SQ.yg rfl rfl (OV.move rfl) rfl ?_
          refine SQ.yg rfl rfl (OV.add rfl rfl (wrap_i64 (by omega) (by omega))) rfl ?_
          refine SQ.yg rfl rfl (OV.idx1 (first + (2 * r + 1)) u22 se22 rfl rfl (by omega) (by omega)) rfl ?_
          refine SQ.yg rfl rfl (OV.loadFr 0 sc23 rfl rfl (by omega)) rfl ?_
          refine SQ.yg rfl rfl (OV.move rfl) rfl ?_
          refine SQ.yg rfl rfl (OV.move rfl) rfl ?_
          refine SQ.yg rfl rfl (OV.move rfl) rfl ?_
          refine SQ.yg rfl rfl (OV.add rfl rfl (wrap_i64 (by omega) (by omega))) rfl ?_
          refine SQ.yg rfl rfl (OV.add rfl rfl (wrap_i64 (by omega) (by omega))) rfl ?_
          refine SQ.yg rfl rfl (OV.idx1 (first + (2 * r + 2)) u22 se22 rfl rfl (by omega) (by omega)) rfl ?_
          refine SQ.yg rfl rfl (OV.loadFr 0 sc23 rfl rfl (by omega)) rfl ?_
          refine SQ.callQg rfl rfl pf16 (args2 rfl rfl) (fun w hM => call16 _ _ w) rfl ?_
          refine SQ.y (OV.pickT rfl rfl) rfl ?_
          refine SQ.nil ?_
          exact SE.toG _ ⟨fun h => ⟨h2, h⟩, fun h => h.2⟩ (by repeat' (first | exact trivial | refine ⟨rfl, ?_⟩)) (List.Sublist.refl _)
        · skip
          refine SC.quiet mixed (by kernel_rfl) ?_
          refine SQ.y (OV.move rfl) rfl ?_
          refine SQ.y (OV.add rfl rfl (wrap_i64 (by omega) (by omega))) rfl ?_
          refine SQ.y (OV.move rfl) rfl ?_
          refine SQ.y ((OV.lss rfl rfl).no (by omega)) rfl ?_
          refine SQ.y (OV.move rfl) rfl ?_
          refine SQ.skip rfl rfl rfl ?_
          refine SQ.skip rfl rfl rfl ?_
          refine SQ.skip rfl rfl rfl ?_
          refine SQ.skip rfl rfl rfl ?_
          refine SQ.skip rfl rfl rfl ?_
          refine SQ.skip rfl rfl rfl ?_
          refine SQ.skip rfl rfl rfl ?_
          refine SQ.skip rfl rfl rfl ?_
          refine SQ.skip rfl rfl rfl ?_
          refine SQ.skip rfl rfl rfl ?_
          refine SQ.skip rfl rfl rfl ?_
          refine SQ.skip rfl rfl rfl ?_
          refine SQ.skip rfl rfl rfl ?_
          refine SQ.skip rfl rfl rfl ?_
          refine SQ.y (OV.pickF rfl rfl) rfl ?_
          refine SQ.nil ?_
          exact SE.toG false ⟨fun h => (by cases h), fun h => absurd h.1 h2⟩ (by repeat' (first | exact trivial | refine ⟨rfl, ?_⟩)) (List.Sublist.refl _)
      intro t ht
      refine SC.cond rfl (fun e => ?_) (fun e => ?_)
      · have hc := ht.1 e
        rw [if_pos hc] at hchd
        refine SC.region ?_
        refine SL.y (OV.move rfl) rfl ?_
        refine SL.y (OV.add (r := (ch : Int)) rfl rfl (by rw [wrap_i64 (by omega) (by omega)]; omega)) rfl ?_
        refine SL.y (OV.assign rfl) rfl ?_
        refine SL.nil ?_
        exact SE.toSt (by repeat' (first | exact trivial | refine ⟨rfl, ?_⟩)) (List.Sublist.refl _)
      · have hc : ¬ (2 * r + 2 < hi ∧ Fl.lt q[first + (2 * r + 1)]! q[first + (2 * r + 2)]! = true) := fun h => by rw [ht.2 h] at e; cases e
        rw [if_neg hc] at hchd
        refine SC.skip ?_
        refine SE.toSt ?_ (List.Sublist.refl _)
        rw [hchd]
        exact (by repeat' (first | exact trivial | refine ⟨rfl, ?_⟩))
    refine SC.seq ?_
    refine SC.seq ?_
    refine SC.quiet mixed (by kernel_rfl) ?_
    refine SQ.y (OV.move rfl) rfl ?_
    refine SQ.y (OV.move rfl) rfl ?_
    refine SQ.y (OV.move rfl) rfl ?_
    refine SQ.y (OV.add rfl rfl (wrap_i64 (by omega) (by omega))) rfl ?_
    refine SQ.y (OV.idx1 (first + r) u22 se22 rfl rfl (by omega) (by omega)) rfl ?_
    refine SQ.y (OV.loadFr 0 sc23 rfl rfl (by omega)) rfl ?_
    refine SQ.y (OV.move rfl) rfl ?_
    refine SQ.y (OV.move rfl) rfl ?_
    refine SQ.y (OV.move rfl) rfl ?_
    refine SQ.y (OV.add rfl rfl (wrap_i64 (by omega) (by omega))) rfl ?_
    refine SQ.y (OV.idx1 (first + ch) u22 se22 rfl rfl (by omega) (by omega)) rfl ?_
    refine SQ.y (OV.loadFr 0 sc23 rfl rfl (by omega)) rfl ?_
    refine SQ.callQ pf16 (args2 rfl rfl) (fun w hM => call16 _ _ w) rfl ?_
    refine SQ.y (OV.not rfl) rfl ?_
    refine SQ.nil ?_
    refine SC.then ?_
    refine SC.cond rfl (fun e => ?_) (fun e => ?_)
    · have hl : ¬ Fl.lt q[first + r]! q[first + ch]! = true := by simpa using e
      rw [hstep, if_neg hl] at hq
      refine SC.ret ?_
      repeat (first | refine SE.blockR ?_ | refine SE.thenR ?_)
      rw [hq]
      exact SE.ret0 Yba.results21 (fun w' hM => ⟨rfl, hM⟩)
    · have hl : Fl.lt q[first + r]! q[first + ch]! = true := by simpa using e
      rw [hstep, if_pos hl] at hq
      refine SC.skip ?_
      refine SC.then ?_
      refine SC.cutSt [(9, .int .i64 ch), (0, sl blk n c), (2, .int .i64 hi), (3, .int .i64 first), (8, .int .i64 r)] [(blk, fr (swp q (first + r) (first + ch)))] ?_ ?_
      · skip
        refine SC.held 21 [(blk, fr q)] [] mixed ?_
        refine SA.takeC (i := 0) (by repeat (first | exact hPQ | refine PanicOk.then ?_ | refine PanicOk.block ?_ | exact PanicOk.body)) rfl (by kernel_rfl) (by kernel_rfl) (by kernel_rfl) rfl (by first | exact List.nil_sublist _ | exact List.Sublist.refl _ | (repeat (first | exact List.Sublist.refl _ | exact List.nil_sublist _ | refine List.Sublist.cons_cons _ ?_ | refine List.Sublist.cons _ ?_))) (OV.move rfl) rfl ?_
        refine SA.takeC (i := 1) (by repeat (first | exact hPQ | refine PanicOk.then ?_ | refine PanicOk.block ?_ | exact PanicOk.body)) rfl (by kernel_rfl) (by kernel_rfl) (by kernel_rfl) rfl (by first | exact List.nil_sublist _ | exact List.Sublist.refl _ | (repeat (first | exact List.Sublist.refl _ | exact List.nil_sublist _ | refine List.Sublist.cons_cons _ ?_ | refine List.Sublist.cons _ ?_))) (OV.move rfl) rfl ?_
        refine SA.takeC (i := 2) (by repeat (first | exact hPQ | refine PanicOk.then ?_ | refine PanicOk.block ?_ | exact PanicOk.body)) rfl (by kernel_rfl) (by kernel_rfl) (by kernel_rfl) rfl (by first | exact List.nil_sublist _ | exact List.Sublist.refl _ | (repeat (first | exact List.Sublist.refl _ | exact List.nil_sublist _ | refine List.Sublist.cons_cons _ ?_ | refine List.Sublist.cons _ ?_))) (OV.move rfl) rfl ?_
        refine SA.takeC (i := 3) (by repeat (first | exact hPQ | refine PanicOk.then ?_ | refine PanicOk.block ?_ | exact PanicOk.body)) rfl (by kernel_rfl) (by kernel_rfl) (by kernel_rfl) rfl (by first | exact List.nil_sublist _ | exact List.Sublist.refl _ | (repeat (first | exact List.Sublist.refl _ | exact List.nil_sublist _ | refine List.Sublist.cons_cons _ ?_ | refine List.Sublist.cons _ ?_))) (OV.add rfl rfl (wrap_i64 (by omega) (by omega))) rfl ?_
        refine SA.takeC (i := 4) (by repeat (first | exact hPQ | refine PanicOk.then ?_ | refine PanicOk.block ?_ | exact PanicOk.body)) rfl (by kernel_rfl) (by kernel_rfl) (by kernel_rfl) rfl (by first | exact List.nil_sublist _ | exact List.Sublist.refl _ | (repeat (first | exact List.Sublist.refl _ | exact List.nil_sublist _ | refine List.Sublist.cons_cons _ ?_ | refine List.Sublist.cons _ ?_))) (OV.move rfl) rfl ?_
        refine SA.takeC (i := 5) (by repeat (first | exact hPQ | refine PanicOk.then ?_ | refine PanicOk.block ?_ | exact PanicOk.body)) rfl (by kernel_rfl) (by kernel_rfl) (by kernel_rfl) rfl (by first | exact List.nil_sublist _ | exact List.Sublist.refl _ | (repeat (first | exact List.Sublist.refl _ | exact List.nil_sublist _ | refine List.Sublist.cons_cons _ ?_ | refine List.Sublist.cons _ ?_))) (OV.move rfl) rfl ?_
        refine SA.takeC (i := 6) (by repeat (first | exact hPQ | refine PanicOk.then ?_ | refine PanicOk.block ?_ | exact PanicOk.body)) rfl (by kernel_rfl) (by kernel_rfl) (by kernel_rfl) rfl (by first | exact List.nil_sublist _ | exact List.Sublist.refl _ | (repeat (first | exact List.Sublist.refl _ | exact List.nil_sublist _ | refine List.Sublist.cons_cons _ ?_ | refine List.Sublist.cons _ ?_))) (OV.move rfl) rfl ?_
        refine SA.takeC (i := 7) (by repeat (first | exact hPQ | refine PanicOk.then ?_ | refine PanicOk.block ?_ | exact PanicOk.body)) rfl (by kernel_rfl) (by kernel_rfl) (by kernel_rfl) rfl (by first | exact List.nil_sublist _ | exact List.Sublist.refl _ | (repeat (first | exact List.Sublist.refl _ | exact List.nil_sublist _ | refine List.Sublist.cons_cons _ ?_ | refine List.Sublist.cons _ ?_))) (OV.add rfl rfl (wrap_i64 (by omega) (by omega))) rfl ?_
        refine SA.takeC (i := 8) (by repeat (first | exact hPQ | refine PanicOk.then ?_ | refine PanicOk.block ?_ | exact PanicOk.body)) rfl (by kernel_rfl) (by kernel_rfl) (by kernel_rfl) rfl (by first | exact List.nil_sublist _ | exact List.Sublist.refl _ | (repeat (first | exact List.Sublist.refl _ | exact List.nil_sublist _ | refine List.Sublist.cons_cons _ ?_ | refine List.Sublist.cons _ ?_))) (OV.move rfl) rfl ?_
        refine SA.takeC (i := 9) (by repeat (first | exact hPQ | refine PanicOk.then ?_ | refine PanicOk.block ?_ | exact PanicOk.body)) rfl (by kernel_rfl) (by kernel_rfl) (by kernel_rfl) rfl (by first | exact List.nil_sublist _ | exact List.Sublist.refl _ | (repeat (first | exact List.Sublist.refl _ | exact List.nil_sublist _ | refine List.Sublist.cons_cons _ ?_ | refine List.Sublist.cons _ ?_))) (OV.move rfl) rfl ?_
        refine SA.takeC (i := 10) (by repeat (first | exact hPQ | refine PanicOk.then ?_ | refine PanicOk.block ?_ | exact PanicOk.body)) rfl (by kernel_rfl) (by kernel_rfl) (by kernel_rfl) rfl (by first | exact List.nil_sublist _ | exact List.Sublist.refl _ | (repeat (first | exact List.Sublist.refl _ | exact List.nil_sublist _ | refine List.Sublist.cons_cons _ ?_ | refine List.Sublist.cons _ ?_))) (OV.move rfl) rfl ?_
        refine SA.takeC (i := 11) (by repeat (first | exact hPQ | refine PanicOk.then ?_ | refine PanicOk.block ?_ | exact PanicOk.body)) rfl (by kernel_rfl) (by kernel_rfl) (by kernel_rfl) rfl (by first | exact List.nil_sublist _ | exact List.Sublist.refl _ | (repeat (first | exact List.Sublist.refl _ | exact List.nil_sublist _ | refine List.Sublist.cons_cons _ ?_ | refine List.Sublist.cons _ ?_))) (OV.add rfl rfl (wrap_i64 (by omega) (by omega))) rfl ?_
        refine SA.takeC (i := 12) (by repeat (first | exact hPQ | refine PanicOk.then ?_ | refine PanicOk.block ?_ | exact PanicOk.body)) rfl (by kernel_rfl) (by kernel_rfl) (by kernel_rfl) rfl (by first | exact List.nil_sublist _ | exact List.Sublist.refl _ | (repeat (first | exact List.Sublist.refl _ | exact List.nil_sublist _ | refine List.Sublist.cons_cons _ ?_ | refine List.Sublist.cons _ ?_))) (OV.idx1 (first + ch) u22 se22 rfl rfl (by omega) (by omega)) rfl ?_
        refine SA.takeA (i := 13) (by repeat (first | exact hPQ | refine PanicOk.then ?_ | refine PanicOk.block ?_ | exact PanicOk.body)) rfl (by kernel_rfl) (by kernel_rfl) (by kernel_rfl) rfl (by kernel_rfl) (by kernel_rfl) (by first | exact List.nil_sublist _ | exact List.Sublist.refl _ | (repeat (first | exact List.Sublist.refl _ | exact List.nil_sublist _ | refine List.Sublist.cons_cons _ ?_ | refine List.Sublist.cons _ ?_))) (OV.loadFr 0 sc23 rfl rfl (by omega)) rfl ?_
        refine SA.takeC (i := 14) (by repeat (first | exact hPQ | refine PanicOk.then ?_ | refine PanicOk.block ?_ | exact PanicOk.body)) rfl (by kernel_rfl) (by kernel_rfl) (by kernel_rfl) rfl (by first | exact List.nil_sublist _ | exact List.Sublist.refl _ | (repeat (first | exact List.Sublist.refl _ | exact List.nil_sublist _ | refine List.Sublist.cons_cons _ ?_ | refine List.Sublist.cons _ ?_))) (OV.move rfl) rfl ?_
        refine SA.takeC (i := 15) (by repeat (first | exact hPQ | refine PanicOk.then ?_ | refine PanicOk.block ?_ | exact PanicOk.body)) rfl (by kernel_rfl) (by kernel_rfl) (by kernel_rfl) rfl (by first | exact List.nil_sublist _ | exact List.Sublist.refl _ | (repeat (first | exact List.Sublist.refl _ | exact List.nil_sublist _ | refine List.Sublist.cons_cons _ ?_ | refine List.Sublist.cons _ ?_))) (OV.move rfl) rfl ?_
        refine SA.takeC (i := 16) (by repeat (first | exact hPQ | refine PanicOk.then ?_ | refine PanicOk.block ?_ | exact PanicOk.body)) rfl (by kernel_rfl) (by kernel_rfl) (by kernel_rfl) rfl (by first | exact List.nil_sublist _ | exact List.Sublist.refl _ | (repeat (first | exact List.Sublist.refl _ | exact List.nil_sublist _ | refine List.Sublist.cons_cons _ ?_ | refine List.Sublist.cons _ ?_))) (OV.move rfl) rfl ?_
        refine SA.takeC (i := 17) (by repeat (first | exact hPQ | refine PanicOk.then ?_ | refine PanicOk.block ?_ | exact PanicOk.body)) rfl (by kernel_rfl) (by kernel_rfl) (by kernel_rfl) rfl (by first | exact List.nil_sublist _ | exact List.Sublist.refl _ | (repeat (first | exact List.Sublist.refl _ | exact List.nil_sublist _ | refine List.Sublist.cons_cons _ ?_ | refine List.Sublist.cons _ ?_))) (OV.add rfl rfl (wrap_i64 (by omega) (by omega))) rfl ?_
        refine SA.takeC (i := 18) (by repeat (first | exact hPQ | refine PanicOk.then ?_ | refine PanicOk.block ?_ | exact PanicOk.body)) rfl (by kernel_rfl) (by kernel_rfl) (by kernel_rfl) rfl (by first | exact List.nil_sublist _ | exact List.Sublist.refl _ | (repeat (first | exact List.Sublist.refl _ | exact List.nil_sublist _ | refine List.Sublist.cons_cons _ ?_ | refine List.Sublist.cons _ ?_))) (OV.idx1 (first + r) u22 se22 rfl rfl (by omega) (by omega)) rfl ?_
        refine SA.takeA (i := 19) (by repeat (first | exact hPQ | refine PanicOk.then ?_ | refine PanicOk.block ?_ | exact PanicOk.body)) rfl (by kernel_rfl) (by kernel_rfl) (by kernel_rfl) rfl (by kernel_rfl) (by kernel_rfl) (by first | exact List.nil_sublist _ | exact List.Sublist.refl _ | (repeat (first | exact List.Sublist.refl _ | exact List.nil_sublist _ | refine List.Sublist.cons_cons _ ?_ | refine List.Sublist.cons _ ?_))) (OV.loadFr 0 sc23 rfl rfl (by omega)) rfl ?_
        refine SA.takeC (i := 20) (by repeat (first | exact hPQ | refine PanicOk.then ?_ | refine PanicOk.block ?_ | exact PanicOk.body)) rfl (by kernel_rfl) (by kernel_rfl) (by kernel_rfl) rfl (by first | exact List.nil_sublist _ | exact List.Sublist.refl _ | (repeat (first | exact List.Sublist.refl _ | exact List.nil_sublist _ | refine List.Sublist.cons_cons _ ?_ | refine List.Sublist.cons _ ?_))) (OV.idx1 (first + r) u22 se22 rfl rfl (by omega) (by omega)) rfl ?_
        refine SA.all (rs := [21]) (by kernel_rfl) (by simp) (all_cons ?_ (all_nil))
        · skip
          refine SO.s rfl (OS.storeFr 0 sz23 rfl rfl rfl (by omega)) (by first | exact List.nil_sublist _ | exact List.Sublist.refl _ | (repeat (first | exact List.Sublist.refl _ | exact List.nil_sublist _ | refine List.Sublist.cons_cons _ ?_ | refine List.Sublist.cons _ ?_))) ?_
          refine SA.takeC (i := 22) (by repeat (first | exact hPQ | refine PanicOk.then ?_ | refine PanicOk.block ?_ | exact PanicOk.body)) rfl (by kernel_rfl) (by kernel_rfl) (by kernel_rfl) rfl (by first | exact List.nil_sublist _ | exact List.Sublist.refl _ | (repeat (first | exact List.Sublist.refl _ | exact List.nil_sublist _ | refine List.Sublist.cons_cons _ ?_ | refine List.Sublist.cons _ ?_))) (OV.idx1 (first + ch) u22 se22 rfl rfl (by omega) (by omega)) rfl ?_
          refine SA.all (rs := [23]) (by kernel_rfl) (by simp) (all_cons ?_ (all_nil))
          · skip
            refine SO.s rfl (OS.storeFr 0 sz23 rfl rfl rfl (by simp; omega)) (by first | exact List.nil_sublist _ | exact List.Sublist.refl _ | (repeat (first | exact List.Sublist.refl _ | exact List.nil_sublist _ | refine List.Sublist.cons_cons _ ?_ | refine List.Sublist.cons _ ?_))) ?_
            refine SA.done (by kernel_rfl) ?_
            exact SE.toSt (by repeat' (first | exact trivial | refine ⟨rfl, ?_⟩)) (List.Sublist.refl _)
      refine SC.region ?_
      refine SL.y (OV.move rfl) rfl ?_
      refine SL.y (OV.assign rfl) rfl ?_
      refine SL.nil ?_
      refine SE.nb ?_
      exact SE.roundAB ch (swp q (first + r) (first + ch)) ⟨by omega, by rw [size_swp]; exact hqs, hq⟩ (by omega) (by repeat' (first | exact trivial | refine ⟨rfl, ?_⟩)) (List.Sublist.refl _)

theorem Mm.callee1 {w0 w w' : World} {F : List Nat} {m : List Blk} {j b : Nat} {o o' : Obj} (h : Mm w0 F m w) (h' : Mm w [b] [(b, o')] w') (hj : m[j]? = some (b, o)) : Mm w0 F (m.set j (b, o')) w' := by
  refine h.callee h' (new := []) ?_ (List.nil_sublist _) (by simp) ?_ ?_
  · rw [map_set_same hj]; simp
  · intro p hp
    obtain ⟨i, hi⟩ := List.mem_iff_getElem?.1 hp
    rw [List.getElem?_set] at hi
    by_cases e : j = i
    · subst e
      rw [if_pos rfl] at hi
      split at hi
      · cases hi; exact .inr (by simp)
      · cases hi
    · rw [if_neg e] at hi
      refine .inl ⟨List.mem_of_getElem? hi, ?_⟩
      simp only [List.mem_cons, List.not_mem_nil, or_false]
      exact fun x => e (nodup_unique h.nodup hj hi x.symm)
  · intro q hq
    simp at hq
    subst hq
    exact List.mem_map.2 ⟨_, List.mem_of_getElem? hj, rfl⟩
/-- A call that writes one of the blocks. -/
theorem Sym.SL.callB {P : Program} {w0 : World} {F : List Nat} {env : Env} {m : List Blk} {ty : TypeId} {pos : String} {af : Array Edge} {Q : Exit → Act → World → Prop} {N : Nat} {ops : Array Oper} {rest : List Oper} {d f : Nat} {args : Array Operand} {ts : Array TypeId} {vs : Array Value} {v : Value} {j b : Nat} {o o' : Obj} (hf : plainFunc P f = true) (hargs : ∀ (ρ : Operand → Value), (∀ x u, ev env x = some u → ρ x = u) → args.map ρ = vs)
    (hm : m[j]? = some (b, o)) (hc : ∀ w : World, w.heap[b]? = some o → Calls P f vs w fun e w' => e = .returned v ∧ Mm w [b] [(b, o')] w') (hd : Nat.blt d N = true)
    (h : SL P ops Q rest N ((d, v) :: env) w0 F (m.set j (b, o'))) : SL P ops Q (⟨some d, .call ⟨.value (.func f), args, ts⟩, ty, pos, af, none⟩ :: rest) N env w0 F m :=
  SL.call (σ := Unit) (V := fun _ => v) (M := fun _ => m.set j (b, o')) (G := fun _ => True) hf hargs (fun w hM => (hc w (hM.block hm)).mono fun e w' ⟨he, hM'⟩ => ⟨(), he, trivial, Mm.callee1 hM hM' hm⟩) hd (fun _ _ => h)
theorem Sym.OV.quo {P : Program} {w0 : World} {F : List Nat} {env : Env} {m : List Blk} {d : Option Nat} {ty : TypeId} {pos : String} {af : Array Edge} {g : Option (Nat × Bool)} {x y : Operand} {k : IntKind} {a b : Int} {T T' : TypeId} {r : Int} (hx : ev env x = some (.int k a)) (hy : ev env y = some (.int k b)) (h0 : b ≠ 0) (hr : k.wrap (a.tdiv b) = r) : OV P env w0 F m ⟨d, .binOp .quo T x y T', ty, pos, af, g⟩ (.int k r) :=
  ⟨fun A w hE hM => by simp [execOp, hE x _ hx, hE y _ hy, eqGuard, binOp, Op.intDiv, h0, hr]⟩
section
variable {env : Env} {x0 x1 x2 x3 x4 : Operand} {v0 v1 v2 v3 v4 : Value}
theorem args3 (h0 : ev env x0 = some v0) (h1 : ev env x1 = some v1) (h2 : ev env x2 = some v2) (ρ : Operand → Value) (hρ : ∀ x u, ev env x = some u → ρ x = u) : (#[x0, x1, x2] : Array Operand).map ρ = #[v0, v1, v2] := by simp [hρ x0 _ h0, hρ x1 _ h1, hρ x2 _ h2]
theorem args4 (h0 : ev env x0 = some v0) (h1 : ev env x1 = some v1) (h2 : ev env x2 = some v2) (h3 : ev env x3 = some v3) (ρ : Operand → Value) (hρ : ∀ x u, ev env x = some u → ρ x = u) : (#[x0, x1, x2, x3] : Array Operand).map ρ = #[v0, v1, v2, v3] := by simp [hρ x0 _ h0, hρ x1 _ h1, hρ x2 _ h2, hρ x3 _ h3]
theorem args5 (h0 : ev env x0 = some v0) (h1 : ev env x1 = some v1) (h2 : ev env x2 = some v2) (h3 : ev env x3 = some v3) (h4 : ev env x4 = some v4) (ρ : Operand → Value) (hρ : ∀ x u, ev env x = some u → ρ x = u) : (#[x0, x1, x2, x3, x4] : Array Operand).map ρ = #[v0, v1, v2, v3, v4] := by simp [hρ x0 _ h0, hρ x1 _ h1, hρ x2 _ h2, hρ x3 _ h3, hρ x4 _ h4]
end
theorem pf21 : plainFunc Yba.prog 21 = true := by kernel_rfl
theorem sift_size (hi first : Nat) : ∀ (n r : Nat) (d : Array Nat), hi - r ≤ n → (siftDown Fl.lt hi first r d).size = d.size := by
  intro n
  induction n with
  | zero => intro r d h; rw [sift_stop (by omega)]
  | succ n ih =>
    intro r d h
    by_cases hlt : 2 * r + 1 < hi
    · rw [sift_step hlt]
      have hc := childOf_lt (first := first) (d := d) hlt
      split
      · rw [ih _ _ (by omega), size_swp]
      · rfl
    · rw [sift_stop (by omega)]
theorem heapBuild_size (hi first k : Nat) (d : Array Nat) : (heapBuild Fl.lt hi first k d).size = d.size := by
  induction k generalizing d with
  | zero => rfl
  | succ k ih => unfold heapBuild; rw [ih, sift_size _ _ _ _ _ (Nat.le_refl _)]

/-- heapSortOrdered -/
theorem call11 {w : World} {blk n c a b : Nat} {d : Array Nat} (hn : n ≤ 1000000) (hds : d.size = n) (hb : b ≤ n) (hab : a < b) (hw : w.heap[blk]? = some (fr d)) :
    Calls Yba.prog 11 #[sl blk n c, .int .i64 a, .int .i64 b] w fun e w' => e = .returned (.tuple #[]) ∧ Mm w [blk] [(blk, fr (heapSort Fl.lt d a b))] w' := by
  refine Calls.of_SC (args := [sl blk n c, .int .i64 a, .int .i64 b]) Yba.func11 rfl (by simp [Yba.f11]) (Mm.ofRow hw) ?_
  refine SC.seq ?_
  refine SC.region ?_
  refine SL.y (OV.move rfl) rfl ?_
  refine SL.y (OV.assign rfl) rfl ?_
  refine SL.nil ?_
  refine SC.then ?_
  refine SC.seq ?_
  refine SC.region ?_
  refine SL.y (OV.assign rfl) rfl ?_
  refine SL.nil ?_
  refine SC.then ?_
  refine SC.seq ?_
  refine SC.region ?_
  refine SL.y (OV.move rfl) rfl ?_
  refine SL.y (OV.move rfl) rfl ?_
  refine SL.y (OV.sub (r := ((b - a : Nat) : Int)) rfl rfl (by rw [wrap_i64 (by omega) (by omega)]; omega)) rfl ?_
  refine SL.y (OV.assign rfl) rfl ?_
  refine SL.nil ?_
  refine SC.then ?_
  refine SC.seq ?_
  refine SC.seq ?_
  refine SC.region ?_
  refine SL.y (OV.move rfl) rfl ?_
  refine SL.y (OV.sub rfl rfl (wrap_i64 (by omega) (by omega))) rfl ?_
  refine SL.y (OV.quo (r := (((b - a - 1) / 2 : Nat) : Int)) rfl rfl (by decide) (by rw [Int.tdiv_eq_ediv_of_nonneg (by omega), wrap_i64 (by omega) (by omega)]; omega)) rfl ?_
  refine SL.y (OV.assign rfl) rfl ?_
  refine SL.nil ?_
  refine SC.then ?_
  refine SC.block ?_
  refine SC.loopAB (fun (k : Nat) (q : Array Nat) => [(9, .int .i64 ((k : Int) - 1)), (0, sl blk n c), (6, .int .i64 a), (7, .int .i64 (0 : Nat)), (8, .int .i64 (b - a : Nat))]) (fun k q => [(blk, fr q)]) (fun k q => k ≤ b - a ∧ q.size = n ∧ heapBuild Fl.lt (b - a) a k q = heapBuild Fl.lt (b - a) a ((b - a - 1) / 2 + 1) d) (fun k q => k) ((b - a - 1) / 2 + 1) d ⟨by omega, hds, rfl⟩ ?_ (List.Sublist.refl _) ?_
  · have e : (((b - a - 1) / 2 + 1 : Nat) : Int) - 1 = (((b - a - 1) / 2 : Nat) : Int) := by omega
    rw [e]
    exact (by repeat' (first | exact trivial | refine ⟨rfl, ?_⟩))
  rintro k q ⟨hk, hqs, hq⟩
  refine SC.seq ?_
  refine SC.seq ?_
  refine SC.region ?_
  refine SL.y (OV.move rfl) rfl ?_
  refine SL.y (OV.geq rfl rfl) rfl ?_
  refine SL.nil ?_
  refine SC.then ?_
  refine SC.condP rfl (fun hge => ?_) (fun hlt => ?_)
  · obtain ⟨k', rfl⟩ : ∃ k', k = k' + 1 := ⟨k - 1, by omega⟩
    have ek : ((k' + 1 : Nat) : Int) - 1 = (k' : Int) := by omega
    refine SC.skip ?_
    refine SC.then ?_
    refine SC.seq ?_
    refine SC.block ?_
    refine SC.weaken (env' := [(9, .int .i64 k'), (0, sl blk n c), (6, .int .i64 a), (7, .int .i64 (0 : Nat)), (8, .int .i64 (b - a : Nat))]) (by rw [← ek]; exact (by repeat' (first | exact trivial | refine ⟨rfl, ?_⟩))) (List.Sublist.refl _) ?_
    refine SC.region ?_
    refine SL.y (OV.move rfl) rfl ?_
    refine SL.y (OV.move rfl) rfl ?_
    refine SL.y (OV.move rfl) rfl ?_
    refine SL.y (OV.move rfl) rfl ?_
    refine SL.callB (j := 0) pf21 (args4 rfl rfl rfl rfl) rfl (fun w h => call21 hn hqs (by omega) (by omega) h) rfl ?_
    refine SL.nil ?_
    refine SE.nb ?_
    refine SC.then ?_
    refine SC.region ?_
    refine SL.y (OV.move rfl) rfl ?_
    refine SL.y (OV.sub rfl rfl (wrap_i64 (by omega) (by omega))) rfl ?_
    refine SL.y (OV.assign rfl) rfl ?_
    refine SL.nil ?_
    exact SE.roundAB k' (siftDown Fl.lt (b - a) a k' q) ⟨by omega, by rw [sift_size _ _ _ _ _ (Nat.le_refl _)]; exact hqs, hq⟩ (by omega) (by repeat' (first | exact trivial | refine ⟨rfl, ?_⟩)) (List.Sublist.refl _)
  · have hk0 : k = 0 := by omega
    subst hk0
    refine SC.exit ?_
    refine SE.thenE (SE.thenE (SE.inBlock ?_))
    have hq0 : q = heapBuild Fl.lt (b - a) a ((b - a - 1) / 2 + 1) d := hq
    have hfin : heapSort Fl.lt d a b = heapPop Fl.lt a (b - a) q := by rw [hq0]; rfl
    rw [hfin]
    clear hq hq0 hfin
    refine SC.then ?_
    refine SC.seq ?_
    refine SC.region ?_
    refine SL.y (OV.move rfl) rfl ?_
    refine SL.y (OV.sub rfl rfl (wrap_i64 (by omega) (by omega))) rfl ?_
    refine SL.y (OV.assign rfl) rfl ?_
    refine SL.nil ?_
    refine SC.then ?_
    refine SC.block ?_
    refine SC.loopAB (fun (k : Nat) (q' : Array Nat) => [(10, .int .i64 ((k : Int) - 1)), (0, sl blk n c), (6, .int .i64 a), (7, .int .i64 (0 : Nat))]) (fun k q' => [(blk, fr q')]) (fun k q' => k ≤ b - a ∧ q'.size = n ∧ heapPop Fl.lt a k q' = heapPop Fl.lt a (b - a) q) (fun k q' => k) (b - a) q ⟨Nat.le_refl _, hqs, rfl⟩ (by repeat' (first | exact trivial | refine ⟨rfl, ?_⟩)) (List.Sublist.refl _) ?_
    rintro k q' ⟨hk', hqs', hq'⟩
    refine SC.seq ?_
    refine SC.seq ?_
    refine SC.region ?_
    refine SL.y (OV.move rfl) rfl ?_
    refine SL.y (OV.geq rfl rfl) rfl ?_
    refine SL.nil ?_
    refine SC.then ?_
    refine SC.condP rfl (fun hge => ?_) (fun hlt => ?_)
    · obtain ⟨k', rfl⟩ : ∃ k', k = k' + 1 := ⟨k - 1, by omega⟩
      have ek : ((k' + 1 : Nat) : Int) - 1 = (k' : Int) := by omega
      refine SC.skip ?_
      refine SC.then ?_
      refine SC.seq ?_
      refine SC.block ?_
      refine SC.weaken (env' := [(10, .int .i64 k'), (0, sl blk n c), (6, .int .i64 a), (7, .int .i64 (0 : Nat))]) (by rw [← ek]; exact (by repeat' (first | exact trivial | refine ⟨rfl, ?_⟩))) (List.Sublist.refl _) ?_
      refine SC.cutSt [(10, .int .i64 k'), (0, sl blk n c), (6, .int .i64 a), (7, .int .i64 (0 : Nat))] [(blk, fr (swp q' a (a + k')))] ?_ ?_
      · skip
        refine SC.held 17 [(blk, fr q')] [] mixed ?_
        refine SA.takeC (i := 0) (by repeat (first | exact hPQ | refine PanicOk.then ?_ | refine PanicOk.block ?_ | exact PanicOk.body)) rfl (by kernel_rfl) (by kernel_rfl) (by kernel_rfl) rfl (by first | exact List.nil_sublist _ | exact List.Sublist.refl _ | (repeat (first | exact List.Sublist.refl _ | exact List.nil_sublist _ | refine List.Sublist.cons_cons _ ?_ | refine List.Sublist.cons _ ?_))) (OV.move rfl) rfl ?_
        refine SA.takeC (i := 1) (by repeat (first | exact hPQ | refine PanicOk.then ?_ | refine PanicOk.block ?_ | exact PanicOk.body)) rfl (by kernel_rfl) (by kernel_rfl) (by kernel_rfl) rfl (by first | exact List.nil_sublist _ | exact List.Sublist.refl _ | (repeat (first | exact List.Sublist.refl _ | exact List.nil_sublist _ | refine List.Sublist.cons_cons _ ?_ | refine List.Sublist.cons _ ?_))) (OV.move rfl) rfl ?_
        refine SA.takeC (i := 2) (by repeat (first | exact hPQ | refine PanicOk.then ?_ | refine PanicOk.block ?_ | exact PanicOk.body)) rfl (by kernel_rfl) (by kernel_rfl) (by kernel_rfl) rfl (by first | exact List.nil_sublist _ | exact List.Sublist.refl _ | (repeat (first | exact List.Sublist.refl _ | exact List.nil_sublist _ | refine List.Sublist.cons_cons _ ?_ | refine List.Sublist.cons _ ?_))) (OV.move rfl) rfl ?_
        refine SA.takeC (i := 3) (by repeat (first | exact hPQ | refine PanicOk.then ?_ | refine PanicOk.block ?_ | exact PanicOk.body)) rfl (by kernel_rfl) (by kernel_rfl) (by kernel_rfl) rfl (by first | exact List.nil_sublist _ | exact List.Sublist.refl _ | (repeat (first | exact List.Sublist.refl _ | exact List.nil_sublist _ | refine List.Sublist.cons_cons _ ?_ | refine List.Sublist.cons _ ?_))) (OV.move rfl) rfl ?_
        refine SA.takeC (i := 4) (by repeat (first | exact hPQ | refine PanicOk.then ?_ | refine PanicOk.block ?_ | exact PanicOk.body)) rfl (by kernel_rfl) (by kernel_rfl) (by kernel_rfl) rfl (by first | exact List.nil_sublist _ | exact List.Sublist.refl _ | (repeat (first | exact List.Sublist.refl _ | exact List.nil_sublist _ | refine List.Sublist.cons_cons _ ?_ | refine List.Sublist.cons _ ?_))) (OV.move rfl) rfl ?_
        refine SA.takeC (i := 5) (by repeat (first | exact hPQ | refine PanicOk.then ?_ | refine PanicOk.block ?_ | exact PanicOk.body)) rfl (by kernel_rfl) (by kernel_rfl) (by kernel_rfl) rfl (by first | exact List.nil_sublist _ | exact List.Sublist.refl _ | (repeat (first | exact List.Sublist.refl _ | exact List.nil_sublist _ | refine List.Sublist.cons_cons _ ?_ | refine List.Sublist.cons _ ?_))) (OV.add rfl rfl (wrap_i64 (by omega) (by omega))) rfl ?_
        refine SA.takeC (i := 6) (by repeat (first | exact hPQ | refine PanicOk.then ?_ | refine PanicOk.block ?_ | exact PanicOk.body)) rfl (by kernel_rfl) (by kernel_rfl) (by kernel_rfl) rfl (by first | exact List.nil_sublist _ | exact List.Sublist.refl _ | (repeat (first | exact List.Sublist.refl _ | exact List.nil_sublist _ | refine List.Sublist.cons_cons _ ?_ | refine List.Sublist.cons _ ?_))) (OV.move rfl) rfl ?_
        refine SA.takeC (i := 7) (by repeat (first | exact hPQ | refine PanicOk.then ?_ | refine PanicOk.block ?_ | exact PanicOk.body)) rfl (by kernel_rfl) (by kernel_rfl) (by kernel_rfl) rfl (by first | exact List.nil_sublist _ | exact List.Sublist.refl _ | (repeat (first | exact List.Sublist.refl _ | exact List.nil_sublist _ | refine List.Sublist.cons_cons _ ?_ | refine List.Sublist.cons _ ?_))) (OV.move rfl) rfl ?_
        refine SA.takeC (i := 8) (by repeat (first | exact hPQ | refine PanicOk.then ?_ | refine PanicOk.block ?_ | exact PanicOk.body)) rfl (by kernel_rfl) (by kernel_rfl) (by kernel_rfl) rfl (by first | exact List.nil_sublist _ | exact List.Sublist.refl _ | (repeat (first | exact List.Sublist.refl _ | exact List.nil_sublist _ | refine List.Sublist.cons_cons _ ?_ | refine List.Sublist.cons _ ?_))) (OV.move rfl) rfl ?_
        refine SA.takeC (i := 9) (by repeat (first | exact hPQ | refine PanicOk.then ?_ | refine PanicOk.block ?_ | exact PanicOk.body)) rfl (by kernel_rfl) (by kernel_rfl) (by kernel_rfl) rfl (by first | exact List.nil_sublist _ | exact List.Sublist.refl _ | (repeat (first | exact List.Sublist.refl _ | exact List.nil_sublist _ | refine List.Sublist.cons_cons _ ?_ | refine List.Sublist.cons _ ?_))) (OV.add rfl rfl (wrap_i64 (by omega) (by omega))) rfl ?_
        refine SA.takeC (i := 10) (by repeat (first | exact hPQ | refine PanicOk.then ?_ | refine PanicOk.block ?_ | exact PanicOk.body)) rfl (by kernel_rfl) (by kernel_rfl) (by kernel_rfl) rfl (by first | exact List.nil_sublist _ | exact List.Sublist.refl _ | (repeat (first | exact List.Sublist.refl _ | exact List.nil_sublist _ | refine List.Sublist.cons_cons _ ?_ | refine List.Sublist.cons _ ?_))) (OV.idx1 (a + k') u22 se22 rfl rfl (by omega) (by omega)) rfl ?_
        refine SA.takeA (i := 11) (by repeat (first | exact hPQ | refine PanicOk.then ?_ | refine PanicOk.block ?_ | exact PanicOk.body)) rfl (by kernel_rfl) (by kernel_rfl) (by kernel_rfl) rfl (by kernel_rfl) (by kernel_rfl) (by first | exact List.nil_sublist _ | exact List.Sublist.refl _ | (repeat (first | exact List.Sublist.refl _ | exact List.nil_sublist _ | refine List.Sublist.cons_cons _ ?_ | refine List.Sublist.cons _ ?_))) (OV.loadFr 0 sc23 rfl rfl (by omega)) rfl ?_
        refine SA.takeC (i := 12) (by repeat (first | exact hPQ | refine PanicOk.then ?_ | refine PanicOk.block ?_ | exact PanicOk.body)) rfl (by kernel_rfl) (by kernel_rfl) (by kernel_rfl) rfl (by first | exact List.nil_sublist _ | exact List.Sublist.refl _ | (repeat (first | exact List.Sublist.refl _ | exact List.nil_sublist _ | refine List.Sublist.cons_cons _ ?_ | refine List.Sublist.cons _ ?_))) (OV.move rfl) rfl ?_
        refine SA.takeC (i := 13) (by repeat (first | exact hPQ | refine PanicOk.then ?_ | refine PanicOk.block ?_ | exact PanicOk.body)) rfl (by kernel_rfl) (by kernel_rfl) (by kernel_rfl) rfl (by first | exact List.nil_sublist _ | exact List.Sublist.refl _ | (repeat (first | exact List.Sublist.refl _ | exact List.nil_sublist _ | refine List.Sublist.cons_cons _ ?_ | refine List.Sublist.cons _ ?_))) (OV.move rfl) rfl ?_
        refine SA.takeC (i := 14) (by repeat (first | exact hPQ | refine PanicOk.then ?_ | refine PanicOk.block ?_ | exact PanicOk.body)) rfl (by kernel_rfl) (by kernel_rfl) (by kernel_rfl) rfl (by first | exact List.nil_sublist _ | exact List.Sublist.refl _ | (repeat (first | exact List.Sublist.refl _ | exact List.nil_sublist _ | refine List.Sublist.cons_cons _ ?_ | refine List.Sublist.cons _ ?_))) (OV.idx1 a u22 se22 rfl rfl (by omega) (by omega)) rfl ?_
        refine SA.takeA (i := 15) (by repeat (first | exact hPQ | refine PanicOk.then ?_ | refine PanicOk.block ?_ | exact PanicOk.body)) rfl (by kernel_rfl) (by kernel_rfl) (by kernel_rfl) rfl (by kernel_rfl) (by kernel_rfl) (by first | exact List.nil_sublist _ | exact List.Sublist.refl _ | (repeat (first | exact List.Sublist.refl _ | exact List.nil_sublist _ | refine List.Sublist.cons_cons _ ?_ | refine List.Sublist.cons _ ?_))) (OV.loadFr 0 sc23 rfl rfl (by omega)) rfl ?_
        refine SA.takeC (i := 16) (by repeat (first | exact hPQ | refine PanicOk.then ?_ | refine PanicOk.block ?_ | exact PanicOk.body)) rfl (by kernel_rfl) (by kernel_rfl) (by kernel_rfl) rfl (by first | exact List.nil_sublist _ | exact List.Sublist.refl _ | (repeat (first | exact List.Sublist.refl _ | exact List.nil_sublist _ | refine List.Sublist.cons_cons _ ?_ | refine List.Sublist.cons _ ?_))) (OV.idx1 a u22 se22 rfl rfl (by omega) (by omega)) rfl ?_
        refine SA.all (rs := [17]) (by kernel_rfl) (by simp) (all_cons ?_ (all_nil))
        · skip
          refine SO.s rfl (OS.storeFr 0 sz23 rfl rfl rfl (by omega)) (by first | exact List.nil_sublist _ | exact List.Sublist.refl _ | (repeat (first | exact List.Sublist.refl _ | exact List.nil_sublist _ | refine List.Sublist.cons_cons _ ?_ | refine List.Sublist.cons _ ?_))) ?_
          refine SA.takeC (i := 18) (by repeat (first | exact hPQ | refine PanicOk.then ?_ | refine PanicOk.block ?_ | exact PanicOk.body)) rfl (by kernel_rfl) (by kernel_rfl) (by kernel_rfl) rfl (by first | exact List.nil_sublist _ | exact List.Sublist.refl _ | (repeat (first | exact List.Sublist.refl _ | exact List.nil_sublist _ | refine List.Sublist.cons_cons _ ?_ | refine List.Sublist.cons _ ?_))) (OV.idx1 (a + k') u22 se22 rfl rfl (by omega) (by omega)) rfl ?_
          refine SA.all (rs := [19]) (by kernel_rfl) (by simp) (all_cons ?_ (all_nil))
          · skip
            refine SO.s rfl (OS.storeFr 0 sz23 rfl rfl rfl (by simp; omega)) (by first | exact List.nil_sublist _ | exact List.Sublist.refl _ | (repeat (first | exact List.Sublist.refl _ | exact List.nil_sublist _ | refine List.Sublist.cons_cons _ ?_ | refine List.Sublist.cons _ ?_))) ?_
            refine SA.done (by kernel_rfl) ?_
            exact SE.toSt (by repeat' (first | exact trivial | refine ⟨rfl, ?_⟩)) (List.Sublist.refl _)
      refine SC.region ?_
      refine SL.y (OV.move rfl) rfl ?_
      refine SL.y (OV.move rfl) rfl ?_
      refine SL.y (OV.move rfl) rfl ?_
      refine SL.y (OV.move rfl) rfl ?_
      refine SL.callB (j := 0) pf21 (args4 rfl rfl rfl rfl) rfl (fun w h => call21 (lo := 0) hn (by rw [size_swp]; exact hqs') (by omega) (by omega) h) rfl ?_
      refine SL.nil ?_
      refine SE.nb ?_
      refine SC.then ?_
      refine SC.region ?_
      refine SL.y (OV.move rfl) rfl ?_
      refine SL.y (OV.sub rfl rfl (wrap_i64 (by omega) (by omega))) rfl ?_
      refine SL.y (OV.assign rfl) rfl ?_
      refine SL.nil ?_
      exact SE.roundAB k' (siftDown Fl.lt k' a 0 (swp q' a (a + k'))) ⟨by omega, by rw [sift_size _ _ _ _ _ (Nat.le_refl _), size_swp]; exact hqs', hq'⟩ (by omega) (by repeat' (first | exact trivial | refine ⟨rfl, ?_⟩)) (List.Sublist.refl _)
    · have hk0 : k = 0 := by omega
      subst hk0
      refine SC.exit ?_
      refine SE.thenE (SE.thenE (SE.inBlock ?_))
      have e : q' = heapPop Fl.lt a (b - a) q := hq'
      rw [← e]
      exact SE.end0 Yba.results11 (fun w' hM => ⟨rfl, hM⟩)
end Go.Proofs.Ybulkdrfa
