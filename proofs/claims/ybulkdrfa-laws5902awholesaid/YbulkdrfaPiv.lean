import Derived.Test.YbulkdrfaHeap
namespace Go.Proofs.Ybulkdrfa
open Go Go.RowKit Go.Proofs.Ybulkdrfa.Sym Go.Sort
set_option linter.unusedVariables false
set_option linter.unusedSimpArgs false
set_option maxRecDepth 100000

theorem rev_step {i j : Nat} {d : Array Nat} (h : i < j) : reverseLoop i j d = reverseLoop (i + 1) (j - 1) (swp d i j) := by
  rw [reverseLoop, if_pos h]
theorem rev_stop {i j : Nat} {d : Array Nat} (h : ¬ i < j) : reverseLoop i j d = d := by
  rw [reverseLoop, if_neg h]
/-- reverseRangeOrdered -/
theorem call14 {w : World} {blk n c a b : Nat} {d : Array Nat} (hn : n ≤ 1000000) (hds : d.size = n) (hb : b ≤ n) (hab : a < b) (hw : w.heap[blk]? = some (fr d)) :
    Calls Yba.prog 14 #[sl blk n c, .int .i64 a, .int .i64 b] w fun e w' => e = .returned (.tuple #[]) ∧ Mm w [blk] [(blk, fr (reverseRange d a b))] w' := by
  refine Calls.of_SC (args := [sl blk n c, .int .i64 a, .int .i64 b]) Yba.func14 rfl (by simp [Yba.f14]) (Mm.ofRow hw) ?_
  refine SC.seq ?_
  refine SC.region ?_
  refine SL.y (OV.move rfl) rfl ?_
  refine SL.y (OV.assign rfl) rfl ?_
  refine SL.nil ?_
  refine SC.then ?_
  refine SC.seq ?_
  refine SC.region ?_
  refine SL.y (OV.move rfl) rfl ?_
  refine SL.y (OV.sub (r := ((b - 1 : Nat) : Int)) rfl rfl (by rw [wrap_i64 (by omega) (by omega)]; omega)) rfl ?_
  refine SL.y (OV.assign rfl) rfl ?_
  refine SL.nil ?_
  refine SC.then ?_
  refine SC.block ?_
  refine SC.loopAB (fun (s : Nat × Nat) (q : Array Nat) => [(6, .int .i64 s.1), (7, .int .i64 s.2), (0, sl blk n c)]) (fun s q => [(blk, fr q)]) (fun s q => s.2 < n ∧ q.size = n ∧ reverseLoop s.1 s.2 q = reverseRange d a b) (fun s q => s.2 - s.1) (a, b - 1) d ⟨by show b - 1 < n; omega, hds, rfl⟩ (by repeat' (first | exact trivial | refine ⟨rfl, ?_⟩)) (List.Sublist.refl _) ?_
  rintro ⟨i, j⟩ q ⟨hj, hqs, hq⟩
  dsimp only at hj hq ⊢
  refine SC.seq ?_
  refine SC.seq ?_
  refine SC.region ?_
  refine SL.y (OV.move rfl) rfl ?_
  refine SL.y (OV.move rfl) rfl ?_
  refine SL.y (OV.lss rfl rfl) rfl ?_
  refine SL.nil ?_
  refine SC.then ?_
  refine SC.condP rfl (fun hlt => ?_) (fun hge => ?_)
  · have hij : i < j := by omega
    refine SC.skip ?_
    refine SC.then ?_
    refine SC.block ?_
    refine SC.cutSt [(6, .int .i64 i), (7, .int .i64 j), (0, sl blk n c)] [(blk, fr (swp q i j))] ?_ ?_
    · skip
      refine SC.held 13 [(blk, fr q)] [] mixed ?_
      refine SA.takeC (i := 0) (by repeat (first | exact hPQ | refine PanicOk.then ?_ | refine PanicOk.block ?_ | exact PanicOk.body)) rfl (by kernel_rfl) (by kernel_rfl) (by kernel_rfl) rfl (by first | exact List.nil_sublist _ | exact List.Sublist.refl _ | (repeat (first | exact List.Sublist.refl _ | exact List.nil_sublist _ | refine List.Sublist.cons_cons _ ?_ | refine List.Sublist.cons _ ?_))) (OV.move rfl) rfl ?_
      refine SA.takeC (i := 1) (by repeat (first | exact hPQ | refine PanicOk.then ?_ | refine PanicOk.block ?_ | exact PanicOk.body)) rfl (by kernel_rfl) (by kernel_rfl) (by kernel_rfl) rfl (by first | exact List.nil_sublist _ | exact List.Sublist.refl _ | (repeat (first | exact List.Sublist.refl _ | exact List.nil_sublist _ | refine List.Sublist.cons_cons _ ?_ | refine List.Sublist.cons _ ?_))) (OV.move rfl) rfl ?_
      refine SA.takeC (i := 2) (by repeat (first | exact hPQ | refine PanicOk.then ?_ | refine PanicOk.block ?_ | exact PanicOk.body)) rfl (by kernel_rfl) (by kernel_rfl) (by kernel_rfl) rfl (by first | exact List.nil_sublist _ | exact List.Sublist.refl _ | (repeat (first | exact List.Sublist.refl _ | exact List.nil_sublist _ | refine List.Sublist.cons_cons _ ?_ | refine List.Sublist.cons _ ?_))) (OV.move rfl) rfl ?_
      refine SA.takeC (i := 3) (by repeat (first | exact hPQ | refine PanicOk.then ?_ | refine PanicOk.block ?_ | exact PanicOk.body)) rfl (by kernel_rfl) (by kernel_rfl) (by kernel_rfl) rfl (by first | exact List.nil_sublist _ | exact List.Sublist.refl _ | (repeat (first | exact List.Sublist.refl _ | exact List.nil_sublist _ | refine List.Sublist.cons_cons _ ?_ | refine List.Sublist.cons _ ?_))) (OV.move rfl) rfl ?_
      refine SA.takeC (i := 4) (by repeat (first | exact hPQ | refine PanicOk.then ?_ | refine PanicOk.block ?_ | exact PanicOk.body)) rfl (by kernel_rfl) (by kernel_rfl) (by kernel_rfl) rfl (by first | exact List.nil_sublist _ | exact List.Sublist.refl _ | (repeat (first | exact List.Sublist.refl _ | exact List.nil_sublist _ | refine List.Sublist.cons_cons _ ?_ | refine List.Sublist.cons _ ?_))) (OV.move rfl) rfl ?_
      refine SA.takeC (i := 5) (by repeat (first | exact hPQ | refine PanicOk.then ?_ | refine PanicOk.block ?_ | exact PanicOk.body)) rfl (by kernel_rfl) (by kernel_rfl) (by kernel_rfl) rfl (by first | exact List.nil_sublist _ | exact List.Sublist.refl _ | (repeat (first | exact List.Sublist.refl _ | exact List.nil_sublist _ | refine List.Sublist.cons_cons _ ?_ | refine List.Sublist.cons _ ?_))) (OV.move rfl) rfl ?_
      refine SA.takeC (i := 6) (by repeat (first | exact hPQ | refine PanicOk.then ?_ | refine PanicOk.block ?_ | exact PanicOk.body)) rfl (by kernel_rfl) (by kernel_rfl) (by kernel_rfl) rfl (by first | exact List.nil_sublist _ | exact List.Sublist.refl _ | (repeat (first | exact List.Sublist.refl _ | exact List.nil_sublist _ | refine List.Sublist.cons_cons _ ?_ | refine List.Sublist.cons _ ?_))) (OV.idx1 j u22 se22 rfl rfl rfl (by omega)) rfl ?_
      refine SA.takeA (i := 7) (by repeat (first | exact hPQ | refine PanicOk.then ?_ | refine PanicOk.block ?_ | exact PanicOk.body)) rfl (by kernel_rfl) (by kernel_rfl) (by kernel_rfl) rfl (by kernel_rfl) (by kernel_rfl) (by first | exact List.nil_sublist _ | exact List.Sublist.refl _ | (repeat (first | exact List.Sublist.refl _ | exact List.nil_sublist _ | refine List.Sublist.cons_cons _ ?_ | refine List.Sublist.cons _ ?_))) (OV.loadFr 0 sc23 rfl rfl (by omega)) rfl ?_
      refine SA.takeC (i := 8) (by repeat (first | exact hPQ | refine PanicOk.then ?_ | refine PanicOk.block ?_ | exact PanicOk.body)) rfl (by kernel_rfl) (by kernel_rfl) (by kernel_rfl) rfl (by first | exact List.nil_sublist _ | exact List.Sublist.refl _ | (repeat (first | exact List.Sublist.refl _ | exact List.nil_sublist _ | refine List.Sublist.cons_cons _ ?_ | refine List.Sublist.cons _ ?_))) (OV.move rfl) rfl ?_
      refine SA.takeC (i := 9) (by repeat (first | exact hPQ | refine PanicOk.then ?_ | refine PanicOk.block ?_ | exact PanicOk.body)) rfl (by kernel_rfl) (by kernel_rfl) (by kernel_rfl) rfl (by first | exact List.nil_sublist _ | exact List.Sublist.refl _ | (repeat (first | exact List.Sublist.refl _ | exact List.nil_sublist _ | refine List.Sublist.cons_cons _ ?_ | refine List.Sublist.cons _ ?_))) (OV.move rfl) rfl ?_
      refine SA.takeC (i := 10) (by repeat (first | exact hPQ | refine PanicOk.then ?_ | refine PanicOk.block ?_ | exact PanicOk.body)) rfl (by kernel_rfl) (by kernel_rfl) (by kernel_rfl) rfl (by first | exact List.nil_sublist _ | exact List.Sublist.refl _ | (repeat (first | exact List.Sublist.refl _ | exact List.nil_sublist _ | refine List.Sublist.cons_cons _ ?_ | refine List.Sublist.cons _ ?_))) (OV.idx1 i u22 se22 rfl rfl rfl (by omega)) rfl ?_
      refine SA.takeA (i := 11) (by repeat (first | exact hPQ | refine PanicOk.then ?_ | refine PanicOk.block ?_ | exact PanicOk.body)) rfl (by kernel_rfl) (by kernel_rfl) (by kernel_rfl) rfl (by kernel_rfl) (by kernel_rfl) (by first | exact List.nil_sublist _ | exact List.Sublist.refl _ | (repeat (first | exact List.Sublist.refl _ | exact List.nil_sublist _ | refine List.Sublist.cons_cons _ ?_ | refine List.Sublist.cons _ ?_))) (OV.loadFr 0 sc23 rfl rfl (by omega)) rfl ?_
      refine SA.takeC (i := 12) (by repeat (first | exact hPQ | refine PanicOk.then ?_ | refine PanicOk.block ?_ | exact PanicOk.body)) rfl (by kernel_rfl) (by kernel_rfl) (by kernel_rfl) rfl (by first | exact List.nil_sublist _ | exact List.Sublist.refl _ | (repeat (first | exact List.Sublist.refl _ | exact List.nil_sublist _ | refine List.Sublist.cons_cons _ ?_ | refine List.Sublist.cons _ ?_))) (OV.idx1 i u22 se22 rfl rfl rfl (by omega)) rfl ?_
      refine SA.all (rs := [13]) (by kernel_rfl) (by simp) (all_cons ?_ (all_nil))
      · skip
        refine SO.s rfl (OS.storeFr 0 sz23 rfl rfl rfl (by omega)) (by first | exact List.nil_sublist _ | exact List.Sublist.refl _ | (repeat (first | exact List.Sublist.refl _ | exact List.nil_sublist _ | refine List.Sublist.cons_cons _ ?_ | refine List.Sublist.cons _ ?_))) ?_
        refine SA.takeC (i := 14) (by repeat (first | exact hPQ | refine PanicOk.then ?_ | refine PanicOk.block ?_ | exact PanicOk.body)) rfl (by kernel_rfl) (by kernel_rfl) (by kernel_rfl) rfl (by first | exact List.nil_sublist _ | exact List.Sublist.refl _ | (repeat (first | exact List.Sublist.refl _ | exact List.nil_sublist _ | refine List.Sublist.cons_cons _ ?_ | refine List.Sublist.cons _ ?_))) (OV.idx1 j u22 se22 rfl rfl rfl (by omega)) rfl ?_
        refine SA.all (rs := [15]) (by kernel_rfl) (by simp) (all_cons ?_ (all_nil))
        · skip
          refine SO.s rfl (OS.storeFr 0 sz23 rfl rfl rfl (by simp; omega)) (by first | exact List.nil_sublist _ | exact List.Sublist.refl _ | (repeat (first | exact List.Sublist.refl _ | exact List.nil_sublist _ | refine List.Sublist.cons_cons _ ?_ | refine List.Sublist.cons _ ?_))) ?_
          refine SA.done (by kernel_rfl) ?_
          exact SE.toSt (by repeat' (first | exact trivial | refine ⟨rfl, ?_⟩)) (List.Sublist.refl _)
    refine SC.seq ?_
    refine SC.region ?_
    refine SL.y (OV.move rfl) rfl ?_
    refine SL.y (OV.add rfl rfl (wrap_i64 (by omega) (by omega))) rfl ?_
    refine SL.y (OV.assign rfl) rfl ?_
    refine SL.nil ?_
    refine SC.then ?_
    refine SC.region ?_
    refine SL.y (OV.move rfl) rfl ?_
    refine SL.y (OV.sub (r := ((j - 1 : Nat) : Int)) rfl rfl (by rw [wrap_i64 (by omega) (by omega)]; omega)) rfl ?_
    refine SL.y (OV.assign rfl) rfl ?_
    refine SL.nil ?_
    refine SE.nb ?_
    exact SE.roundAB (i + 1, j - 1) (swp q i j) ⟨by show j - 1 < n; omega, by rw [size_swp]; exact hqs, by rw [← hq, rev_step hij]⟩ (by show j - 1 - (i + 1) < j - i; omega) (by repeat' (first | exact trivial | refine ⟨rfl, ?_⟩)) (List.Sublist.refl _)
  · refine SC.exit ?_
    refine SE.thenE (SE.thenE (SE.inBlock ?_))
    rw [rev_stop (by omega)] at hq
    rw [hq]
    exact SE.end0 Yba.results14 (fun w' hM => ⟨rfl, hM⟩)

/-! ### The pivot -/
/-- order2Ordered: it writes the count of swaps. -/
theorem call27 {w : World} {blk n c a b bs sw : Nat} {d : Array Nat} (hn : n ≤ 1000000) (hds : d.size = n) (ha : a < n) (hb : b < n) (hs : sw ≤ 1000) (hne : bs ≠ blk) (hw : w.heap[blk]? = some (fr d)) (hws : w.heap[bs]? = some (row 3 [.int .i64 sw])) :
    Calls Yba.prog 27 #[sl blk n c, .int .i64 a, .int .i64 b, .pointer (some ⟨bs, 0, none⟩)] w fun e w' => e = .returned (.tuple #[.int .i64 (order2 Fl.lt d a b sw).1, .int .i64 (order2 Fl.lt d a b sw).2.1]) ∧ Mm w [bs] [(bs, row 3 [.int .i64 (order2 Fl.lt d a b sw).2.2])] w' := by
  have hcell : ∀ i, i < n → w.cell? ⟨blk, i, none⟩ = some (.float .f64 d[i]!) := fun i hi => by
    have hw' : w.heap[blk]? = some (.cells (fcs d).toArray 23 (0, 0)) := hw
    have := fcs_at (d := d) (i := i) (by omega)
    simp [World.cell?, hw', this]
  refine Calls.of_SC (args := [sl blk n c, .int .i64 a, .int .i64 b, .pointer (some ⟨bs, 0, none⟩)]) Yba.func27 rfl (by simp [Yba.f27]) (Mm.ofRow hws) ?_
  refine SC.seq ?_
  refine SC.region ?_
  refine SL.y (OV.assign rfl) rfl ?_
  refine SL.y (OV.assign rfl) rfl ?_
  refine SL.nil ?_
  refine SC.then ?_
  refine SC.seq ?_
  refine SC.seq ?_
  refine SC.quiet mixed (by kernel_rfl) ?_
  refine SQ.y (OV.move rfl) rfl ?_
  refine SQ.y (OV.move rfl) rfl ?_
  refine SQ.y (OV.idx1 b u22 se22 rfl rfl rfl (by omega)) rfl ?_
  refine SQ.y (OV.loadOld sc23 rfl (by simp; exact fun e => hne e.symm) (hcell b hb)) rfl ?_
  refine SQ.y (OV.move rfl) rfl ?_
  refine SQ.y (OV.move rfl) rfl ?_
  refine SQ.y (OV.idx1 a u22 se22 rfl rfl rfl (by omega)) rfl ?_
  refine SQ.y (OV.loadOld sc23 rfl (by simp; exact fun e => hne e.symm) (hcell a ha)) rfl ?_
  refine SQ.callQ pf16 (args2 rfl rfl) (fun w hM => call16 _ _ w) rfl ?_
  refine SQ.nil ?_
  refine SC.then ?_
  unfold order2
  refine SC.cond rfl (fun e => ?_) (fun e => ?_)
  · rw [if_pos e]
    refine SC.seq ?_
    refine SC.region ?_
    refine SL.y (OV.move rfl) rfl ?_
    refine SL.y (OV.nilCheck rfl) rfl ?_
    refine SL.y (OV.load 0 sc3 rfl rfl rfl) rfl ?_
    refine SL.y (OV.add (r := ((sw + 1 : Nat) : Int)) rfl rfl (by rw [wrap_i64 (by omega) (by omega)]; omega)) rfl ?_
    refine SL.y (OV.nilCheck rfl) rfl ?_
    refine SL.s (OS.store1 0 sz3 rfl rfl rfl rfl (by simp)) ?_
    refine SL.nil ?_
    refine SC.then ?_
    refine SC.seq ?_
    refine SC.region ?_
    refine SL.y (OV.move rfl) rfl ?_
    refine SL.y (OV.move rfl) rfl ?_
    refine SL.y (OV.assign rfl) rfl ?_
    refine SL.y (OV.assign rfl) rfl ?_
    refine SL.nil ?_
    refine SC.then ?_
    refine SC.ret ?_
    refine SE.thenR ?_
    exact SE.ret2 Yba.results27 rfl rfl (fun w' hM => ⟨rfl, hM⟩)
  · rw [if_neg (by rw [e]; simp)]
    refine SC.skip ?_
    refine SC.then ?_
    refine SC.seq ?_
    refine SC.region ?_
    refine SL.y (OV.move rfl) rfl ?_
    refine SL.y (OV.move rfl) rfl ?_
    refine SL.y (OV.assign rfl) rfl ?_
    refine SL.y (OV.assign rfl) rfl ?_
    refine SL.nil ?_
    refine SC.then ?_
    refine SC.ret ?_
    exact SE.ret2 Yba.results27 rfl rfl (fun w' hM => ⟨rfl, hM⟩)

/-- A call that writes one of the blocks, and reads others. -/
theorem Sym.SL.callM {P : Program} {w0 : World} {F : List Nat} {env : Env} {m : List Blk} {ty : TypeId} {pos : String} {af : Array Edge} {Q : Exit → Act → World → Prop} {N : Nat} {ops : Array Oper} {rest : List Oper} {d f : Nat} {args : Array Operand} {ts : Array TypeId} {vs : Array Value} {v : Value} {j b : Nat} {o o' : Obj} (hf : plainFunc P f = true) (hargs : ∀ (ρ : Operand → Value), (∀ x u, ev env x = some u → ρ x = u) → args.map ρ = vs)
    (hm : m[j]? = some (b, o)) (hc : ∀ w : World, Mm w0 F m w → Calls P f vs w fun e w' => e = .returned v ∧ Mm w [b] [(b, o')] w') (hd : Nat.blt d N = true)
    (h : SL P ops Q rest N ((d, v) :: env) w0 F (m.set j (b, o'))) : SL P ops Q (⟨some d, .call ⟨.value (.func f), args, ts⟩, ty, pos, af, none⟩ :: rest) N env w0 F m :=
  SL.call (σ := Unit) (V := fun _ => v) (M := fun _ => m.set j (b, o')) (G := fun _ => True) hf hargs (fun w hM => (hc w hM).mono fun e w' ⟨he, hM'⟩ => ⟨(), he, trivial, Mm.callee1 hM hM' hm⟩) hd (fun _ _ => h)
theorem Mm.oldBlk {w0 w : World} {F : List Nat} {m : List Blk} {b : Nat} {o : Obj} (hM : Mm w0 F m w) (hF : b ∉ F) (h : w0.heap[b]? = some o) : w.heap[b]? = some o := by
  rw [hM.old b (Array.getElem?_eq_some_iff.1 h).1 hF]; exact h
theorem order2_lt {d : Array Nat} {a b sw n : Nat} (ha : a < n) (hb : b < n) : (order2 Fl.lt d a b sw).1 < n ∧ (order2 Fl.lt d a b sw).2.1 < n ∧ (order2 Fl.lt d a b sw).2.2 ≤ sw + 1 := by
  unfold order2
  split
  · exact ⟨hb, ha, Nat.le_refl _⟩
  · exact ⟨ha, hb, Nat.le_succ _⟩
theorem pf27 : plainFunc Yba.prog 27 = true := by kernel_rfl
/-- medianOrdered -/
theorem call25 {w : World} {blk n c a b e bs sw : Nat} {d : Array Nat} (hn : n ≤ 1000000) (hds : d.size = n) (ha : a < n) (hb : b < n) (he : e < n) (hs : sw ≤ 100) (hne : bs ≠ blk) (hw : w.heap[blk]? = some (fr d)) (hws : w.heap[bs]? = some (row 3 [.int .i64 sw])) :
    Calls Yba.prog 25 #[sl blk n c, .int .i64 a, .int .i64 b, .int .i64 e, .pointer (some ⟨bs, 0, none⟩)] w fun e' w' => e' = .returned (.int .i64 (median Fl.lt d a b e sw).1) ∧ Mm w [bs] [(bs, row 3 [.int .i64 (median Fl.lt d a b e sw).2])] w' := by
  have hnb : blk ∉ [bs] := by simp; exact fun x => hne x.symm
  refine Calls.of_SC (args := [sl blk n c, .int .i64 a, .int .i64 b, .int .i64 e, .pointer (some ⟨bs, 0, none⟩)]) Yba.func25 rfl (by simp [Yba.f25]) (Mm.ofRow hws) ?_
  have b1 := order2_lt (d := d) (sw := sw) ha hb
  have hmed : median Fl.lt d a b e sw = ((order2 Fl.lt d (order2 Fl.lt d a b sw).1 (order2 Fl.lt d (order2 Fl.lt d a b sw).2.1 e (order2 Fl.lt d a b sw).2.2).1 (order2 Fl.lt d (order2 Fl.lt d a b sw).2.1 e (order2 Fl.lt d a b sw).2.2).2.2).2.1, (order2 Fl.lt d (order2 Fl.lt d a b sw).1 (order2 Fl.lt d (order2 Fl.lt d a b sw).2.1 e (order2 Fl.lt d a b sw).2.2).1 (order2 Fl.lt d (order2 Fl.lt d a b sw).2.1 e (order2 Fl.lt d a b sw).2.2).2.2).2.2) := rfl
  rw [hmed]
  have b2 := order2_lt (d := d) (sw := (order2 Fl.lt d a b sw).2.2) b1.2.1 he
  generalize hr1 : order2 Fl.lt d a b sw = r1 at *
  generalize hr2 : order2 Fl.lt d r1.2.1 e r1.2.2 = r2 at *
  have b3 := order2_lt (d := d) (sw := r2.2.2) b1.1 b2.1
  refine SC.seq ?_
  refine SC.region ?_
  refine SL.y (OV.assign rfl) rfl ?_
  refine SL.nil ?_
  refine SC.then ?_
  refine SC.seq ?_
  refine SC.region ?_
  refine SL.y (OV.move rfl) rfl ?_
  refine SL.y (OV.move rfl) rfl ?_
  refine SL.y (OV.move rfl) rfl ?_
  refine SL.y (OV.move rfl) rfl ?_
  refine SL.callM (j := 0) pf27 (args4 rfl rfl rfl rfl) rfl (fun w1 hM => hr1 ▸ call27 hn hds ha hb (by omega) hne (Mm.oldBlk hM hnb hw) (hM.block (j := 0) rfl)) rfl ?_
  refine SL.y (OV.move rfl) rfl ?_
  refine SL.y (OV.extract rfl rfl) rfl ?_
  refine SL.y (OV.extract rfl rfl) rfl ?_
  refine SL.y (OV.assign rfl) rfl ?_
  refine SL.y (OV.assign rfl) rfl ?_
  refine SL.nil ?_
  refine SC.then ?_
  refine SC.seq ?_
  refine SC.region ?_
  refine SL.y (OV.move rfl) rfl ?_
  refine SL.y (OV.move rfl) rfl ?_
  refine SL.y (OV.move rfl) rfl ?_
  refine SL.y (OV.move rfl) rfl ?_
  refine SL.callM (j := 0) pf27 (args4 rfl rfl rfl rfl) rfl (fun w1 hM => hr2 ▸ call27 hn hds b1.2.1 he (by omega) hne (Mm.oldBlk hM hnb hw) (hM.block (j := 0) rfl)) rfl ?_
  refine SL.y (OV.move rfl) rfl ?_
  refine SL.y (OV.extract rfl rfl) rfl ?_
  refine SL.y (OV.extract rfl rfl) rfl ?_
  refine SL.y (OV.assign rfl) rfl ?_
  refine SL.y (OV.assign rfl) rfl ?_
  refine SL.nil ?_
  refine SC.then ?_
  refine SC.seq ?_
  refine SC.region ?_
  refine SL.y (OV.move rfl) rfl ?_
  refine SL.y (OV.move rfl) rfl ?_
  refine SL.y (OV.move rfl) rfl ?_
  refine SL.y (OV.move rfl) rfl ?_
  refine SL.callM (j := 0) pf27 (args4 rfl rfl rfl rfl) rfl (fun w1 hM => call27 hn hds b1.1 b2.1 (by omega) hne (Mm.oldBlk hM hnb hw) (hM.block (j := 0) rfl)) rfl ?_
  refine SL.y (OV.move rfl) rfl ?_
  refine SL.y (OV.extract rfl rfl) rfl ?_
  refine SL.y (OV.extract rfl rfl) rfl ?_
  refine SL.y (OV.assign rfl) rfl ?_
  refine SL.y (OV.assign rfl) rfl ?_
  refine SL.nil ?_
  refine SC.then ?_
  refine SC.seq ?_
  refine SC.region ?_
  refine SL.y (OV.move rfl) rfl ?_
  refine SL.y (OV.assign rfl) rfl ?_
  refine SL.nil ?_
  refine SC.then ?_
  refine SC.ret ?_
  exact SE.ret1 Yba.results25 rfl (fun w' hM => ⟨rfl, hM⟩)
theorem median_lt {d : Array Nat} {a b e sw n : Nat} (ha : a < n) (hb : b < n) (he : e < n) : (median Fl.lt d a b e sw).1 < n ∧ (median Fl.lt d a b e sw).2 ≤ sw + 3 := by
  have b1 := order2_lt (d := d) (sw := sw) ha hb
  have b2 := order2_lt (d := d) (sw := (order2 Fl.lt d a b sw).2.2) b1.2.1 he
  have b3 := order2_lt (d := d) (sw := (order2 Fl.lt d (order2 Fl.lt d a b sw).2.1 e (order2 Fl.lt d a b sw).2.2).2.2) b1.1 b2.1
  refine ⟨b3.2.1, ?_⟩
  have := b3.2.2
  show (order2 Fl.lt d _ _ _).2.2 ≤ _
  omega
theorem pf25 : plainFunc Yba.prog 25 = true := by kernel_rfl
theorem pf24 : plainFunc Yba.prog 24 = true := by kernel_rfl
/-- medianAdjacentOrdered -/
theorem call24 {w : World} {blk n c a bs sw : Nat} {d : Array Nat} (hn : n ≤ 1000000) (hds : d.size = n) (ha : 1 ≤ a) (hb : a + 1 < n) (hs : sw ≤ 100) (hne : bs ≠ blk) (hw : w.heap[blk]? = some (fr d)) (hws : w.heap[bs]? = some (row 3 [.int .i64 sw])) :
    Calls Yba.prog 24 #[sl blk n c, .int .i64 a, .pointer (some ⟨bs, 0, none⟩)] w fun e' w' => e' = .returned (.int .i64 (medianAdjacent Fl.lt d a sw).1) ∧ Mm w [bs] [(bs, row 3 [.int .i64 (medianAdjacent Fl.lt d a sw).2])] w' := by
  have hnb : blk ∉ [bs] := by simp; exact fun x => hne x.symm
  refine Calls.of_SC (args := [sl blk n c, .int .i64 a, .pointer (some ⟨bs, 0, none⟩)]) Yba.func24 rfl (by simp [Yba.f24]) (Mm.ofRow hws) ?_
  refine SC.seq ?_
  refine SC.region ?_
  refine SL.y (OV.assign rfl) rfl ?_
  refine SL.nil ?_
  refine SC.then ?_
  refine SC.seq ?_
  refine SC.region ?_
  refine SL.y (OV.move rfl) rfl ?_
  refine SL.y (OV.move rfl) rfl ?_
  refine SL.y (OV.sub (r := ((a - 1 : Nat) : Int)) rfl rfl (by rw [wrap_i64 (by omega) (by omega)]; omega)) rfl ?_
  refine SL.y (OV.move rfl) rfl ?_
  refine SL.y (OV.move rfl) rfl ?_
  refine SL.y (OV.add (r := ((a + 1 : Nat) : Int)) rfl rfl (by rw [wrap_i64 (by omega) (by omega)]; omega)) rfl ?_
  refine SL.y (OV.move rfl) rfl ?_
  refine SL.callM (j := 0) pf25 (args5 rfl rfl rfl rfl rfl) rfl (fun w1 hM => call25 hn hds (by omega) (by omega) hb hs hne (Mm.oldBlk hM hnb hw) (hM.block (j := 0) rfl)) rfl ?_
  refine SL.y (OV.assign rfl) rfl ?_
  refine SL.nil ?_
  refine SC.then ?_
  refine SC.ret ?_
  exact SE.ret1 Yba.results24 rfl (fun w' hM => ⟨rfl, hM⟩)
end Go.Proofs.Ybulkdrfa
