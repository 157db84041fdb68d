import Derived.Test.YbulkdrfaLess
namespace Go.Proofs.Ybulkdrfa
open Go Go.RowKit Go.Proofs.Ybulkdrfa.Sym Go.Sort
set_option linter.unusedVariables false
set_option linter.unusedSimpArgs false

/-! ### A row of floats -/
def fcs (d : Array Nat) : List Value := d.toList.map (Value.float .f64)
def fr (d : Array Nat) : Obj := row 23 (fcs d)
theorem fcs_len (d : Array Nat) : (fcs d).length = d.size := by simp [fcs]
theorem fcs_at {d : Array Nat} {i : Nat} (h : i < d.size) : (fcs d)[i]? = some (.float .f64 d[i]!) := by
  simp [fcs, h]
theorem fcs_set (d : Array Nat) (i x : Nat) : (fcs d).set i (.float .f64 x) = fcs (d.setIfInBounds i x) := by
  simp [fcs, List.map_set]
section
variable {P : Program} {w0 : World} {F : List Nat} {env : Env} {m : List Blk} {d : Option Nat} {ty : TypeId} {pos : String} {af : Array Edge} {g : Option (Nat × Bool)} {x y : Operand} {T : TypeId}
theorem Sym.OV.loadFr {b o : Nat} {q : Array Nat} (j : Nat) (hT : scalar P T = true) (hx : ev env x = some (.pointer (some ⟨b, o, none⟩))) (hm : m[j]? = some (b, fr q)) (ho : o < q.size) :
    OV P env w0 F m ⟨d, .load T x, ty, pos, af, g⟩ (.float .f64 q[o]!) := OV.load j hT hx hm (fcs_at ho)
theorem Sym.OS.storeFr {b o v : Nat} {q : Array Nat} (j : Nat) (hT : size1 P T = true) (hx : ev env x = some (.pointer (some ⟨b, o, none⟩))) (hy : ev env y = some (.float .f64 v)) (hm : m[j]? = some (b, fr q)) (ho : o < q.size) :
    OS P env w0 F m ⟨d, .store T x y, ty, pos, af, g⟩ (m.set j (b, fr (q.setIfInBounds o v))) := by
  have := OS.store1 (P := P) (w0 := w0) (F := F) (d := d) (ty := ty) (pos := pos) (af := af) (g := g) j hT hx hy hm rfl (by rw [fcs_len]; exact ho)
  rw [fcs_set] at this
  exact this
end

abbrev sl (b n c : Nat) : Value := .slice (some ⟨b, 0, none⟩) n c
theorem insInner_stop {a j : Nat} {d : Array Nat} (h : ¬ (a < j ∧ Fl.lt d[j]! d[j - 1]! = true)) : insInner Fl.lt a j d = d := by
  cases j with
  | zero => rfl
  | succ j =>
    unfold insInner
    rw [if_neg]
    intro e
    simp only [Bool.and_eq_true, decide_eq_true_eq] at e
    exact h ⟨e.1, e.2⟩
theorem insInner_step {a j : Nat} {d : Array Nat} (h : a < j) (hl : Fl.lt d[j]! d[j - 1]! = true) : insInner Fl.lt a j d = insInner Fl.lt a (j - 1) (swp d j (j - 1)) := by
  obtain ⟨k, rfl⟩ : ∃ k, j = k + 1 := ⟨j - 1, by omega⟩
  have e : k + 1 - 1 = k := by omega
  rw [e] at hl ⊢
  show (if _ then _ else _) = _
  rw [if_pos (by simp only [Bool.and_eq_true, decide_eq_true_eq]; exact ⟨h, hl⟩)]

section
variable {w0 : World} {Q : Exit → Act → World → Prop} {blk n c a b : Nat}
/-- One element is shifted down. -/
theorem ins1 {i : Nat} {d R : Array Nat} (hPQ : PanicOk Q) (hn : n ≤ 1000000) (hds : d.size = n) (hi : i < n) (hR : insInner Fl.lt a i d = R) (hRs : R.size = n)
    (h : SE (Q .normal) Yba.f10.ntmps [(0, sl blk n c), (1, .int .i64 a), (2, .int .i64 b), (6, .int .i64 i)] w0 [blk] [(blk, fr R)]) :
    SC Yba.prog (sub [1, 2, 2, 1, 0, 2, 1] (Yba.f10.body.getD .skip)) Q Yba.f10.ntmps [(7, .int .i64 i), (0, sl blk n c), (1, .int .i64 a), (2, .int .i64 b), (6, .int .i64 i)] w0 [blk] [(blk, fr d)] := by
  refine SC.block ?_
  refine SC.loopAB (fun (j : Nat) (q : Array Nat) => [(7, .int .i64 j), (0, sl blk n c), (1, .int .i64 a), (2, .int .i64 b), (6, .int .i64 i)]) (fun j q => [(blk, fr q)]) (fun j q => j ≤ i ∧ q.size = n ∧ insInner Fl.lt a j q = R) (fun j q => j) i d ⟨Nat.le_refl _, hds, hR⟩ (by repeat' (first | exact trivial | refine ⟨rfl, ?_⟩)) (List.Sublist.refl _) ?_
  rintro j q ⟨hj, hqs, hq⟩
  refine SC.seq ?_
  refine SC.cutG (fun t : Bool => [(30, .bool t), (7, .int .i64 j), (0, sl blk n c), (1, .int .i64 a), (2, .int .i64 b), (6, .int .i64 i)]) (fun _ => [(blk, fr q)]) (fun t => t = true ↔ a < j ∧ Fl.lt q[j]! q[j - 1]! = true) ?_ ?_
  · by_cases haj : a < j
    · skip
      refine SC.quiet mixed (by kernel_rfl) ?_
      refine SQ.y (OV.move rfl) rfl ?_
      refine SQ.y (OV.move rfl) rfl ?_
      refine SQ.y ((OV.gtr rfl rfl).yes (by omega)) rfl ?_
      refine SQ.y (OV.move rfl) rfl ?_
      refine SQ.yg rfl rfl (OV.move rfl) rfl ?_
      refine SQ.yg rfl rfl (OV.move rfl) rfl ?_
      refine SQ.yg rfl rfl (OV.idx1 j u22 se22 rfl rfl rfl (by omega)) rfl ?_
      refine SQ.yg rfl rfl (OV.loadFr 0 sc23 rfl rfl (by omega)) rfl ?_
      refine SQ.yg rfl rfl (OV.move rfl) rfl ?_
      refine SQ.yg rfl rfl (OV.move rfl) rfl ?_
      refine SQ.yg rfl rfl (OV.sub rfl rfl (wrap_i64 (by omega) (by omega))) rfl ?_
      refine SQ.yg rfl rfl (OV.idx1 (j - 1) u22 se22 rfl rfl (by omega) (by omega)) rfl ?_
      refine SQ.yg rfl rfl (OV.loadFr 0 sc23 rfl rfl (by omega)) rfl ?_
      refine SQ.callQg rfl rfl pf16 (args2 rfl rfl) (fun w hM => call16 _ _ w) rfl ?_
      refine SQ.y (OV.pickT rfl rfl) rfl ?_
      refine SQ.nil ?_
      exact SE.toG _ ⟨fun h => ⟨haj, h⟩, fun h => h.2⟩ (by repeat' (first | exact trivial | refine ⟨rfl, ?_⟩)) (List.Sublist.refl _)
    · skip
      refine SC.quiet mixed (by kernel_rfl) ?_
      refine SQ.y (OV.move rfl) rfl ?_
      refine SQ.y (OV.move rfl) rfl ?_
      refine SQ.y ((OV.gtr rfl rfl).no (by omega)) rfl ?_
      refine SQ.y (OV.move rfl) rfl ?_
      refine SQ.skip rfl rfl rfl ?_
      refine SQ.skip rfl rfl rfl ?_
      refine SQ.skip rfl rfl rfl ?_
      refine SQ.skip rfl rfl rfl ?_
      refine SQ.skip rfl rfl rfl ?_
      refine SQ.skip rfl rfl rfl ?_
      refine SQ.skip rfl rfl rfl ?_
      refine SQ.skip rfl rfl rfl ?_
      refine SQ.skip rfl rfl rfl ?_
      refine SQ.skip rfl rfl rfl ?_
      refine SQ.y (OV.pickF rfl rfl) rfl ?_
      refine SQ.nil ?_
      exact SE.toG false ⟨fun h => (by cases h), fun h => absurd h.1 haj⟩ (by repeat' (first | exact trivial | refine ⟨rfl, ?_⟩)) (List.Sublist.refl _)
  intro t ht
  refine SC.cond rfl (fun e => ?_) (fun e => ?_)
  · obtain ⟨haj, hlt⟩ := ht.1 e
    refine SC.skip ?_
    refine SC.then ?_
    refine SC.cutSt [(7, .int .i64 j), (0, sl blk n c), (1, .int .i64 a), (2, .int .i64 b), (6, .int .i64 i)] [(blk, fr (swp q j (j - 1)))] ?_ ?_
    · refine SC.block ?_
      refine SC.held 15 [(blk, fr q)] [] mixed ?_
      refine SA.takeC (i := 0) (by repeat (first | exact hPQ | refine PanicOk.then ?_ | refine PanicOk.block ?_ | exact PanicOk.body)) rfl (by kernel_rfl) (by kernel_rfl) (by kernel_rfl) rfl (by first | exact List.nil_sublist _ | exact List.Sublist.refl _ | (repeat (first | exact List.Sublist.refl _ | exact List.nil_sublist _ | refine List.Sublist.cons_cons _ ?_ | refine List.Sublist.cons _ ?_))) (OV.move rfl) rfl ?_
      refine SA.takeC (i := 1) (by repeat (first | exact hPQ | refine PanicOk.then ?_ | refine PanicOk.block ?_ | exact PanicOk.body)) rfl (by kernel_rfl) (by kernel_rfl) (by kernel_rfl) rfl (by first | exact List.nil_sublist _ | exact List.Sublist.refl _ | (repeat (first | exact List.Sublist.refl _ | exact List.nil_sublist _ | refine List.Sublist.cons_cons _ ?_ | refine List.Sublist.cons _ ?_))) (OV.move rfl) rfl ?_
      refine SA.takeC (i := 2) (by repeat (first | exact hPQ | refine PanicOk.then ?_ | refine PanicOk.block ?_ | exact PanicOk.body)) rfl (by kernel_rfl) (by kernel_rfl) (by kernel_rfl) rfl (by first | exact List.nil_sublist _ | exact List.Sublist.refl _ | (repeat (first | exact List.Sublist.refl _ | exact List.nil_sublist _ | refine List.Sublist.cons_cons _ ?_ | refine List.Sublist.cons _ ?_))) (OV.move rfl) rfl ?_
      refine SA.takeC (i := 3) (by repeat (first | exact hPQ | refine PanicOk.then ?_ | refine PanicOk.block ?_ | exact PanicOk.body)) rfl (by kernel_rfl) (by kernel_rfl) (by kernel_rfl) rfl (by first | exact List.nil_sublist _ | exact List.Sublist.refl _ | (repeat (first | exact List.Sublist.refl _ | exact List.nil_sublist _ | refine List.Sublist.cons_cons _ ?_ | refine List.Sublist.cons _ ?_))) (OV.move rfl) rfl ?_
      refine SA.takeC (i := 4) (by repeat (first | exact hPQ | refine PanicOk.then ?_ | refine PanicOk.block ?_ | exact PanicOk.body)) rfl (by kernel_rfl) (by kernel_rfl) (by kernel_rfl) rfl (by first | exact List.nil_sublist _ | exact List.Sublist.refl _ | (repeat (first | exact List.Sublist.refl _ | exact List.nil_sublist _ | refine List.Sublist.cons_cons _ ?_ | refine List.Sublist.cons _ ?_))) (OV.sub rfl rfl (wrap_i64 (by omega) (by omega))) rfl ?_
      refine SA.takeC (i := 5) (by repeat (first | exact hPQ | refine PanicOk.then ?_ | refine PanicOk.block ?_ | exact PanicOk.body)) rfl (by kernel_rfl) (by kernel_rfl) (by kernel_rfl) rfl (by first | exact List.nil_sublist _ | exact List.Sublist.refl _ | (repeat (first | exact List.Sublist.refl _ | exact List.nil_sublist _ | refine List.Sublist.cons_cons _ ?_ | refine List.Sublist.cons _ ?_))) (OV.move rfl) rfl ?_
      refine SA.takeC (i := 6) (by repeat (first | exact hPQ | refine PanicOk.then ?_ | refine PanicOk.block ?_ | exact PanicOk.body)) rfl (by kernel_rfl) (by kernel_rfl) (by kernel_rfl) rfl (by first | exact List.nil_sublist _ | exact List.Sublist.refl _ | (repeat (first | exact List.Sublist.refl _ | exact List.nil_sublist _ | refine List.Sublist.cons_cons _ ?_ | refine List.Sublist.cons _ ?_))) (OV.move rfl) rfl ?_
      refine SA.takeC (i := 7) (by repeat (first | exact hPQ | refine PanicOk.then ?_ | refine PanicOk.block ?_ | exact PanicOk.body)) rfl (by kernel_rfl) (by kernel_rfl) (by kernel_rfl) rfl (by first | exact List.nil_sublist _ | exact List.Sublist.refl _ | (repeat (first | exact List.Sublist.refl _ | exact List.nil_sublist _ | refine List.Sublist.cons_cons _ ?_ | refine List.Sublist.cons _ ?_))) (OV.sub rfl rfl (wrap_i64 (by omega) (by omega))) rfl ?_
      refine SA.takeC (i := 8) (by repeat (first | exact hPQ | refine PanicOk.then ?_ | refine PanicOk.block ?_ | exact PanicOk.body)) rfl (by kernel_rfl) (by kernel_rfl) (by kernel_rfl) rfl (by first | exact List.nil_sublist _ | exact List.Sublist.refl _ | (repeat (first | exact List.Sublist.refl _ | exact List.nil_sublist _ | refine List.Sublist.cons_cons _ ?_ | refine List.Sublist.cons _ ?_))) (OV.idx1 (j - 1) u22 se22 rfl rfl (by omega) (by omega)) rfl ?_
      refine SA.takeA (i := 9) (by repeat (first | exact hPQ | refine PanicOk.then ?_ | refine PanicOk.block ?_ | exact PanicOk.body)) rfl (by kernel_rfl) (by kernel_rfl) (by kernel_rfl) rfl (by kernel_rfl) (by kernel_rfl) (by first | exact List.nil_sublist _ | exact List.Sublist.refl _ | (repeat (first | exact List.Sublist.refl _ | exact List.nil_sublist _ | refine List.Sublist.cons_cons _ ?_ | refine List.Sublist.cons _ ?_))) (OV.loadFr 0 sc23 rfl rfl (by omega)) rfl ?_
      refine SA.takeC (i := 10) (by repeat (first | exact hPQ | refine PanicOk.then ?_ | refine PanicOk.block ?_ | exact PanicOk.body)) rfl (by kernel_rfl) (by kernel_rfl) (by kernel_rfl) rfl (by first | exact List.nil_sublist _ | exact List.Sublist.refl _ | (repeat (first | exact List.Sublist.refl _ | exact List.nil_sublist _ | refine List.Sublist.cons_cons _ ?_ | refine List.Sublist.cons _ ?_))) (OV.move rfl) rfl ?_
      refine SA.takeC (i := 11) (by repeat (first | exact hPQ | refine PanicOk.then ?_ | refine PanicOk.block ?_ | exact PanicOk.body)) rfl (by kernel_rfl) (by kernel_rfl) (by kernel_rfl) rfl (by first | exact List.nil_sublist _ | exact List.Sublist.refl _ | (repeat (first | exact List.Sublist.refl _ | exact List.nil_sublist _ | refine List.Sublist.cons_cons _ ?_ | refine List.Sublist.cons _ ?_))) (OV.move rfl) rfl ?_
      refine SA.takeC (i := 12) (by repeat (first | exact hPQ | refine PanicOk.then ?_ | refine PanicOk.block ?_ | exact PanicOk.body)) rfl (by kernel_rfl) (by kernel_rfl) (by kernel_rfl) rfl (by first | exact List.nil_sublist _ | exact List.Sublist.refl _ | (repeat (first | exact List.Sublist.refl _ | exact List.nil_sublist _ | refine List.Sublist.cons_cons _ ?_ | refine List.Sublist.cons _ ?_))) (OV.idx1 j u22 se22 rfl rfl rfl (by omega)) rfl ?_
      refine SA.takeA (i := 13) (by repeat (first | exact hPQ | refine PanicOk.then ?_ | refine PanicOk.block ?_ | exact PanicOk.body)) rfl (by kernel_rfl) (by kernel_rfl) (by kernel_rfl) rfl (by kernel_rfl) (by kernel_rfl) (by first | exact List.nil_sublist _ | exact List.Sublist.refl _ | (repeat (first | exact List.Sublist.refl _ | exact List.nil_sublist _ | refine List.Sublist.cons_cons _ ?_ | refine List.Sublist.cons _ ?_))) (OV.loadFr 0 sc23 rfl rfl (by omega)) rfl ?_
      refine SA.takeC (i := 14) (by repeat (first | exact hPQ | refine PanicOk.then ?_ | refine PanicOk.block ?_ | exact PanicOk.body)) rfl (by kernel_rfl) (by kernel_rfl) (by kernel_rfl) rfl (by first | exact List.nil_sublist _ | exact List.Sublist.refl _ | (repeat (first | exact List.Sublist.refl _ | exact List.nil_sublist _ | refine List.Sublist.cons_cons _ ?_ | refine List.Sublist.cons _ ?_))) (OV.idx1 j u22 se22 rfl rfl rfl (by omega)) rfl ?_
      refine SA.all (rs := [15]) (by kernel_rfl) (by simp) (all_cons ?_ (all_nil))
      · skip
        refine SO.s rfl (OS.storeFr 0 sz23 rfl rfl rfl (by omega)) (by first | exact List.nil_sublist _ | exact List.Sublist.refl _ | (repeat (first | exact List.Sublist.refl _ | exact List.nil_sublist _ | refine List.Sublist.cons_cons _ ?_ | refine List.Sublist.cons _ ?_))) ?_
        refine SA.takeC (i := 16) (by repeat (first | exact hPQ | refine PanicOk.then ?_ | refine PanicOk.block ?_ | exact PanicOk.body)) rfl (by kernel_rfl) (by kernel_rfl) (by kernel_rfl) rfl (by first | exact List.nil_sublist _ | exact List.Sublist.refl _ | (repeat (first | exact List.Sublist.refl _ | exact List.nil_sublist _ | refine List.Sublist.cons_cons _ ?_ | refine List.Sublist.cons _ ?_))) (OV.idx1 (j - 1) u22 se22 rfl rfl (by omega) (by omega)) rfl ?_
        refine SA.all (rs := [17]) (by kernel_rfl) (by simp) (all_cons ?_ (all_nil))
        · skip
          refine SO.s rfl (OS.storeFr 0 sz23 rfl rfl rfl (by simp; omega)) (by first | exact List.nil_sublist _ | exact List.Sublist.refl _ | (repeat (first | exact List.Sublist.refl _ | exact List.nil_sublist _ | refine List.Sublist.cons_cons _ ?_ | refine List.Sublist.cons _ ?_))) ?_
          refine SA.done (by kernel_rfl) ?_
          exact SE.nb (SE.toSt (by repeat' (first | exact trivial | refine ⟨rfl, ?_⟩)) (List.Sublist.refl _))
    refine SC.region ?_
    refine SL.y (OV.move rfl) rfl ?_
    refine SL.y (OV.sub rfl rfl (wrap_i64 (by omega) (by omega))) rfl ?_
    refine SL.y (OV.assign rfl) rfl ?_
    refine SL.nil ?_
    refine SE.roundAB (j - 1) (swp q j (j - 1)) ⟨by omega, by rw [size_swp]; exact hqs, by rw [← hq, insInner_step haj hlt]⟩ (by omega) ?_ (List.Sublist.refl _)
    have ej : ((j : Int) - 1) = ((j - 1 : Nat) : Int) := by omega
    rw [ej]
    exact (by repeat' (first | exact trivial | refine ⟨rfl, ?_⟩))
  · have hstop := insInner_stop (d := q) (fun h => by have := ht.2 h; rw [this] at e; cases e)
    rw [hstop] at hq
    subst hq
    refine SC.exit ?_
    refine SE.thenE (SE.thenE (SE.inBlock ?_))
    exact SE.weaken (by repeat' (first | exact trivial | refine ⟨rfl, ?_⟩)) (List.Sublist.refl _) h
end
theorem insInner_size (a j : Nat) (d : Array Nat) : (insInner Fl.lt a j d).size = d.size := by
  induction j generalizing d with
  | zero => rfl
  | succ j ih =>
    unfold insInner
    split
    · rw [ih, size_swp]
    · rfl
theorem insOuter_step {a b i : Nat} {d : Array Nat} (h : i < b) : insOuter Fl.lt a b i d = insOuter Fl.lt a b (i + 1) (insInner Fl.lt a i d) := by
  rw [insOuter, if_pos h]
theorem insOuter_stop {a b i : Nat} {d : Array Nat} (h : ¬ i < b) : insOuter Fl.lt a b i d = d := by
  rw [insOuter, if_neg h]
/-- What was there, listed. -/
theorem Mm.ofRow {w : World} {blk : Nat} {o : Obj} (h : w.heap[blk]? = some o) : Mm w [blk] [(blk, o)] w :=
  Mm.start' (fun p hp => by simp at hp; subst hp; exact h) rfl (by simp)

/-- insertionSortOrdered -/
theorem call10 {w : World} {blk n c a b : Nat} {d : Array Nat} (hn : n ≤ 1000000) (hds : d.size = n) (hb : b ≤ n) (hab : a ≤ b) (hw : w.heap[blk]? = some (fr d)) :
    Calls Yba.prog 10 #[sl blk n c, .int .i64 a, .int .i64 b] w fun e w' => e = .returned (.tuple #[]) ∧ Mm w [blk] [(blk, fr (insertionSort Fl.lt d a b))] w' := by
  refine Calls.of_SC (args := [sl blk n c, .int .i64 a, .int .i64 b]) Yba.func10 rfl (by simp [Yba.f10]) (Mm.ofRow hw) ?_
  refine SC.seq ?_
  refine SC.region ?_
  refine SL.y (OV.move rfl) rfl ?_
  refine SL.y (OV.add rfl rfl (wrap_i64 (by omega) (by omega))) rfl ?_
  refine SL.y (OV.assign rfl) rfl ?_
  refine SL.nil ?_
  refine SC.then ?_
  refine SC.block ?_
  refine SC.loopAB (fun (i : Nat) (q : Array Nat) => [(0, sl blk n c), (1, .int .i64 a), (2, .int .i64 b), (6, .int .i64 i)]) (fun i q => [(blk, fr q)]) (fun i q => a < i ∧ i ≤ b + 1 ∧ q.size = n ∧ insOuter Fl.lt a b i q = insertionSort Fl.lt d a b) (fun i q => b + 1 - i) (a + 1) d ⟨by omega, by omega, hds, rfl⟩ (by repeat' (first | exact trivial | refine ⟨rfl, ?_⟩)) (List.Sublist.refl _) ?_
  rintro i q ⟨hai, hib, hqs, hq⟩
  refine SC.seq ?_
  refine SC.seq ?_
  refine SC.region ?_
  refine SL.y (OV.move rfl) rfl ?_
  refine SL.y (OV.move rfl) rfl ?_
  refine SL.y (OV.lss rfl rfl) rfl ?_
  refine SL.nil ?_
  refine SC.then ?_
  refine SC.condP rfl (fun hlt => ?_) (fun hge => ?_)
  · have hlt' : i < b := by omega
    refine SC.skip ?_
    refine SC.then ?_
    refine SC.cutSt [(0, sl blk n c), (1, .int .i64 a), (2, .int .i64 b), (6, .int .i64 i)] [(blk, fr (insInner Fl.lt a i q))] ?_ ?_
    · refine SC.block ?_
      refine SC.seq ?_
      refine SC.region ?_
      refine SL.y (OV.move rfl) rfl ?_
      refine SL.y (OV.assign rfl) rfl ?_
      refine SL.nil ?_
      refine SC.then ?_
      refine SC.weaken ?_ (List.Sublist.refl _) (ins1 (blk := blk) (n := n) (c := c) (a := a) (b := b) (i := i) (R := insInner Fl.lt a i q) (by repeat (first | refine PanicOk.then ?_ | refine PanicOk.block ?_ | exact PanicOk.body)) hn hqs (by omega) rfl (by rw [insInner_size]; exact hqs) ?_)
      · exact (by repeat' (first | exact trivial | refine ⟨rfl, ?_⟩))
      exact SE.nb (SE.toSt (by repeat' (first | exact trivial | refine ⟨rfl, ?_⟩)) (List.Sublist.refl _))
    refine SC.region ?_
    refine SL.y (OV.move rfl) rfl ?_
    refine SL.y (OV.add rfl rfl (wrap_i64 (by omega) (by omega))) rfl ?_
    refine SL.y (OV.assign rfl) rfl ?_
    refine SL.nil ?_
    exact SE.roundAB (i + 1) (insInner Fl.lt a i q) ⟨by omega, by omega, by rw [insInner_size]; exact hqs, by rw [← hq, insOuter_step hlt']⟩ (by omega) (by repeat' (first | exact trivial | refine ⟨rfl, ?_⟩)) (List.Sublist.refl _)
  · refine SC.exit ?_
    refine SE.thenE (SE.thenE (SE.inBlock ?_))
    rw [insOuter_stop (by omega)] at hq
    rw [hq]
    exact SE.end0 Yba.results10 (fun w' hM => ⟨rfl, hM⟩)
end Go.Proofs.Ybulkdrfa
