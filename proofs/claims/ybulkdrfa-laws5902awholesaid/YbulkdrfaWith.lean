import Derived.Test.YbulkdrfaSort
namespace Go.Proofs.Ybulkdrfa
open Go Go.RowKit Go.Proofs.Ybulkdrfa.Sym Go.Sort
set_option linter.unusedVariables false
set_option linter.unusedSimpArgs false
set_option maxRecDepth 100000

theorem nan_cut (x y t : Nat) : Fl.isNaN ((Question.nanBits .f64 x y).cut t) = true := by
  show decide (Fl.I < ((t % 2) * 2 ^ 63 + 0x7ff0000000000000 + 1 + (t / 2) % (2 ^ 52 - 1)) % Fl.W) = true
  have h1 : (t / 2) % (2 ^ 52 - 1) < 2 ^ 52 - 1 := Nat.mod_lt _ (by decide)
  have h2 : t % 2 < 2 := Nat.mod_lt _ (by decide)
  unfold Fl.I Fl.W
  simp only [decide_eq_true_eq]
  generalize (t / 2) % (2 ^ 52 - 1) = u at *
  generalize t % 2 = v at *
  have hv : v = 0 ∨ v = 1 := by omega
  rcases hv with rfl | rfl <;> omega
/-- x - y: the difference, or some NaN. -/
theorem Sym.OE.subF {P : Program} {w0 : World} {F : List Nat} {env : Env} {m : List Blk} {d : Option Nat} {ty : TypeId} {pos : String} {af : Array Edge} {g : Option (Nat × Bool)} {x y : Operand} {a b : Nat} {T T' : TypeId} (hx : ev env x = some (.float .f64 a)) (hy : ev env y = some (.float .f64 b)) :
    OE P env w0 F m ⟨d, .binOp .sub T x y T', ty, pos, af, g⟩ (fun r : { r : Nat // ∀ e, Fl.leq r e = Fl.within a b e } => .float .f64 r.1) (fun _ => m) := by
  refine ⟨fun A w hE hM => ?_⟩
  cases hs : Ieee.double.sub a b with
  | some r =>
    refine ⟨⟨r, fun e => by unfold Fl.within; rw [hs]; rfl⟩, w, ?_, hM⟩
    have hs' : FloatKind.f64.format.sub a b = some r := hs
    simp [execOp, hE x _ hx, hE y _ hy, eqGuard, binOp, Op.floatArith, hs']
  | none =>
    have hn : ∀ t e, Fl.leq ((Question.nanBits .f64 a b).cut t) e = Fl.within a b e := fun t e => by
      unfold Fl.within
      rw [hs, Fl.leq_key, nan_cut]
      rfl
    have hs' : FloatKind.f64.format.sub a b = none := hs
    refine ⟨⟨_, hn (w.tape w.drawn (.nanBits .f64 a b))⟩, w.drew, ?_, hM.of_heap rfl rfl rfl rfl⟩
    simp [execOp, hE x _ hx, hE y _ hy, eqGuard, binOp, Op.floatArith, hs', Question.forced]

/-- Some run of mm neighbours spans at most e. -/
def Spans (s : Array Nat) (n mm e : Nat) : Prop := ∃ i, i + mm ≤ n ∧ Fl.within s[i + mm - 1]! s[i]! e = true
theorem sort_size (d : Array Nat) : (sort Fl.lt d).size = d.size := (sort_sorts Fl.lt swo d).1.1
/-- within -/
theorem call5 {w : World} {blk n c mm eps : Nat} {d : Array Nat} (hn : n ≤ 60000) (hds : d.size = n) (hm1 : 1 ≤ mm) (hm2 : mm ≤ 9223372036854775807) (hw : w.heap[blk]? = some (fr d)) :
    Calls Yba.prog 5 #[sl blk n c, .int .i64 mm, .float .f64 eps] w fun e w' => ∃ r : Bool, e = .returned (.bool r) ∧ (r = true ↔ Spans (sort Fl.lt d) n mm eps) ∧ Mm w [blk] [(blk, fr (sort Fl.lt d))] w' := by
  refine Calls.of_SC (args := [sl blk n c, .int .i64 mm, .float .f64 eps]) Yba.func5 rfl (by simp [Yba.f5]) (Mm.ofRow hw) ?_
  have hPQ : PanicOk (bodyPost Yba.prog Yba.f5 (fun e w' => ∃ r : Bool, e = .returned (.bool r) ∧ (r = true ↔ Spans (sort Fl.lt d) n mm eps) ∧ Mm w [blk] [(blk, fr (sort Fl.lt d))] w')) := PanicOk.body
  refine SC.seq ?_
  refine SC.region ?_
  refine SL.y (OV.assign rfl) rfl ?_
  refine SL.nil ?_
  refine SC.then ?_
  refine SC.seq ?_
  refine SC.region ?_
  refine SL.y (OV.move rfl) rfl ?_
  refine SL.callB (j := 0) pf7 (args1 rfl) rfl (fun w h => call7 hn hds h) rfl ?_
  refine SL.nil ?_
  refine SC.then ?_
  have hss : (sort Fl.lt d).size = n := by rw [sort_size]; exact hds
  generalize sort Fl.lt d = s at *
  refine SC.seq ?_
  refine SC.seq ?_
  refine SC.region ?_
  refine SL.y (OV.assign rfl) rfl ?_
  refine SL.nil ?_
  refine SC.then ?_
  refine SC.block ?_
  refine SC.loop (fun i : Nat => [(0, sl blk n c), (1, .int .i64 mm), (2, .float .f64 eps), (7, .int .i64 i)]) (fun i => [(blk, fr s)]) (fun i => (i = 0 ∨ i + mm ≤ n + 1) ∧ ∀ j, j < i → ¬ (j + mm ≤ n ∧ Fl.within s[j + mm - 1]! s[j]! eps = true)) (fun i => n + 1 - i) 0 ⟨.inl rfl, fun j hj => absurd hj (Nat.not_lt_zero j)⟩ (by repeat' (first | exact trivial | refine ⟨rfl, ?_⟩)) (List.Sublist.refl _) ?_
  rintro i ⟨hi, hno⟩
  refine SC.seq ?_
  refine SC.seq ?_
  refine SC.region ?_
  refine SL.y (OV.move rfl) rfl ?_
  refine SL.y (OV.move rfl) rfl ?_
  refine SL.y (OV.add (r := ((i + mm : Nat) : Int)) rfl rfl (by rw [wrap_i64 (by omega) (by omega)]; omega)) rfl ?_
  refine SL.y (OV.move rfl) rfl ?_
  refine SL.y (OV.len u22 rfl) rfl ?_
  refine SL.y (OV.leq rfl rfl) rfl ?_
  refine SL.nil ?_
  refine SC.then ?_
  refine SC.condP rfl (fun hle => ?_) (fun hgt => ?_)
  · have hle' : i + mm ≤ n := by omega
    refine SC.skip ?_
    refine SC.then ?_
    refine SC.seq ?_
    refine SC.block ?_
    refine SC.cutSt [(31, .bool (Fl.within s[i + mm - 1]! s[i]! eps)), (0, sl blk n c), (1, .int .i64 mm), (2, .float .f64 eps), (7, .int .i64 i)] [(blk, fr s)] ?_ ?_
    · skip
      refine SC.held 11 [(blk, fr s)] [(blk, fr s)] mixed ?_
      refine SA.takeC (i := 0) (by repeat (first | exact hPQ | refine PanicOk.then ?_ | refine PanicOk.block ?_ | exact PanicOk.body)) rfl (by kernel_rfl) (by kernel_rfl) (by kernel_rfl) rfl (by first | exact List.nil_sublist _ | exact List.Sublist.refl _ | (repeat (first | exact List.Sublist.refl _ | exact List.nil_sublist _ | refine List.Sublist.cons_cons _ ?_ | refine List.Sublist.cons _ ?_))) (OV.move rfl) rfl ?_
      refine SA.takeC (i := 1) (by repeat (first | exact hPQ | refine PanicOk.then ?_ | refine PanicOk.block ?_ | exact PanicOk.body)) rfl (by kernel_rfl) (by kernel_rfl) (by kernel_rfl) rfl (by first | exact List.nil_sublist _ | exact List.Sublist.refl _ | (repeat (first | exact List.Sublist.refl _ | exact List.nil_sublist _ | refine List.Sublist.cons_cons _ ?_ | refine List.Sublist.cons _ ?_))) (OV.move rfl) rfl ?_
      refine SA.takeC (i := 2) (by repeat (first | exact hPQ | refine PanicOk.then ?_ | refine PanicOk.block ?_ | exact PanicOk.body)) rfl (by kernel_rfl) (by kernel_rfl) (by kernel_rfl) rfl (by first | exact List.nil_sublist _ | exact List.Sublist.refl _ | (repeat (first | exact List.Sublist.refl _ | exact List.nil_sublist _ | refine List.Sublist.cons_cons _ ?_ | refine List.Sublist.cons _ ?_))) (OV.move rfl) rfl ?_
      refine SA.takeC (i := 3) (by repeat (first | exact hPQ | refine PanicOk.then ?_ | refine PanicOk.block ?_ | exact PanicOk.body)) rfl (by kernel_rfl) (by kernel_rfl) (by kernel_rfl) rfl (by first | exact List.nil_sublist _ | exact List.Sublist.refl _ | (repeat (first | exact List.Sublist.refl _ | exact List.nil_sublist _ | refine List.Sublist.cons_cons _ ?_ | refine List.Sublist.cons _ ?_))) (OV.add (r := ((i + mm : Nat) : Int)) rfl rfl (by rw [wrap_i64 (by omega) (by omega)]; omega)) rfl ?_
      refine SA.takeC (i := 4) (by repeat (first | exact hPQ | refine PanicOk.then ?_ | refine PanicOk.block ?_ | exact PanicOk.body)) rfl (by kernel_rfl) (by kernel_rfl) (by kernel_rfl) rfl (by first | exact List.nil_sublist _ | exact List.Sublist.refl _ | (repeat (first | exact List.Sublist.refl _ | exact List.nil_sublist _ | refine List.Sublist.cons_cons _ ?_ | refine List.Sublist.cons _ ?_))) (OV.sub (r := ((i + mm - 1 : Nat) : Int)) rfl rfl (by rw [wrap_i64 (by omega) (by omega)]; omega)) rfl ?_
      refine SA.takeC (i := 5) (by repeat (first | exact hPQ | refine PanicOk.then ?_ | refine PanicOk.block ?_ | exact PanicOk.body)) rfl (by kernel_rfl) (by kernel_rfl) (by kernel_rfl) rfl (by first | exact List.nil_sublist _ | exact List.Sublist.refl _ | (repeat (first | exact List.Sublist.refl _ | exact List.nil_sublist _ | refine List.Sublist.cons_cons _ ?_ | refine List.Sublist.cons _ ?_))) (OV.idx1 (i + mm - 1) u22 se22 rfl rfl rfl (by omega)) rfl ?_
      refine SA.takeA (i := 6) (by repeat (first | exact hPQ | refine PanicOk.then ?_ | refine PanicOk.block ?_ | exact PanicOk.body)) rfl (by kernel_rfl) (by kernel_rfl) (by kernel_rfl) rfl (by kernel_rfl) (by kernel_rfl) (by first | exact List.nil_sublist _ | exact List.Sublist.refl _ | (repeat (first | exact List.Sublist.refl _ | exact List.nil_sublist _ | refine List.Sublist.cons_cons _ ?_ | refine List.Sublist.cons _ ?_))) (OV.loadFr 0 sc23 rfl rfl (by omega)) rfl ?_
      refine SA.takeC (i := 7) (by repeat (first | exact hPQ | refine PanicOk.then ?_ | refine PanicOk.block ?_ | exact PanicOk.body)) rfl (by kernel_rfl) (by kernel_rfl) (by kernel_rfl) rfl (by first | exact List.nil_sublist _ | exact List.Sublist.refl _ | (repeat (first | exact List.Sublist.refl _ | exact List.nil_sublist _ | refine List.Sublist.cons_cons _ ?_ | refine List.Sublist.cons _ ?_))) (OV.move rfl) rfl ?_
      refine SA.takeC (i := 8) (by repeat (first | exact hPQ | refine PanicOk.then ?_ | refine PanicOk.block ?_ | exact PanicOk.body)) rfl (by kernel_rfl) (by kernel_rfl) (by kernel_rfl) rfl (by first | exact List.nil_sublist _ | exact List.Sublist.refl _ | (repeat (first | exact List.Sublist.refl _ | exact List.nil_sublist _ | refine List.Sublist.cons_cons _ ?_ | refine List.Sublist.cons _ ?_))) (OV.move rfl) rfl ?_
      refine SA.takeC (i := 9) (by repeat (first | exact hPQ | refine PanicOk.then ?_ | refine PanicOk.block ?_ | exact PanicOk.body)) rfl (by kernel_rfl) (by kernel_rfl) (by kernel_rfl) rfl (by first | exact List.nil_sublist _ | exact List.Sublist.refl _ | (repeat (first | exact List.Sublist.refl _ | exact List.nil_sublist _ | refine List.Sublist.cons_cons _ ?_ | refine List.Sublist.cons _ ?_))) (OV.idx1 i u22 se22 rfl rfl rfl (by omega)) rfl ?_
      refine SA.takeA (i := 10) (by repeat (first | exact hPQ | refine PanicOk.then ?_ | refine PanicOk.block ?_ | exact PanicOk.body)) rfl (by kernel_rfl) (by kernel_rfl) (by kernel_rfl) rfl (by kernel_rfl) (by kernel_rfl) (by first | exact List.nil_sublist _ | exact List.Sublist.refl _ | (repeat (first | exact List.Sublist.refl _ | exact List.nil_sublist _ | refine List.Sublist.cons_cons _ ?_ | refine List.Sublist.cons _ ?_))) (OV.loadFr 0 sc23 rfl rfl (by omega)) rfl ?_
      refine SA.takeC (i := 12) (by repeat (first | exact hPQ | refine PanicOk.then ?_ | refine PanicOk.block ?_ | exact PanicOk.body)) rfl (by kernel_rfl) (by kernel_rfl) (by kernel_rfl) rfl (by first | exact List.nil_sublist _ | exact List.Sublist.refl _ | (repeat (first | exact List.Sublist.refl _ | exact List.nil_sublist _ | refine List.Sublist.cons_cons _ ?_ | refine List.Sublist.cons _ ?_))) (OV.move rfl) rfl ?_
      refine SA.all (rs := [11]) (by kernel_rfl) (by simp) (all_cons ?_ (all_nil))
      · skip
        refine SO.e rfl (OE.subF rfl rfl) rfl (fun _ => (by first | exact List.nil_sublist _ | exact List.Sublist.refl _ | (repeat (first | exact List.Sublist.refl _ | exact List.nil_sublist _ | refine List.Sublist.cons_cons _ ?_ | refine List.Sublist.cons _ ?_)))) ?_
        intro r
        refine SA.takeC (i := 13) (by repeat (first | exact hPQ | refine PanicOk.then ?_ | refine PanicOk.block ?_ | exact PanicOk.body)) rfl (by kernel_rfl) (by kernel_rfl) (by kernel_rfl) rfl (by first | exact List.nil_sublist _ | exact List.Sublist.refl _ | (repeat (first | exact List.Sublist.refl _ | exact List.nil_sublist _ | refine List.Sublist.cons_cons _ ?_ | refine List.Sublist.cons _ ?_))) ((OV.leqF rfl rfl).is (v' := .bool (Fl.within s[i + mm - 1]! s[i]! eps)) (by rw [r.2])) rfl ?_
        refine SA.done (by kernel_rfl) ?_
        exact SE.toSt (by repeat' (first | exact trivial | refine ⟨rfl, ?_⟩)) (List.Sublist.refl _)
    refine SC.cond rfl (fun e => ?_) (fun e => ?_)
    · skip
      refine SC.seq ?_
      refine SC.region ?_
      refine SL.y (OV.assign rfl) rfl ?_
      refine SL.nil ?_
      refine SC.then ?_
      refine SC.ret ?_
      repeat (first | refine SE.blockR ?_ | refine SE.thenR ?_)
      exact SE.ret1 Yba.results5 rfl (fun w' hM => ⟨true, rfl, ⟨fun _ => ⟨i, hle', e⟩, fun _ => rfl⟩, hM⟩)
    · refine SC.skip ?_
      refine SE.nb ?_
      refine SC.then ?_
      refine SC.region ?_
      refine SL.y (OV.move rfl) rfl ?_
      refine SL.y (OV.add rfl rfl (wrap_i64 (by omega) (by omega))) rfl ?_
      refine SL.y (OV.assign rfl) rfl ?_
      refine SL.nil ?_
      refine SE.round (i + 1) ⟨.inr (by omega), fun j hj => ?_⟩ (by omega) (by repeat' (first | exact trivial | refine ⟨rfl, ?_⟩)) (List.Sublist.refl _)
      by_cases ej : j = i
      · subst ej; rintro ⟨_, h2⟩; rw [e] at h2; cases h2
      · exact hno j (by omega)
  · refine SC.exit ?_
    refine SE.thenE (SE.thenE (SE.inBlock ?_))
    refine SC.then ?_
    refine SC.seq ?_
    refine SC.region ?_
    refine SL.y (OV.assign rfl) rfl ?_
    refine SL.nil ?_
    refine SC.then ?_
    refine SC.ret ?_
    exact SE.ret1 Yba.results5 rfl (fun w' hM => ⟨false, rfl, ⟨fun h => (by cases h), fun ⟨j, h1, h2⟩ => absurd ⟨h1, h2⟩ (hno j (by omega))⟩, hM⟩)
theorem pf5 : plainFunc Yba.prog 5 = true := by kernel_rfl
end Go.Proofs.Ybulkdrfa
