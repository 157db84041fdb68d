import Derived.Test.YbulkdrfaModel2
namespace Go.Proofs.Ybulkdrfa
open Go Go.RowKit Go.Proofs.Ybulkdrfa.Sym Go.Sort
set_option linter.unusedVariables false
set_option linter.unusedSimpArgs false
set_option maxRecDepth 100000

theorem walkSmall {w : World} {sA : Option Addr} {n c mm eps : Nat} {z : Array Nat} (hn : n ≤ 4096) (hm1 : 1 ≤ mm) (hm2 : mm ≤ 9223372036854775807) (hz : z.size = n) (hc : Came w sA z) :
    Calls Yba.prog 3 #[.slice sA n c, .int .i64 mm, .float .f64 eps] w fun e w' => e = .returned (.bool true) ∧ Below w.heap.size w w' := by
  refine Calls.of_SC (args := [.slice sA n c, .int .i64 mm, .float .f64 eps]) Yba.func3 rfl (by simp [Yba.f3]) (Mm.start w) ?_
  have hPQ : PanicOk (bodyPost Yba.prog Yba.f3 (fun e w' => e = .returned (.bool true) ∧ Below w.heap.size w w')) := PanicOk.body
  have hms := model_size z
  have hev : ∀ i, i < n → Fl.Eqv (sort Fl.lt z)[i]! (model z)[i]! := fun i hi => sort_eqv z (by omega)
  have hss := sort_size z
  refine SC.seq ?_
  refine SC.region ?_
  refine SL.y (OV.assign rfl) rfl ?_
  refine SL.nil ?_
  refine SC.then ?_
  refine SC.seq ?_
  refine SC.seq ?_
  refine SC.region ?_
  refine SL.y (OV.move rfl) rfl ?_
  refine SL.y (OV.len u22 rfl) rfl ?_
  refine SL.y ((OV.gtr rfl rfl).no (by omega)) rfl ?_
  refine SL.y (OV.move rfl) rfl ?_
  refine SL.yg rfl rfl (OV.move rfl) rfl ?_
  refine SL.yg rfl rfl ((OV.lss rfl rfl).no (by omega)) rfl ?_
  refine SL.y (OV.pickF rfl rfl) rfl ?_
  refine SL.nil ?_
  refine SC.then ?_
  refine SC.cond rfl (fun e => by cases e) (fun _ => ?_)
  refine SC.skip ?_
  refine SC.then ?_
  refine SC.seq ?_
  refine SC.region ?_
  refine SL.y (OV.move rfl) rfl ?_
  refine SL.call (σ := Nat) (V := fun b => sl b n n) (M := fun b => [(b, fr (model z))]) (G := fun _ => True) pf4 (args1 rfl) (fun w' hM => (call4 (by omega) hz (hc.of_Mm hM (by simp))).mono fun e w'' ⟨b, he, hM'⟩ => ⟨b, he, trivial, hM.callee0 hM'⟩) rfl ?_
  intro b7 _
  refine SL.y (OV.assign rfl) rfl ?_
  refine SL.nil ?_
  refine SC.then ?_
  refine SC.seq ?_
  refine SC.region ?_
  refine SL.y (OV.assign rfl) rfl ?_
  refine SL.nil ?_
  refine SC.then ?_
  refine SC.cutG (fun t : Bool => [(8, .bool t), (7, sl b7 n n), (0, .slice sA n c), (1, .int .i64 mm), (2, .float .f64 eps)]) (fun _ => [(b7, fr (model z))]) (fun t => t = true ↔ Spans (model z) n mm eps) ?_ ?_
  · skip
    refine SC.seq ?_
    refine SC.region ?_
    refine SL.y (OV.move rfl) rfl ?_
    refine SL.y (OV.move rfl) rfl ?_
    refine SL.y (OV.len u22 rfl) rfl ?_
    refine SL.y (OV.leq rfl rfl) rfl ?_
    refine SL.nil ?_
    refine SC.then ?_
    refine SC.condP rfl (fun hle => ?_) (fun hgt => ?_)
    · have hle' : mm ≤ n := by omega
      refine SC.seq ?_
      refine SC.region ?_
      refine SL.y (OV.assign rfl) rfl ?_
      refine SL.nil ?_
      refine SC.then ?_
      refine SC.block ?_
      refine SC.loop (fun i : Nat => [(8, .bool false), (7, sl b7 n n), (0, .slice sA n c), (1, .int .i64 mm), (2, .float .f64 eps), (9, .int .i64 i)]) (fun i => [(b7, fr (model z))]) (fun i => i + mm ≤ n + 1 ∧ ∀ j, j < i → ¬ (j + mm ≤ n ∧ Fl.within (model z)[j + mm - 1]! (model z)[j]! eps = true)) (fun i => n + 1 - i) 0 ⟨by omega, fun j hj => absurd hj (Nat.not_lt_zero j)⟩ (by repeat' (first | exact trivial | refine ⟨rfl, ?_⟩)) (List.Sublist.refl _) ?_
      rintro i ⟨hi, hno⟩
      refine SC.seq ?_
      refine SC.seq ?_
      refine SC.region ?_
      refine SL.y (OV.move rfl) rfl ?_
      refine SL.y (OV.move rfl) rfl ?_
      refine SL.y (OV.len u22 rfl) rfl ?_
      refine SL.y (OV.move rfl) rfl ?_
      refine SL.y (OV.sub (r := (n : Int) - mm) rfl rfl (by rw [wrap_i64 (by omega) (by omega)])) rfl ?_
      refine SL.y (OV.leq rfl rfl) rfl ?_
      refine SL.nil ?_
      refine SC.then ?_
      refine SC.condP rfl (fun hle2 => ?_) (fun hgt2 => ?_)
      · have hle3 : i + mm ≤ n := by omega
        refine SC.skip ?_
        refine SC.then ?_
        refine SC.seq ?_
        refine SC.block ?_
        refine SC.seq ?_
        refine SC.region ?_
        refine SL.y (OV.move rfl) rfl ?_
        refine SL.y (OV.move rfl) rfl ?_
        refine SL.y (OV.add (r := ((i + mm : Nat) : Int)) rfl rfl (by rw [wrap_i64 (by omega) (by omega)]; omega)) rfl ?_
        refine SL.y (OV.sub (r := ((i + mm - 1 : Nat) : Int)) rfl rfl (by rw [wrap_i64 (by omega) (by omega)]; omega)) rfl ?_
        refine SL.y (OV.assign rfl) rfl ?_
        refine SL.nil ?_
        refine SC.then ?_
        refine SC.cutSt [(51, .bool (Fl.within (model z)[i + mm - 1]! (model z)[i]! eps)), (8, .bool false), (7, sl b7 n n), (0, .slice sA n c), (1, .int .i64 mm), (2, .float .f64 eps), (9, .int .i64 i)] [(b7, fr (model z))] ?_ ?_
        · skip
          refine SC.held 8 [(b7, fr (model z))] [(b7, fr (model z))] mixed ?_
          refine SA.takeC (i := 0) (by repeat (first | exact hPQ | refine PanicOk.then ?_ | refine PanicOk.block ?_ | exact PanicOk.body)) rfl (by kernel_rfl) (by kernel_rfl) (by kernel_rfl) rfl (by first | exact List.nil_sublist _ | exact List.Sublist.refl _ | (repeat (first | exact List.Sublist.refl _ | exact List.nil_sublist _ | refine List.Sublist.cons_cons _ ?_ | refine List.Sublist.cons _ ?_))) (OV.move rfl) rfl ?_
          refine SA.takeC (i := 1) (by repeat (first | exact hPQ | refine PanicOk.then ?_ | refine PanicOk.block ?_ | exact PanicOk.body)) rfl (by kernel_rfl) (by kernel_rfl) (by kernel_rfl) rfl (by first | exact List.nil_sublist _ | exact List.Sublist.refl _ | (repeat (first | exact List.Sublist.refl _ | exact List.nil_sublist _ | refine List.Sublist.cons_cons _ ?_ | refine List.Sublist.cons _ ?_))) (OV.move rfl) rfl ?_
          refine SA.takeC (i := 2) (by repeat (first | exact hPQ | refine PanicOk.then ?_ | refine PanicOk.block ?_ | exact PanicOk.body)) rfl (by kernel_rfl) (by kernel_rfl) (by kernel_rfl) rfl (by first | exact List.nil_sublist _ | exact List.Sublist.refl _ | (repeat (first | exact List.Sublist.refl _ | exact List.nil_sublist _ | refine List.Sublist.cons_cons _ ?_ | refine List.Sublist.cons _ ?_))) (OV.idx1 (i + mm - 1) u22 se22 rfl rfl rfl (by omega)) rfl ?_
          refine SA.takeA (i := 3) (by repeat (first | exact hPQ | refine PanicOk.then ?_ | refine PanicOk.block ?_ | exact PanicOk.body)) rfl (by kernel_rfl) (by kernel_rfl) (by kernel_rfl) rfl (by kernel_rfl) (by kernel_rfl) (by first | exact List.nil_sublist _ | exact List.Sublist.refl _ | (repeat (first | exact List.Sublist.refl _ | exact List.nil_sublist _ | refine List.Sublist.cons_cons _ ?_ | refine List.Sublist.cons _ ?_))) (OV.loadFr 0 sc23 rfl rfl (by omega)) rfl ?_
          refine SA.takeC (i := 4) (by repeat (first | exact hPQ | refine PanicOk.then ?_ | refine PanicOk.block ?_ | exact PanicOk.body)) rfl (by kernel_rfl) (by kernel_rfl) (by kernel_rfl) rfl (by first | exact List.nil_sublist _ | exact List.Sublist.refl _ | (repeat (first | exact List.Sublist.refl _ | exact List.nil_sublist _ | refine List.Sublist.cons_cons _ ?_ | refine List.Sublist.cons _ ?_))) (OV.move rfl) rfl ?_
          refine SA.takeC (i := 5) (by repeat (first | exact hPQ | refine PanicOk.then ?_ | refine PanicOk.block ?_ | exact PanicOk.body)) rfl (by kernel_rfl) (by kernel_rfl) (by kernel_rfl) rfl (by first | exact List.nil_sublist _ | exact List.Sublist.refl _ | (repeat (first | exact List.Sublist.refl _ | exact List.nil_sublist _ | refine List.Sublist.cons_cons _ ?_ | refine List.Sublist.cons _ ?_))) (OV.move rfl) rfl ?_
          refine SA.takeC (i := 6) (by repeat (first | exact hPQ | refine PanicOk.then ?_ | refine PanicOk.block ?_ | exact PanicOk.body)) rfl (by kernel_rfl) (by kernel_rfl) (by kernel_rfl) rfl (by first | exact List.nil_sublist _ | exact List.Sublist.refl _ | (repeat (first | exact List.Sublist.refl _ | exact List.nil_sublist _ | refine List.Sublist.cons_cons _ ?_ | refine List.Sublist.cons _ ?_))) (OV.idx1 i u22 se22 rfl rfl rfl (by omega)) rfl ?_
          refine SA.takeA (i := 7) (by repeat (first | exact hPQ | refine PanicOk.then ?_ | refine PanicOk.block ?_ | exact PanicOk.body)) rfl (by kernel_rfl) (by kernel_rfl) (by kernel_rfl) rfl (by kernel_rfl) (by kernel_rfl) (by first | exact List.nil_sublist _ | exact List.Sublist.refl _ | (repeat (first | exact List.Sublist.refl _ | exact List.nil_sublist _ | refine List.Sublist.cons_cons _ ?_ | refine List.Sublist.cons _ ?_))) (OV.loadFr 0 sc23 rfl rfl (by omega)) rfl ?_
          refine SA.takeC (i := 9) (by repeat (first | exact hPQ | refine PanicOk.then ?_ | refine PanicOk.block ?_ | exact PanicOk.body)) rfl (by kernel_rfl) (by kernel_rfl) (by kernel_rfl) rfl (by first | exact List.nil_sublist _ | exact List.Sublist.refl _ | (repeat (first | exact List.Sublist.refl _ | exact List.nil_sublist _ | refine List.Sublist.cons_cons _ ?_ | refine List.Sublist.cons _ ?_))) (OV.move rfl) rfl ?_
          refine SA.all (rs := [8]) (by kernel_rfl) (by simp) (all_cons ?_ (all_nil))
          · skip
            refine SO.e rfl (OE.subF rfl rfl) rfl (fun _ => (by first | exact List.nil_sublist _ | exact List.Sublist.refl _ | (repeat (first | exact List.Sublist.refl _ | exact List.nil_sublist _ | refine List.Sublist.cons_cons _ ?_ | refine List.Sublist.cons _ ?_)))) ?_
            intro r
            refine SA.takeC (i := 10) (by repeat (first | exact hPQ | refine PanicOk.then ?_ | refine PanicOk.block ?_ | exact PanicOk.body)) rfl (by kernel_rfl) (by kernel_rfl) (by kernel_rfl) rfl (by first | exact List.nil_sublist _ | exact List.Sublist.refl _ | (repeat (first | exact List.Sublist.refl _ | exact List.nil_sublist _ | refine List.Sublist.cons_cons _ ?_ | refine List.Sublist.cons _ ?_))) ((OV.leqF rfl rfl).is (v' := .bool (Fl.within (model z)[i + mm - 1]! (model z)[i]! eps)) (by rw [r.2])) rfl ?_
            refine SA.done (by kernel_rfl) ?_
            exact SE.toSt (by repeat' (first | exact trivial | refine ⟨rfl, ?_⟩)) (List.Sublist.refl _)
        refine SC.cond rfl (fun e => ?_) (fun e => ?_)
        · skip
          refine SC.seq ?_
          refine SC.region ?_
          refine SL.y (OV.assign rfl) rfl ?_
          refine SL.nil ?_
          refine SC.then ?_
          refine SC.exit ?_
          refine SE.inBlock_ne rfl ?_
          refine SE.thenE (SE.thenE (SE.inBlock ?_))
          exact SE.toG true ⟨fun _ => ⟨i, hle3, e⟩, fun _ => rfl⟩ (by repeat' (first | exact trivial | refine ⟨rfl, ?_⟩)) (List.Sublist.refl _)
        · refine SC.skip ?_
          refine SE.nb ?_
          refine SC.then ?_
          refine SC.region ?_
          refine SL.y (OV.move rfl) rfl ?_
          refine SL.y (OV.add rfl rfl (wrap_i64 (by omega) (by omega))) rfl ?_
          refine SL.y (OV.assign rfl) rfl ?_
          refine SL.nil ?_
          refine SE.round (i + 1) ⟨by omega, fun j hj => ?_⟩ (by omega) (by repeat' (first | exact trivial | refine ⟨rfl, ?_⟩)) (List.Sublist.refl _)
          by_cases ej : j = i
          · subst ej; rintro ⟨_, h2⟩; rw [e] at h2; cases h2
          · exact hno j (by omega)
      · refine SC.exit ?_
        refine SE.thenE (SE.thenE (SE.inBlock ?_))
        exact SE.toG false ⟨fun h => (by cases h), fun ⟨j, h1, h2⟩ => absurd ⟨h1, h2⟩ (hno j (by omega))⟩ (by repeat' (first | exact trivial | refine ⟨rfl, ?_⟩)) (List.Sublist.refl _)
    · refine SC.skip ?_
      exact SE.toG false ⟨fun h => (by cases h), fun ⟨j, h1, h2⟩ => by omega⟩ (by repeat' (first | exact trivial | refine ⟨rfl, ?_⟩)) (List.Sublist.refl _)
  intro t ht
  refine SC.seq ?_
  refine SC.region ?_
  refine SL.y (OV.move rfl) rfl ?_
  refine SL.y (OV.len u22 rfl) rfl ?_
  refine SL.e (OE.makeF n rfl rfl (by omega)) rfl ?_
  intro b11
  refine SL.y (OV.assign rfl) rfl ?_
  refine SL.nil ?_
  refine SC.then ?_
  refine SC.seq ?_
  refine SC.region ?_
  refine SL.y (OV.move rfl) rfl ?_
  refine SL.y (OV.move rfl) rfl ?_
  refine SL.e (OE.copyF 1 rfl rfl rfl (by simp) hz hc (by simp)) rfl ?_
  intro _
  refine SL.nil ?_
  refine SC.then ?_
  refine SC.seq ?_
  refine SC.region ?_
  refine SL.y (OV.move rfl) rfl ?_
  refine SL.y (OV.move rfl) rfl ?_
  refine SL.y (OV.move rfl) rfl ?_
  refine SL.call (σ := Bool) (V := fun r => .bool r) (M := fun _ => [(b7, fr (model z)), (b11, fr (sort Fl.lt z))]) (G := fun r => r = true ↔ Spans (sort Fl.lt z) n mm eps) pf5 (args3 rfl rfl rfl) (fun w' hM => (call5 (by omega) hz hm1 hm2 (hM.block (j := 1) rfl)).mono fun e w'' ⟨r, he, hr, hM'⟩ => ⟨r, he, hr, Mm.callee1 (j := 1) hM hM' rfl⟩) rfl ?_
  intro r hr
  refine SL.y (OV.assign rfl) rfl ?_
  refine SL.nil ?_
  refine SC.then ?_
  have hrt : r = t := by
    rw [Bool.eq_iff_iff, hr, ht, ← hz]
    exact spans_model z hm1
  subst hrt
  refine SC.seq ?_
  refine SC.seq ?_
  refine SC.region ?_
  refine SL.y (OV.move rfl) rfl ?_
  refine SL.y (OV.move rfl) rfl ?_
  refine SL.y ((OV.neqB u4 rfl rfl).is (v' := .bool false) (by simp)) rfl ?_
  refine SL.nil ?_
  refine SC.then ?_
  refine SC.cond rfl (fun e => by cases e) (fun _ => ?_)
  refine SC.skip ?_
  refine SC.then ?_
  refine SC.seq ?_
  refine SC.seq ?_
  refine SC.region ?_
  refine SL.y (OV.assign rfl) rfl ?_
  refine SL.nil ?_
  refine SC.then ?_
  refine SC.block ?_
  refine SC.loop (fun i : Nat => [(13, .int .i64 i), (7, sl b7 n n), (11, sl b11 n n), (0, .slice sA n c), (1, .int .i64 mm), (2, .float .f64 eps)]) (fun i => [(b7, fr (model z)), (b11, fr (sort Fl.lt z))]) (fun i => i ≤ n) (fun i => n - i) 0 (by omega) (by repeat' (first | exact trivial | refine ⟨rfl, ?_⟩)) (List.Sublist.refl _) ?_
  intro i hi
  refine SC.seq ?_
  refine SC.seq ?_
  refine SC.region ?_
  refine SL.y (OV.move rfl) rfl ?_
  refine SL.y (OV.move rfl) rfl ?_
  refine SL.y (OV.len u22 rfl) rfl ?_
  refine SL.y (OV.lss rfl rfl) rfl ?_
  refine SL.nil ?_
  refine SC.then ?_
  refine SC.condP rfl (fun hlt => ?_) (fun hge => ?_)
  · have hlt' : i < n := by omega
    have hE := hev i hlt'
    refine SC.skip ?_
    refine SC.then ?_
    refine SC.cutSt [(13, .int .i64 i), (7, sl b7 n n), (11, sl b11 n n), (0, .slice sA n c), (1, .int .i64 mm), (2, .float .f64 eps)] [(b7, fr (model z)), (b11, fr (sort Fl.lt z))] ?_ ?_
    · refine SC.block ?_
      refine SC.seq ?_
      refine SC.region ?_
      refine SL.y (OV.move rfl) rfl ?_
      refine SL.y (OV.move rfl) rfl ?_
      refine SL.y (OV.idx1 i u22 se22 rfl rfl rfl (by omega)) rfl ?_
      refine SL.y (OV.loadFr 1 sc23 rfl rfl (by omega)) rfl ?_
      refine SL.y (OV.assign rfl) rfl ?_
      refine SL.nil ?_
      refine SC.then ?_
      refine SC.seq ?_
      refine SC.region ?_
      refine SL.y (OV.move rfl) rfl ?_
      refine SL.y (OV.move rfl) rfl ?_
      refine SL.y (OV.idx1 i u22 se22 rfl rfl rfl (by omega)) rfl ?_
      refine SL.y (OV.loadFr 0 sc23 rfl rfl (by omega)) rfl ?_
      refine SL.y (OV.assign rfl) rfl ?_
      refine SL.nil ?_
      refine SC.then ?_
      generalize (sort Fl.lt z)[i]! = a at hE ⊢
      generalize (model z)[i]! = b at hE ⊢
      rcases hE with ⟨h1, h2⟩ | ⟨h1, h2, h3⟩
      · skip
        refine SC.seq ?_
        refine SC.region ?_
        refine SL.y (OV.move rfl) rfl ?_
        refine SL.y (OV.move rfl) rfl ?_
        refine SL.y ((OV.neqF rfl rfl).is (v' := .bool true) (by rw [eql_self, h1]; rfl)) rfl ?_
        refine SL.nil ?_
        refine SC.then ?_
        refine SC.cond rfl (fun _ => ?_) (fun e => by cases e)
        refine SC.seq ?_
        refine SC.region ?_
        refine SL.y (OV.move rfl) rfl ?_
        refine SL.y (OV.move rfl) rfl ?_
        refine SL.y ((OV.eqlF rfl rfl).is (v' := .bool false) (by rw [eql_self, h2]; rfl)) rfl ?_
        refine SL.nil ?_
        refine SC.then ?_
        refine SC.cond rfl (fun e => by cases e) (fun _ => ?_)
        refine SC.skip ?_
        exact SE.nb (SE.toSt (by repeat' (first | exact trivial | refine ⟨rfl, ?_⟩)) (List.Sublist.refl _))
      · skip
        refine SC.seq ?_
        refine SC.region ?_
        refine SL.y (OV.move rfl) rfl ?_
        refine SL.y (OV.move rfl) rfl ?_
        refine SL.y ((OV.neqF rfl rfl).is (v' := .bool false) (by rw [eql_self, h1]; rfl)) rfl ?_
        refine SL.nil ?_
        refine SC.then ?_
        refine SC.cond rfl (fun e => by cases e) (fun _ => ?_)
        refine SC.seq ?_
        refine SC.region ?_
        refine SL.y (OV.move rfl) rfl ?_
        refine SL.y (OV.move rfl) rfl ?_
        refine SL.y ((OV.neqF rfl rfl).is (v' := .bool false) (by rw [Fl.eql_eq, h1, h2]; simp [h3])) rfl ?_
        refine SL.nil ?_
        refine SC.then ?_
        refine SC.cond rfl (fun e => by cases e) (fun _ => ?_)
        refine SC.skip ?_
        exact SE.nb (SE.toSt (by repeat' (first | exact trivial | refine ⟨rfl, ?_⟩)) (List.Sublist.refl _))
    refine SC.region ?_
    refine SL.y (OV.move rfl) rfl ?_
    refine SL.y (OV.add rfl rfl (wrap_i64 (by omega) (by omega))) rfl ?_
    refine SL.y (OV.assign rfl) rfl ?_
    refine SL.nil ?_
    exact SE.round (i + 1) (by omega) (by omega) (by repeat' (first | exact trivial | refine ⟨rfl, ?_⟩)) (List.Sublist.refl _)
  · refine SC.exit ?_
    refine SE.thenE (SE.thenE (SE.inBlock ?_))
    refine SC.then ?_
    refine SC.seq ?_
    refine SC.region ?_
    refine SL.y (OV.assign rfl) rfl ?_
    refine SL.nil ?_
    refine SC.then ?_
    refine SC.ret ?_
    exact SE.ret1 Yba.results3 rfl (fun w' hM => ⟨rfl, hM.below⟩)

theorem walk {w : World} {sA : Option Addr} {n c : Nat} {m : Int} {eps : Nat} {z : Array Nat} (hm1 : -9223372036854775808 ≤ m) (hm2 : m ≤ 9223372036854775807) (hz : z.size = n) (hc : Came w sA z) :
    Calls Yba.prog 3 #[.slice sA n c, .int .i64 m, .float .f64 eps] w fun e w' => e = .returned (.bool true) ∧ Below w.heap.size w w' := by
  by_cases hbig : 4096 < n
  · refine Calls.of_SC (args := [.slice sA n c, .int .i64 m, .float .f64 eps]) Yba.func3 rfl (by simp [Yba.f3]) (Mm.start w) ?_
    refine SC.seq ?_
    refine SC.region ?_
    refine SL.y (OV.assign rfl) rfl ?_
    refine SL.nil ?_
    refine SC.then ?_
    refine SC.seq ?_
    refine SC.seq ?_
    refine SC.region ?_
    refine SL.y (OV.move rfl) rfl ?_
    refine SL.y (OV.len u22 rfl) rfl ?_
    refine SL.y ((OV.gtr rfl rfl).yes (by omega)) rfl ?_
    refine SL.y (OV.move rfl) rfl ?_
    refine SL.skip rfl rfl rfl ?_
    refine SL.skip rfl rfl rfl ?_
    refine SL.y (OV.pickT rfl rfl) rfl ?_
    refine SL.nil ?_
    refine SC.then ?_
    refine SC.cond rfl (fun _ => ?_) (fun e => by cases e)
    refine SC.seq ?_
    refine SC.region ?_
    refine SL.y (OV.assign rfl) rfl ?_
    refine SL.nil ?_
    refine SC.then ?_
    refine SC.ret ?_
    repeat (first | refine SE.blockR ?_ | refine SE.thenR ?_)
    exact SE.ret1 Yba.results3 rfl (fun w' hM => ⟨rfl, hM.below⟩)
  by_cases hneg : m < 1
  · refine Calls.of_SC (args := [.slice sA n c, .int .i64 m, .float .f64 eps]) Yba.func3 rfl (by simp [Yba.f3]) (Mm.start w) ?_
    refine SC.seq ?_
    refine SC.region ?_
    refine SL.y (OV.assign rfl) rfl ?_
    refine SL.nil ?_
    refine SC.then ?_
    refine SC.seq ?_
    refine SC.seq ?_
    refine SC.region ?_
    refine SL.y (OV.move rfl) rfl ?_
    refine SL.y (OV.len u22 rfl) rfl ?_
    refine SL.y ((OV.gtr rfl rfl).no (by omega)) rfl ?_
    refine SL.y (OV.move rfl) rfl ?_
    refine SL.yg rfl rfl (OV.move rfl) rfl ?_
    refine SL.yg rfl rfl ((OV.lss rfl rfl).yes (by omega)) rfl ?_
    refine SL.y (OV.pickF rfl rfl) rfl ?_
    refine SL.nil ?_
    refine SC.then ?_
    refine SC.cond rfl (fun _ => ?_) (fun e => by cases e)
    refine SC.seq ?_
    refine SC.region ?_
    refine SL.y (OV.assign rfl) rfl ?_
    refine SL.nil ?_
    refine SC.then ?_
    refine SC.ret ?_
    repeat (first | refine SE.blockR ?_ | refine SE.thenR ?_)
    exact SE.ret1 Yba.results3 rfl (fun w' hM => ⟨rfl, hM.below⟩)
  obtain ⟨mm, rfl⟩ : ∃ mm : Nat, m = mm := ⟨m.toNat, by omega⟩
  exact walkSmall (by omega) (by omega) (by omega) hz hc
end Go.Proofs.Ybulkdrfa
