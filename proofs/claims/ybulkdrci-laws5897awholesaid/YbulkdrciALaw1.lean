import Derived.Test.YbulkdrciALib
namespace Go.Proofs.Ybulkdrci.A
open Go Go.RowKit Go.Proofs.Ybulkdrci.A.Sym
set_option linter.unusedVariables false
set_option linter.unusedSimpArgs false
set_option maxRecDepth 100000


/-! ### The law's own data -/
def nmf (i : Nat) : ByteArray := Utf8.encode ((97 : Int) + (i : Int).tmod 26)
def rF (nr : Nat) (Rf : Nat → Bool) (i : Nat) : Bool := decide (i < nr) && Rf i
def pcl (Fl : Nat → Int) (r : Nat → Bool) (k q : Nat) : Value := if q = 0 then .string (nmf k) else if q = 1 then .int .u8 (Fl k) else if q = 2 then .bool (r k) else .slice none 0 0
def zcl (q : Nat) : Value := if q = 0 then .string ⟨#[]⟩ else if q = 1 then .int .u8 0 else if q = 2 then .bool false else .slice none 0 0
def ppc (Fl : Nat → Int) (r : Nat → Bool) (i o : Nat) : Value := if o / 4 < i then pcl Fl r (o / 4) (o % 4) else zcl (o % 4)
theorem pp_made (Fl : Nat → Int) (r : Nat → Bool) (N : Nat) : (madeCells (Value.agg #[.string ⟨#[]⟩, .int .u8 0, .bool false, .slice none 0 0]).cells N).toList = tab N (ppc Fl r 0) := by
  refine madeCells_tab _ _ _ fun q hq => ?_
  show (#[Value.string ⟨#[]⟩, .int .u8 0, .bool false, .slice none 0 0] : Array Value)[q % 4]! = ppc Fl r 0 q
  unfold ppc
  rw [if_neg (by omega)]
  unfold zcl
  have h : q % 4 = 0 ∨ q % 4 = 1 ∨ q % 4 = 2 ∨ q % 4 = 3 := by omega
  rcases h with e | e | e | e <;> rw [e] <;> rfl
theorem pp_more {Fl : Nat → Int} {r : Nat → Bool} {i n : Nat} (hi : i < n) : (tab (n * 4) (ppc Fl r i)).take (0 + i * 4) ++ [.string (nmf i), .int .u8 (Fl i), .bool (r i), .slice none 0 0] ++ (tab (n * 4) (ppc Fl r i)).drop (0 + i * 4 + 4) = tab (n * 4) (ppc Fl r (i + 1)) := by
  refine tab_splice (ys := [.string (nmf i), .int .u8 (Fl i), .bool (r i), .slice none 0 0]) (by show 0 + i * 4 + 4 ≤ n * 4; omega) (fun q hq h => ?_) (fun q v h => ?_)
  · have h' : q < 0 + i * 4 ∨ 0 + i * 4 + 4 ≤ q := h
    unfold ppc
    have : (q / 4 < i + 1) ↔ (q / 4 < i) := by omega
    simp only [this]
  · have hq : q < 4 := (List.getElem?_eq_some_iff.1 h).1
    have e1 : (0 + i * 4 + q) / 4 = i := by omega
    have e2 : (0 + i * 4 + q) % 4 = q := by omega
    unfold ppc
    rw [e1, e2, if_pos (by omega)]
    have hc : q = 0 ∨ q = 1 ∨ q = 2 ∨ q = 3 := by omega
    rcases hc with rfl | rfl | rfl | rfl <;> cases h <;> rfl
theorem pp_one (a : ByteArray) (f : Int) (b : Bool) : ∀ u ∈ (Value.agg #[.string a, .int .u8 f, .bool b, .slice none 0 0]).cells.toList, u.oneCell' = true := by
  intro u hu
  simp [Value.cells] at hu
  rcases hu with rfl | rfl | rfl | rfl <;> rfl
theorem bldP (a : ByteArray) (f : Int) (b : Bool) (w : World) : (Instr.build 28 #[(0, .string a), (1, .int .u8 f), (2, .bool b)]).run Yba.prog w = .ok (.agg #[.string a, .int .u8 f, .bool b, .slice none 0 0]) w := by kernel_rfl
/-- zzs5897aname -/
theorem call5 {i : Nat} (hi : i ≤ 100000) (w : World) : Calls Yba.prog 5 #[.int .i64 i] w fun e w' => e = .returned (.string (nmf i)) ∧ Mm w [] [] w' := by
  have h1 : (i : Int).tmod 26 < 26 := Int.tmod_lt_of_pos _ (by decide)
  have h2 : 0 ≤ (i : Int).tmod 26 := Int.tmod_nonneg _ (by omega)
  refine Calls.of_SC (args := [.int .i64 i]) Yba.func5 rfl (by simp [Yba.f5]) (Mm.start w) ?_
  refine SC.seq ?_
  refine SC.region ?_
  refine SL.y (OV.assign rfl) rfl ?_
  refine SL.nil ?_
  refine SC.then ?_
  refine SC.seq ?_
  refine SC.region ?_
  refine SL.y (OV.move rfl) rfl ?_
  refine SL.y (OV.rem rfl rfl (by decide) rfl) rfl ?_
  refine SL.y (OV.add rfl rfl (wrap_i64 (by omega) (by omega))) rfl ?_
  refine SL.y (OV.conv u3 u21 rfl (wrap_i32 (by omega) (by omega))) rfl ?_
  refine SL.y (OV.convStr u21 u9 rfl) rfl ?_
  refine SL.y (OV.assign rfl) rfl ?_
  refine SL.nil ?_
  refine SC.then ?_
  refine SC.ret ?_
  exact SE.ret1 Yba.results5 rfl (fun w' hM => ⟨rfl, hM⟩)
theorem pf5 : plainFunc Yba.prog 5 = true := by kernel_rfl
/-- What comes in. -/
structure LIn (w : World) (sA : Option Addr) (n : Nat) (Fl : Nat → Int) (rA : Option Addr) (nr : Nat) (Rf : Nat → Bool) : Prop where
  f : ∀ i, i < n → ∃ A, sA = some A ∧ w.cell? (A.add i) = some (.int .u8 (Fl i))
  r : ∀ i, i < nr → ∃ A, rA = some A ∧ w.cell? (A.add i) = some (.bool (Rf i))
section
variable {w : World} {Q : Exit → Act → World → Prop} {co ct : ByteArray} {cf calls term : Int} {sA rA : Option Addr} {n cF nr cR : Nat} {Fl : Nat → Int} {Rf : Nat → Bool}
/-- The participants are built. -/
theorem stage1 {bp : Nat} (hPQ : PanicOk Q) (hn : n ≤ 1024) (hL : LIn w sA n Fl rA nr Rf)
    (h : SE (Q .normal) Yba.f3.ntmps [(15, .int .i64 n), (16, .slice (some ⟨bp, 0, none⟩) n n), (0, .string co), (1, .int .u8 cf), (2, .string ct), (3, .int .i64 calls), (4, .int .u8 term), (5, .slice sA n cF), (6, .slice rA nr cR)] w [] [(bp, row 28 (tab (n * 4) (ppc Fl (rF nr Rf) n)))]) :
    SC Yba.prog (sub [1, 1, 1, 1, 0] (Yba.f3.body.getD .skip)) Q Yba.f3.ntmps [(15, .int .i64 n), (16, .slice (some ⟨bp, 0, none⟩) n n), (0, .string co), (1, .int .u8 cf), (2, .string ct), (3, .int .i64 calls), (4, .int .u8 term), (5, .slice sA n cF), (6, .slice rA nr cR)] w [] [(bp, row 28 (tab (n * 4) (ppc Fl (rF nr Rf) 0)))] := by
  obtain ⟨i28, hi28, hz28, hs28, hb28⟩ := info_parts info28
  refine SC.seq ?_
  refine SC.region ?_
  refine SL.y (OV.assign rfl) rfl ?_
  refine SL.nil ?_
  refine SC.then ?_
  refine SC.block ?_
  refine SC.loop (fun i : Nat => [(17, .int .i64 i), (15, .int .i64 n), (16, .slice (some ⟨bp, 0, none⟩) n n), (0, .string co), (1, .int .u8 cf), (2, .string ct), (3, .int .i64 calls), (4, .int .u8 term), (5, .slice sA n cF), (6, .slice rA nr cR)]) (fun i => [(bp, row 28 (tab (n * 4) (ppc Fl (rF nr Rf) i)))]) (fun i => i ≤ n) (fun i => n - i) 0 (by omega) (by repeat' (first | exact trivial | refine ⟨rfl, ?_⟩)) (List.Sublist.refl _) ?_
  intro i hin
  refine SC.seq ?_
  refine SC.seq ?_
  refine SC.region ?_
  refine SL.y (OV.move rfl) rfl ?_
  refine SL.y (OV.move rfl) rfl ?_
  refine SL.y (OV.lss rfl rfl) rfl ?_
  refine SL.nil ?_
  refine SC.then ?_
  refine SC.condP rfl (fun hlt => ?_) (fun hge => ?_)
  · have hlt' : i < n := by omega
    obtain ⟨A, hA, hAc⟩ := hL.f i hlt'
    refine SC.skip ?_
    refine SC.then ?_
    refine SC.cutSt [(17, .int .i64 i), (15, .int .i64 n), (16, .slice (some ⟨bp, 0, none⟩) n n), (0, .string co), (1, .int .u8 cf), (2, .string ct), (3, .int .i64 calls), (4, .int .u8 term), (5, .slice sA n cF), (6, .slice rA nr cR)] [(bp, row 28 (tab (n * 4) (ppc Fl (rF nr Rf) (i + 1))))] ?_ ?_
    · refine SC.block ?_
      by_cases hir : i < nr
      · obtain ⟨AR, hR, hRc⟩ := hL.r i hir
        have hrt : rF nr Rf i = Rf i := by unfold rF; simp [hir]
        refine SC.held 20 [(bp, row 28 (tab (n * 4) (ppc Fl (rF nr Rf) i)))] [] mixed ?_
        refine SA.takeZ (i := 0) [20] (by repeat (first | exact hPQ | refine PanicOk.then ?_ | refine PanicOk.block ?_ | exact PanicOk.body)) rfl rfl (by kernel_rfl) (by kernel_rfl) (by kernel_rfl) rfl (by kernel_rfl) (by kernel_rfl) (by kernel_rfl) (by first | exact List.nil_sublist _ | exact List.Sublist.refl _ | (repeat (first | exact List.Sublist.refl _ | exact List.nil_sublist _ | refine List.Sublist.cons_cons _ ?_ | refine List.Sublist.cons _ ?_))) (yiN (OV.move rfl)) rfl ?_
        refine SA.takeZ (i := 1) [20] (by repeat (first | exact hPQ | refine PanicOk.then ?_ | refine PanicOk.block ?_ | exact PanicOk.body)) rfl rfl (by kernel_rfl) (by kernel_rfl) (by kernel_rfl) rfl (by kernel_rfl) (by kernel_rfl) (by kernel_rfl) (by first | exact List.nil_sublist _ | exact List.Sublist.refl _ | (repeat (first | exact List.Sublist.refl _ | exact List.nil_sublist _ | refine List.Sublist.cons_cons _ ?_ | refine List.Sublist.cons _ ?_))) (yiN (OV.move rfl)) rfl ?_
        refine SA.takeZ (i := 2) [20] (by repeat (first | exact hPQ | refine PanicOk.then ?_ | refine PanicOk.block ?_ | exact PanicOk.body)) rfl rfl (by kernel_rfl) (by kernel_rfl) (by kernel_rfl) rfl (by kernel_rfl) (by kernel_rfl) (by kernel_rfl) (by first | exact List.nil_sublist _ | exact List.Sublist.refl _ | (repeat (first | exact List.Sublist.refl _ | exact List.nil_sublist _ | refine List.Sublist.cons_cons _ ?_ | refine List.Sublist.cons _ ?_))) (yiN (OV.move rfl)) rfl ?_
        refine SA.takeZ (i := 4) [20] (by repeat (first | exact hPQ | refine PanicOk.then ?_ | refine PanicOk.block ?_ | exact PanicOk.body)) rfl rfl (by kernel_rfl) (by kernel_rfl) (by kernel_rfl) rfl (by kernel_rfl) (by kernel_rfl) (by kernel_rfl) (by first | exact List.nil_sublist _ | exact List.Sublist.refl _ | (repeat (first | exact List.Sublist.refl _ | exact List.nil_sublist _ | refine List.Sublist.cons_cons _ ?_ | refine List.Sublist.cons _ ?_))) (yiN (OV.move rfl)) rfl ?_
        refine SA.takeZ (i := 5) [20] (by repeat (first | exact hPQ | refine PanicOk.then ?_ | refine PanicOk.block ?_ | exact PanicOk.body)) rfl rfl (by kernel_rfl) (by kernel_rfl) (by kernel_rfl) rfl (by kernel_rfl) (by kernel_rfl) (by kernel_rfl) (by first | exact List.nil_sublist _ | exact List.Sublist.refl _ | (repeat (first | exact List.Sublist.refl _ | exact List.nil_sublist _ | refine List.Sublist.cons_cons _ ?_ | refine List.Sublist.cons _ ?_))) (yiN (OV.move rfl)) rfl ?_
        refine SA.takeZ (i := 6) [20] (by repeat (first | exact hPQ | refine PanicOk.then ?_ | refine PanicOk.block ?_ | exact PanicOk.body)) rfl rfl (by kernel_rfl) (by kernel_rfl) (by kernel_rfl) rfl (by kernel_rfl) (by kernel_rfl) (by kernel_rfl) (by first | exact List.nil_sublist _ | exact List.Sublist.refl _ | (repeat (first | exact List.Sublist.refl _ | exact List.nil_sublist _ | refine List.Sublist.cons_cons _ ?_ | refine List.Sublist.cons _ ?_))) (yiN (OV.idxO i u22 se22 rfl hA rfl rfl (by omega))) rfl ?_
        refine SA.takeZ (i := 7) [20] (by repeat (first | exact hPQ | refine PanicOk.then ?_ | refine PanicOk.block ?_ | exact PanicOk.body)) rfl rfl (by kernel_rfl) (by kernel_rfl) (by kernel_rfl) rfl (by kernel_rfl) (by kernel_rfl) (by kernel_rfl) (by first | exact List.nil_sublist _ | exact List.Sublist.refl _ | (repeat (first | exact List.Sublist.refl _ | exact List.nil_sublist _ | refine List.Sublist.cons_cons _ ?_ | refine List.Sublist.cons _ ?_))) (yiN (OV.loadOldA sc5 rfl (by simp) hAc)) rfl ?_
        refine SA.takeZ (i := 8) [20] (by repeat (first | exact hPQ | refine PanicOk.then ?_ | refine PanicOk.block ?_ | exact PanicOk.body)) rfl rfl (by kernel_rfl) (by kernel_rfl) (by kernel_rfl) rfl (by kernel_rfl) (by kernel_rfl) (by kernel_rfl) (by first | exact List.nil_sublist _ | exact List.Sublist.refl _ | (repeat (first | exact List.Sublist.refl _ | exact List.nil_sublist _ | refine List.Sublist.cons_cons _ ?_ | refine List.Sublist.cons _ ?_))) (yiN (OV.move rfl)) rfl ?_
        refine SA.takeZ (i := 9) [20] (by repeat (first | exact hPQ | refine PanicOk.then ?_ | refine PanicOk.block ?_ | exact PanicOk.body)) rfl rfl (by kernel_rfl) (by kernel_rfl) (by kernel_rfl) rfl (by kernel_rfl) (by kernel_rfl) (by kernel_rfl) (by first | exact List.nil_sublist _ | exact List.Sublist.refl _ | (repeat (first | exact List.Sublist.refl _ | exact List.nil_sublist _ | refine List.Sublist.cons_cons _ ?_ | refine List.Sublist.cons _ ?_))) (yiN (OV.move rfl)) rfl ?_
        refine SA.takeZ (i := 10) [20] (by repeat (first | exact hPQ | refine PanicOk.then ?_ | refine PanicOk.block ?_ | exact PanicOk.body)) rfl rfl (by kernel_rfl) (by kernel_rfl) (by kernel_rfl) rfl (by kernel_rfl) (by kernel_rfl) (by kernel_rfl) (by first | exact List.nil_sublist _ | exact List.Sublist.refl _ | (repeat (first | exact List.Sublist.refl _ | exact List.nil_sublist _ | refine List.Sublist.cons_cons _ ?_ | refine List.Sublist.cons _ ?_))) (yiN (OV.len u23 rfl)) rfl ?_
        refine SA.takeZ (i := 11) [20] (by repeat (first | exact hPQ | refine PanicOk.then ?_ | refine PanicOk.block ?_ | exact PanicOk.body)) rfl rfl (by kernel_rfl) (by kernel_rfl) (by kernel_rfl) rfl (by kernel_rfl) (by kernel_rfl) (by kernel_rfl) (by first | exact List.nil_sublist _ | exact List.Sublist.refl _ | (repeat (first | exact List.Sublist.refl _ | exact List.nil_sublist _ | refine List.Sublist.cons_cons _ ?_ | refine List.Sublist.cons _ ?_))) (yiN ((OV.lss rfl rfl).yes (by omega))) rfl ?_
        refine SA.all (rs := [3]) (by kernel_rfl) (by simp) (all_cons ?_ (all_nil))
        · skip
          refine SO.call (σ := Unit) (V := fun _ => .string (nmf i)) (M := fun _ => [(bp, row 28 (tab (n * 4) (ppc Fl (rF nr Rf) i)))]) (G := fun _ => True) rfl pf5 (args1 rfl) (fun w' hM => (call5 (by omega) w').mono fun e w'' ⟨he, hM'⟩ => ⟨(), he, trivial, by have := hM.callee0 hM'; rwa [List.append_nil] at this⟩) rfl (fun _ => List.Sublist.refl _) ?_
          intro _ _
          refine SA.takeZ (i := 12) [20] (by repeat (first | exact hPQ | refine PanicOk.then ?_ | refine PanicOk.block ?_ | exact PanicOk.body)) rfl rfl (by kernel_rfl) (by kernel_rfl) (by kernel_rfl) rfl (by kernel_rfl) (by kernel_rfl) (by kernel_rfl) (by first | exact List.nil_sublist _ | exact List.Sublist.refl _ | (repeat (first | exact List.Sublist.refl _ | exact List.nil_sublist _ | refine List.Sublist.cons_cons _ ?_ | refine List.Sublist.cons _ ?_))) (yiN (OV.move rfl)) rfl ?_
          refine SA.takeZ (i := 13) [20] (by repeat (first | exact hPQ | refine PanicOk.then ?_ | refine PanicOk.block ?_ | exact PanicOk.body)) rfl rfl (by kernel_rfl) (by kernel_rfl) (by kernel_rfl) rfl (by kernel_rfl) (by kernel_rfl) (by kernel_rfl) (by first | exact List.nil_sublist _ | exact List.Sublist.refl _ | (repeat (first | exact List.Sublist.refl _ | exact List.nil_sublist _ | refine List.Sublist.cons_cons _ ?_ | refine List.Sublist.cons _ ?_))) (yiG rfl rfl (OV.move rfl)) rfl ?_
          refine SA.takeZ (i := 14) [20] (by repeat (first | exact hPQ | refine PanicOk.then ?_ | refine PanicOk.block ?_ | exact PanicOk.body)) rfl rfl (by kernel_rfl) (by kernel_rfl) (by kernel_rfl) rfl (by kernel_rfl) (by kernel_rfl) (by kernel_rfl) (by first | exact List.nil_sublist _ | exact List.Sublist.refl _ | (repeat (first | exact List.Sublist.refl _ | exact List.nil_sublist _ | refine List.Sublist.cons_cons _ ?_ | refine List.Sublist.cons _ ?_))) (yiG rfl rfl (OV.move rfl)) rfl ?_
          refine SA.takeZ (i := 15) [20] (by repeat (first | exact hPQ | refine PanicOk.then ?_ | refine PanicOk.block ?_ | exact PanicOk.body)) rfl rfl (by kernel_rfl) (by kernel_rfl) (by kernel_rfl) rfl (by kernel_rfl) (by kernel_rfl) (by kernel_rfl) (by first | exact List.nil_sublist _ | exact List.Sublist.refl _ | (repeat (first | exact List.Sublist.refl _ | exact List.nil_sublist _ | refine List.Sublist.cons_cons _ ?_ | refine List.Sublist.cons _ ?_))) (yiG rfl rfl (OV.idxO i u23 se23 rfl hR rfl rfl hir)) rfl ?_
          refine SA.takeZ (i := 16) [20] (by repeat (first | exact hPQ | refine PanicOk.then ?_ | refine PanicOk.block ?_ | exact PanicOk.body)) rfl rfl (by kernel_rfl) (by kernel_rfl) (by kernel_rfl) rfl (by kernel_rfl) (by kernel_rfl) (by kernel_rfl) (by first | exact List.nil_sublist _ | exact List.Sublist.refl _ | (repeat (first | exact List.Sublist.refl _ | exact List.nil_sublist _ | refine List.Sublist.cons_cons _ ?_ | refine List.Sublist.cons _ ?_))) (yiG rfl rfl (OV.loadOldA sc4 rfl (by simp) hRc)) rfl ?_
          refine SA.takeZ (i := 17) [20] (by repeat (first | exact hPQ | refine PanicOk.then ?_ | refine PanicOk.block ?_ | exact PanicOk.body)) rfl rfl (by kernel_rfl) (by kernel_rfl) (by kernel_rfl) rfl (by kernel_rfl) (by kernel_rfl) (by kernel_rfl) (by first | exact List.nil_sublist _ | exact List.Sublist.refl _ | (repeat (first | exact List.Sublist.refl _ | exact List.nil_sublist _ | refine List.Sublist.cons_cons _ ?_ | refine List.Sublist.cons _ ?_))) (yiN (OV.pickT rfl rfl)) rfl ?_
          refine SA.takeZ (i := 18) [20] (by repeat (first | exact hPQ | refine PanicOk.then ?_ | refine PanicOk.block ?_ | exact PanicOk.body)) rfl rfl (by kernel_rfl) (by kernel_rfl) (by kernel_rfl) rfl (by kernel_rfl) (by kernel_rfl) (by kernel_rfl) (by first | exact List.nil_sublist _ | exact List.Sublist.refl _ | (repeat (first | exact List.Sublist.refl _ | exact List.nil_sublist _ | refine List.Sublist.cons_cons _ ?_ | refine List.Sublist.cons _ ?_))) (yiN (OV.build (parts3 rfl rfl rfl) (bldP _ _ _))) rfl ?_
          refine SA.takeZ (i := 19) [20] (by repeat (first | exact hPQ | refine PanicOk.then ?_ | refine PanicOk.block ?_ | exact PanicOk.body)) rfl rfl (by kernel_rfl) (by kernel_rfl) (by kernel_rfl) rfl (by kernel_rfl) (by kernel_rfl) (by kernel_rfl) (by first | exact List.nil_sublist _ | exact List.Sublist.refl _ | (repeat (first | exact List.Sublist.refl _ | exact List.nil_sublist _ | refine List.Sublist.cons_cons _ ?_ | refine List.Sublist.cons _ ?_))) (yiN (OV.idx i u24 hi28 hs28 rfl rfl rfl (by omega))) rfl ?_
          refine SA.all (rs := [20]) (by kernel_rfl) (by simp) (all_cons ?_ (all_nil))
          · skip
            refine SO.s rfl (OS.store 0 hi28 rfl rfl rfl (by rw [hs28]; rfl) (pp_one _ _ _) (by rw [length_tab]; show 0 + i * 4 + 4 ≤ n * 4; omega)) (by first | exact List.nil_sublist _ | exact List.Sublist.refl _ | (repeat (first | exact List.Sublist.refl _ | exact List.nil_sublist _ | refine List.Sublist.cons_cons _ ?_ | refine List.Sublist.cons _ ?_))) ?_
            refine SA.done (by kernel_rfl) ?_
            refine SE.nb (SE.toSt (by repeat' (first | exact trivial | refine ⟨rfl, ?_⟩)) ?_)
            rw [← pp_more (Fl := Fl) (r := rF nr Rf) (i := i) (n := n) (by omega), hrt]
            exact List.Sublist.refl _
      · have hrf : rF nr Rf i = false := by unfold rF; simp [hir]
        refine SC.held 20 [(bp, row 28 (tab (n * 4) (ppc Fl (rF nr Rf) i)))] [] mixed ?_
        refine SA.takeZ (i := 0) [20] (by repeat (first | exact hPQ | refine PanicOk.then ?_ | refine PanicOk.block ?_ | exact PanicOk.body)) rfl rfl (by kernel_rfl) (by kernel_rfl) (by kernel_rfl) rfl (by kernel_rfl) (by kernel_rfl) (by kernel_rfl) (by first | exact List.nil_sublist _ | exact List.Sublist.refl _ | (repeat (first | exact List.Sublist.refl _ | exact List.nil_sublist _ | refine List.Sublist.cons_cons _ ?_ | refine List.Sublist.cons _ ?_))) (yiN (OV.move rfl)) rfl ?_
        refine SA.takeZ (i := 1) [20] (by repeat (first | exact hPQ | refine PanicOk.then ?_ | refine PanicOk.block ?_ | exact PanicOk.body)) rfl rfl (by kernel_rfl) (by kernel_rfl) (by kernel_rfl) rfl (by kernel_rfl) (by kernel_rfl) (by kernel_rfl) (by first | exact List.nil_sublist _ | exact List.Sublist.refl _ | (repeat (first | exact List.Sublist.refl _ | exact List.nil_sublist _ | refine List.Sublist.cons_cons _ ?_ | refine List.Sublist.cons _ ?_))) (yiN (OV.move rfl)) rfl ?_
        refine SA.takeZ (i := 2) [20] (by repeat (first | exact hPQ | refine PanicOk.then ?_ | refine PanicOk.block ?_ | exact PanicOk.body)) rfl rfl (by kernel_rfl) (by kernel_rfl) (by kernel_rfl) rfl (by kernel_rfl) (by kernel_rfl) (by kernel_rfl) (by first | exact List.nil_sublist _ | exact List.Sublist.refl _ | (repeat (first | exact List.Sublist.refl _ | exact List.nil_sublist _ | refine List.Sublist.cons_cons _ ?_ | refine List.Sublist.cons _ ?_))) (yiN (OV.move rfl)) rfl ?_
        refine SA.takeZ (i := 4) [20] (by repeat (first | exact hPQ | refine PanicOk.then ?_ | refine PanicOk.block ?_ | exact PanicOk.body)) rfl rfl (by kernel_rfl) (by kernel_rfl) (by kernel_rfl) rfl (by kernel_rfl) (by kernel_rfl) (by kernel_rfl) (by first | exact List.nil_sublist _ | exact List.Sublist.refl _ | (repeat (first | exact List.Sublist.refl _ | exact List.nil_sublist _ | refine List.Sublist.cons_cons _ ?_ | refine List.Sublist.cons _ ?_))) (yiN (OV.move rfl)) rfl ?_
        refine SA.takeZ (i := 5) [20] (by repeat (first | exact hPQ | refine PanicOk.then ?_ | refine PanicOk.block ?_ | exact PanicOk.body)) rfl rfl (by kernel_rfl) (by kernel_rfl) (by kernel_rfl) rfl (by kernel_rfl) (by kernel_rfl) (by kernel_rfl) (by first | exact List.nil_sublist _ | exact List.Sublist.refl _ | (repeat (first | exact List.Sublist.refl _ | exact List.nil_sublist _ | refine List.Sublist.cons_cons _ ?_ | refine List.Sublist.cons _ ?_))) (yiN (OV.move rfl)) rfl ?_
        refine SA.takeZ (i := 6) [20] (by repeat (first | exact hPQ | refine PanicOk.then ?_ | refine PanicOk.block ?_ | exact PanicOk.body)) rfl rfl (by kernel_rfl) (by kernel_rfl) (by kernel_rfl) rfl (by kernel_rfl) (by kernel_rfl) (by kernel_rfl) (by first | exact List.nil_sublist _ | exact List.Sublist.refl _ | (repeat (first | exact List.Sublist.refl _ | exact List.nil_sublist _ | refine List.Sublist.cons_cons _ ?_ | refine List.Sublist.cons _ ?_))) (yiN (OV.idxO i u22 se22 rfl hA rfl rfl (by omega))) rfl ?_
        refine SA.takeZ (i := 7) [20] (by repeat (first | exact hPQ | refine PanicOk.then ?_ | refine PanicOk.block ?_ | exact PanicOk.body)) rfl rfl (by kernel_rfl) (by kernel_rfl) (by kernel_rfl) rfl (by kernel_rfl) (by kernel_rfl) (by kernel_rfl) (by first | exact List.nil_sublist _ | exact List.Sublist.refl _ | (repeat (first | exact List.Sublist.refl _ | exact List.nil_sublist _ | refine List.Sublist.cons_cons _ ?_ | refine List.Sublist.cons _ ?_))) (yiN (OV.loadOldA sc5 rfl (by simp) hAc)) rfl ?_
        refine SA.takeZ (i := 8) [20] (by repeat (first | exact hPQ | refine PanicOk.then ?_ | refine PanicOk.block ?_ | exact PanicOk.body)) rfl rfl (by kernel_rfl) (by kernel_rfl) (by kernel_rfl) rfl (by kernel_rfl) (by kernel_rfl) (by kernel_rfl) (by first | exact List.nil_sublist _ | exact List.Sublist.refl _ | (repeat (first | exact List.Sublist.refl _ | exact List.nil_sublist _ | refine List.Sublist.cons_cons _ ?_ | refine List.Sublist.cons _ ?_))) (yiN (OV.move rfl)) rfl ?_
        refine SA.takeZ (i := 9) [20] (by repeat (first | exact hPQ | refine PanicOk.then ?_ | refine PanicOk.block ?_ | exact PanicOk.body)) rfl rfl (by kernel_rfl) (by kernel_rfl) (by kernel_rfl) rfl (by kernel_rfl) (by kernel_rfl) (by kernel_rfl) (by first | exact List.nil_sublist _ | exact List.Sublist.refl _ | (repeat (first | exact List.Sublist.refl _ | exact List.nil_sublist _ | refine List.Sublist.cons_cons _ ?_ | refine List.Sublist.cons _ ?_))) (yiN (OV.move rfl)) rfl ?_
        refine SA.takeZ (i := 10) [20] (by repeat (first | exact hPQ | refine PanicOk.then ?_ | refine PanicOk.block ?_ | exact PanicOk.body)) rfl rfl (by kernel_rfl) (by kernel_rfl) (by kernel_rfl) rfl (by kernel_rfl) (by kernel_rfl) (by kernel_rfl) (by first | exact List.nil_sublist _ | exact List.Sublist.refl _ | (repeat (first | exact List.Sublist.refl _ | exact List.nil_sublist _ | refine List.Sublist.cons_cons _ ?_ | refine List.Sublist.cons _ ?_))) (yiN (OV.len u23 rfl)) rfl ?_
        refine SA.takeZ (i := 11) [20] (by repeat (first | exact hPQ | refine PanicOk.then ?_ | refine PanicOk.block ?_ | exact PanicOk.body)) rfl rfl (by kernel_rfl) (by kernel_rfl) (by kernel_rfl) rfl (by kernel_rfl) (by kernel_rfl) (by kernel_rfl) (by first | exact List.nil_sublist _ | exact List.Sublist.refl _ | (repeat (first | exact List.Sublist.refl _ | exact List.nil_sublist _ | refine List.Sublist.cons_cons _ ?_ | refine List.Sublist.cons _ ?_))) (yiN ((OV.lss rfl rfl).no (by omega))) rfl ?_
        refine SA.all (rs := [3]) (by kernel_rfl) (by simp) (all_cons ?_ (all_nil))
        · skip
          refine SO.call (σ := Unit) (V := fun _ => .string (nmf i)) (M := fun _ => [(bp, row 28 (tab (n * 4) (ppc Fl (rF nr Rf) i)))]) (G := fun _ => True) rfl pf5 (args1 rfl) (fun w' hM => (call5 (by omega) w').mono fun e w'' ⟨he, hM'⟩ => ⟨(), he, trivial, by have := hM.callee0 hM'; rwa [List.append_nil] at this⟩) rfl (fun _ => List.Sublist.refl _) ?_
          intro _ _
          refine SA.takeZ (i := 12) [20] (by repeat (first | exact hPQ | refine PanicOk.then ?_ | refine PanicOk.block ?_ | exact PanicOk.body)) rfl rfl (by kernel_rfl) (by kernel_rfl) (by kernel_rfl) rfl (by kernel_rfl) (by kernel_rfl) (by kernel_rfl) (by first | exact List.nil_sublist _ | exact List.Sublist.refl _ | (repeat (first | exact List.Sublist.refl _ | exact List.nil_sublist _ | refine List.Sublist.cons_cons _ ?_ | refine List.Sublist.cons _ ?_))) (yiN (OV.move rfl)) rfl ?_
          refine SA.takeZ (i := 13) [20] (by repeat (first | exact hPQ | refine PanicOk.then ?_ | refine PanicOk.block ?_ | exact PanicOk.body)) rfl rfl (by kernel_rfl) (by kernel_rfl) (by kernel_rfl) rfl (by kernel_rfl) (by kernel_rfl) (by kernel_rfl) (by first | exact List.nil_sublist _ | exact List.Sublist.refl _ | (repeat (first | exact List.Sublist.refl _ | exact List.nil_sublist _ | refine List.Sublist.cons_cons _ ?_ | refine List.Sublist.cons _ ?_))) (yiS rfl rfl) rfl ?_
          refine SA.takeZ (i := 14) [20] (by repeat (first | exact hPQ | refine PanicOk.then ?_ | refine PanicOk.block ?_ | exact PanicOk.body)) rfl rfl (by kernel_rfl) (by kernel_rfl) (by kernel_rfl) rfl (by kernel_rfl) (by kernel_rfl) (by kernel_rfl) (by first | exact List.nil_sublist _ | exact List.Sublist.refl _ | (repeat (first | exact List.Sublist.refl _ | exact List.nil_sublist _ | refine List.Sublist.cons_cons _ ?_ | refine List.Sublist.cons _ ?_))) (yiS rfl rfl) rfl ?_
          refine SA.takeZ (i := 15) [20] (by repeat (first | exact hPQ | refine PanicOk.then ?_ | refine PanicOk.block ?_ | exact PanicOk.body)) rfl rfl (by kernel_rfl) (by kernel_rfl) (by kernel_rfl) rfl (by kernel_rfl) (by kernel_rfl) (by kernel_rfl) (by first | exact List.nil_sublist _ | exact List.Sublist.refl _ | (repeat (first | exact List.Sublist.refl _ | exact List.nil_sublist _ | refine List.Sublist.cons_cons _ ?_ | refine List.Sublist.cons _ ?_))) (yiS rfl rfl) rfl ?_
          refine SA.takeZ (i := 16) [20] (by repeat (first | exact hPQ | refine PanicOk.then ?_ | refine PanicOk.block ?_ | exact PanicOk.body)) rfl rfl (by kernel_rfl) (by kernel_rfl) (by kernel_rfl) rfl (by kernel_rfl) (by kernel_rfl) (by kernel_rfl) (by first | exact List.nil_sublist _ | exact List.Sublist.refl _ | (repeat (first | exact List.Sublist.refl _ | exact List.nil_sublist _ | refine List.Sublist.cons_cons _ ?_ | refine List.Sublist.cons _ ?_))) (yiS rfl rfl) rfl ?_
          refine SA.takeZ (i := 17) [20] (by repeat (first | exact hPQ | refine PanicOk.then ?_ | refine PanicOk.block ?_ | exact PanicOk.body)) rfl rfl (by kernel_rfl) (by kernel_rfl) (by kernel_rfl) rfl (by kernel_rfl) (by kernel_rfl) (by kernel_rfl) (by first | exact List.nil_sublist _ | exact List.Sublist.refl _ | (repeat (first | exact List.Sublist.refl _ | exact List.nil_sublist _ | refine List.Sublist.cons_cons _ ?_ | refine List.Sublist.cons _ ?_))) (yiN (OV.pickF rfl rfl)) rfl ?_
          refine SA.takeZ (i := 18) [20] (by repeat (first | exact hPQ | refine PanicOk.then ?_ | refine PanicOk.block ?_ | exact PanicOk.body)) rfl rfl (by kernel_rfl) (by kernel_rfl) (by kernel_rfl) rfl (by kernel_rfl) (by kernel_rfl) (by kernel_rfl) (by first | exact List.nil_sublist _ | exact List.Sublist.refl _ | (repeat (first | exact List.Sublist.refl _ | exact List.nil_sublist _ | refine List.Sublist.cons_cons _ ?_ | refine List.Sublist.cons _ ?_))) (yiN (OV.build (parts3 rfl rfl rfl) (bldP _ _ _))) rfl ?_
          refine SA.takeZ (i := 19) [20] (by repeat (first | exact hPQ | refine PanicOk.then ?_ | refine PanicOk.block ?_ | exact PanicOk.body)) rfl rfl (by kernel_rfl) (by kernel_rfl) (by kernel_rfl) rfl (by kernel_rfl) (by kernel_rfl) (by kernel_rfl) (by first | exact List.nil_sublist _ | exact List.Sublist.refl _ | (repeat (first | exact List.Sublist.refl _ | exact List.nil_sublist _ | refine List.Sublist.cons_cons _ ?_ | refine List.Sublist.cons _ ?_))) (yiN (OV.idx i u24 hi28 hs28 rfl rfl rfl (by omega))) rfl ?_
          refine SA.all (rs := [20]) (by kernel_rfl) (by simp) (all_cons ?_ (all_nil))
          · skip
            refine SO.s rfl (OS.store 0 hi28 rfl rfl rfl (by rw [hs28]; rfl) (pp_one _ _ _) (by rw [length_tab]; show 0 + i * 4 + 4 ≤ n * 4; omega)) (by first | exact List.nil_sublist _ | exact List.Sublist.refl _ | (repeat (first | exact List.Sublist.refl _ | exact List.nil_sublist _ | refine List.Sublist.cons_cons _ ?_ | refine List.Sublist.cons _ ?_))) ?_
            refine SA.done (by kernel_rfl) ?_
            refine SE.nb (SE.toSt (by repeat' (first | exact trivial | refine ⟨rfl, ?_⟩)) ?_)
            rw [← pp_more (Fl := Fl) (r := rF nr Rf) (i := i) (n := n) (by omega), hrf]
            exact List.Sublist.refl _
    refine SC.region ?_
    refine SL.y (OV.move rfl) rfl ?_
    refine SL.y (OV.add rfl rfl (wrap_i64 (by omega) (by omega))) rfl ?_
    refine SL.y (OV.assign rfl) rfl ?_
    refine SL.nil ?_
    exact SE.round (i + 1) (by omega) (by omega) (by repeat' (first | exact trivial | refine ⟨rfl, ?_⟩)) (List.Sublist.refl _)
  · have hi' : i = n := by omega
    subst hi'
    refine SC.exit ?_
    refine SE.thenE (SE.thenE (SE.inBlock ?_))
    exact SE.weaken (by repeat' (first | exact trivial | refine ⟨rfl, ?_⟩)) (List.Sublist.refl _) h
end
end Go.Proofs.Ybulkdrci.A
