import Derived.Test.YbulkdrfaModel
import Derived.Test.YbulkdrfaPlain
namespace Go.Proofs.Ybulkdrfa
open Go Go.RowKit Go.Proofs.Ybulkdrfa.Sym Go.Sort
set_option linter.unusedVariables false
set_option linter.unusedSimpArgs false
set_option maxRecDepth 100000

theorem Came.of_Mm {w0 w : World} {F : List Nat} {m : List Blk} {sA : Option Addr} {z : Array Nat} (hc : Came w0 sA z) (hM : Mm w0 F m w) (hF : ∀ A, sA = some A → A.block ∉ F) : Came w sA z := by
  intro i hi
  obtain ⟨A, hA, hcell⟩ := hc i hi
  refine ⟨A, hA, ?_⟩
  have hbl : (A.add i).block = A.block := by unfold Addr.add; split <;> rfl
  rw [← hcell]
  exact World.cell?_of_block (hM.old _ (block_lt_of_cell hcell) (by rw [hbl]; exact hF A hA))
theorem info23z : (Yba.prog.info? 23).map (fun i => (i.zero, i.size, i.bytes)) = some (some (.float .f64 0), 1, 8) := by kernel_rfl
theorem Sym.OE.makeF {w0 : World} {F : List Nat} {env : Env} {m : List Blk} {d : Option Nat} {ty : TypeId} {pos : String} {af : Array Edge} {g : Option (Nat × Bool)} {x y : Operand} (n : Nat) (hx : ev env x = some (.int .i64 n)) (hy : ev env y = some (.int .i64 n)) (hn : n ≤ 1000000) :
    OE Yba.prog env w0 F m ⟨d, .makeSlice 22 x y, ty, pos, af, g⟩ (fun nb : Nat => sl nb n n) (fun nb => m ++ [(nb, row 23 (List.replicate n (.float .f64 0)))]) := by
  obtain ⟨i, h1, h2, h3, h4⟩ := info_parts info23z
  exact OE.make n n u22 h1 h2 h3 rfl hx hy rfl rfl (Nat.le_refl _) (by rw [h4]; omega) (by omega)

section
variable {w0 : World} {Q : Exit → Act → World → Prop} {blk n c c2 : Nat} {sA : Option Addr}
/-- One element is shifted down. -/
theorem mod1 {i : Nat} {d R : Array Nat} (hPQ : PanicOk Q) (hn : n ≤ 1000000) (hds : d.size = n) (hi : i < n) (hR : insInner Fl.lt 0 i d = R) (hRs : R.size = n)
    (h : SE (Q .normal) Yba.f4.ntmps [(0, .slice sA n c2), (3, sl blk n c), (4, .int .i64 i)] w0 [] [(blk, fr R)]) :
    SC Yba.prog (sub [1, 1, 1, 0, 1, 2, 2, 1, 0, 2, 1] (Yba.f4.body.getD .skip)) Q Yba.f4.ntmps [(5, .int .i64 i), (0, .slice sA n c2), (3, sl blk n c), (4, .int .i64 i)] w0 [] [(blk, fr d)] := by
  refine SC.block ?_
  refine SC.loopAB (fun (j : Nat) (q : Array Nat) => [(5, .int .i64 j), (0, .slice sA n c2), (3, sl blk n c), (4, .int .i64 i)]) (fun j q => [(blk, fr q)]) (fun j q => j ≤ i ∧ q.size = n ∧ insInner Fl.lt 0 j q = R) (fun j q => j) i d ⟨Nat.le_refl _, hds, hR⟩ (by repeat' (first | exact trivial | refine ⟨rfl, ?_⟩)) (List.Sublist.refl _) ?_
  rintro j q ⟨hj, hqs, hq⟩
  refine SC.seq ?_
  refine SC.cutG (fun t : Bool => [(33, .bool t), (5, .int .i64 j), (0, .slice sA n c2), (3, sl blk n c), (4, .int .i64 i)]) (fun _ => [(blk, fr q)]) (fun t => t = true ↔ 0 < j ∧ Fl.lt q[j]! q[j - 1]! = true) ?_ ?_
  · by_cases haj : 0 < j
    · skip
      refine SC.quiet mixed (by kernel_rfl) ?_
      refine SQ.y (OV.move rfl) rfl ?_
      refine SQ.y ((OV.gtr rfl rfl).yes (by omega)) rfl ?_
      refine SQ.y (OV.move rfl) rfl ?_
      refine SQ.yg rfl rfl (OV.move rfl) rfl ?_
      refine SQ.yg rfl rfl (OV.move rfl) rfl ?_
      refine SQ.yg rfl rfl (OV.idx1 j u22 se22 rfl rfl rfl (by omega)) rfl ?_
      refine SQ.yg rfl rfl (OV.loadFr 0 sc23 rfl rfl (by omega)) rfl ?_
      refine SQ.yg rfl rfl (OV.move rfl) rfl ?_
      refine SQ.yg rfl rfl (OV.move rfl) rfl ?_
      refine SQ.yg rfl rfl (OV.sub rfl rfl (wrap_i64 (by omega) (by omega))) rfl ?_
      refine SQ.yg rfl rfl (OV.idx1 (j - 1) u22 se22 rfl rfl (by omega) (by omega)) rfl ?_
      refine SQ.yg rfl rfl (OV.loadFr 0 sc23 rfl rfl (by omega)) rfl ?_
      refine SQ.callQg rfl rfl pf6 (args2 rfl rfl) (fun w hM => call6 _ _ w) rfl ?_
      refine SQ.y (OV.pickT rfl rfl) rfl ?_
      refine SQ.nil ?_
      exact SE.toG _ ⟨fun h => ⟨haj, h⟩, fun h => h.2⟩ (by repeat' (first | exact trivial | refine ⟨rfl, ?_⟩)) (List.Sublist.refl _)
    · skip
      refine SC.quiet mixed (by kernel_rfl) ?_
      refine SQ.y (OV.move rfl) rfl ?_
      refine SQ.y ((OV.gtr rfl rfl).no (by omega)) rfl ?_
      refine SQ.y (OV.move rfl) rfl ?_
      refine SQ.skip rfl rfl rfl ?_
      refine SQ.skip rfl rfl rfl ?_
      refine SQ.skip rfl rfl rfl ?_
      refine SQ.skip rfl rfl rfl ?_
      refine SQ.skip rfl rfl rfl ?_
      refine SQ.skip rfl rfl rfl ?_
      refine SQ.skip rfl rfl rfl ?_
      refine SQ.skip rfl rfl rfl ?_
      refine SQ.skip rfl rfl rfl ?_
      refine SQ.skip rfl rfl rfl ?_
      refine SQ.y (OV.pickF rfl rfl) rfl ?_
      refine SQ.nil ?_
      exact SE.toG false ⟨fun h => (by cases h), fun h => absurd h.1 haj⟩ (by repeat' (first | exact trivial | refine ⟨rfl, ?_⟩)) (List.Sublist.refl _)
  intro t ht
  refine SC.cond rfl (fun e => ?_) (fun e => ?_)
  · obtain ⟨haj, hlt⟩ := ht.1 e
    refine SC.skip ?_
    refine SC.then ?_
    refine SC.cutSt [(5, .int .i64 j), (0, .slice sA n c2), (3, sl blk n c), (4, .int .i64 i)] [(blk, fr (swp q j (j - 1)))] ?_ ?_
    · refine SC.block ?_
      refine SC.seq ?_
      refine SC.region ?_
      refine SL.y (OV.move rfl) rfl ?_
      refine SL.y (OV.move rfl) rfl ?_
      refine SL.y (OV.idx1 j u22 se22 rfl rfl rfl (by omega)) rfl ?_
      refine SL.y (OV.loadFr 0 sc23 rfl rfl (by omega)) rfl ?_
      refine SL.y (OV.assign rfl) rfl ?_
      refine SL.nil ?_
      refine SC.then ?_
      refine SC.seq ?_
      refine SC.region ?_
      refine SL.y (OV.move rfl) rfl ?_
      refine SL.y (OV.move rfl) rfl ?_
      refine SL.y (OV.move rfl) rfl ?_
      refine SL.y (OV.move rfl) rfl ?_
      refine SL.y (OV.sub rfl rfl (wrap_i64 (by omega) (by omega))) rfl ?_
      refine SL.y (OV.idx1 (j - 1) u22 se22 rfl rfl (by omega) (by omega)) rfl ?_
      refine SL.y (OV.loadFr 0 sc23 rfl rfl (by omega)) rfl ?_
      refine SL.y (OV.idx1 j u22 se22 rfl rfl rfl (by omega)) rfl ?_
      refine SL.s (OS.storeFr 0 sz23 rfl rfl rfl (by omega)) ?_
      refine SL.nil ?_
      refine SC.then ?_
      refine SC.region ?_
      refine SL.y (OV.move rfl) rfl ?_
      refine SL.y (OV.move rfl) rfl ?_
      refine SL.y (OV.sub rfl rfl (wrap_i64 (by omega) (by omega))) rfl ?_
      refine SL.y (OV.move rfl) rfl ?_
      refine SL.y (OV.idx1 (j - 1) u22 se22 rfl rfl (by omega) (by omega)) rfl ?_
      refine SL.s (OS.storeFr 0 sz23 rfl rfl rfl (by simp; omega)) ?_
      refine SL.nil ?_
      exact SE.nb (SE.toSt (by repeat' (first | exact trivial | refine ⟨rfl, ?_⟩)) (List.Sublist.refl _))
    refine SC.region ?_
    refine SL.y (OV.move rfl) rfl ?_
    refine SL.y (OV.sub rfl rfl (wrap_i64 (by omega) (by omega))) rfl ?_
    refine SL.y (OV.assign rfl) rfl ?_
    refine SL.nil ?_
    refine SE.roundAB (j - 1) (swp q j (j - 1)) ⟨by omega, by rw [size_swp]; exact hqs, by rw [← hq, insInner_step haj hlt]⟩ (by omega) ?_ (List.Sublist.refl _)
    have ej : ((j : Int) - 1) = ((j - 1 : Nat) : Int) := by omega
    rw [ej]
    exact (by repeat' (first | exact trivial | refine ⟨rfl, ?_⟩))
  · have hstop := insInner_stop (d := q) (fun h => by have := ht.2 h; rw [this] at e; cases e)
    rw [hstop] at hq
    subst hq
    refine SC.exit ?_
    refine SE.thenE (SE.thenE (SE.inBlock ?_))
    exact SE.weaken (by repeat' (first | exact trivial | refine ⟨rfl, ?_⟩)) (List.Sublist.refl _) h
end
/-- zzs5902asorted -/
theorem call4 {w : World} {sA : Option Addr} {n c : Nat} {z : Array Nat} (hn : n ≤ 60000) (hz : z.size = n) (hc : Came w sA z) :
    Calls Yba.prog 4 #[.slice sA n c] w fun e w' => ∃ blk, e = .returned (sl blk n n) ∧ Mm w [] [(blk, fr (model z))] w' := by
  refine Calls.of_SC (args := [.slice sA n c]) Yba.func4 rfl (by simp [Yba.f4]) (Mm.start w) ?_
  have hPQ : PanicOk (bodyPost Yba.prog Yba.f4 (fun e w' => ∃ blk, e = .returned (sl blk n n) ∧ Mm w [] [(blk, fr (model z))] w')) := PanicOk.body
  refine SC.seq ?_
  refine SC.region ?_
  refine SL.y (OV.assign rfl) rfl ?_
  refine SL.nil ?_
  refine SC.then ?_
  refine SC.seq ?_
  refine SC.region ?_
  refine SL.y (OV.move rfl) rfl ?_
  refine SL.y (OV.len u22 rfl) rfl ?_
  refine SL.e (OE.makeF n rfl rfl (by omega)) rfl ?_
  intro blk
  refine SL.y (OV.assign rfl) rfl ?_
  refine SL.nil ?_
  refine SC.then ?_
  refine SC.seq ?_
  refine SC.region ?_
  refine SL.y (OV.move rfl) rfl ?_
  refine SL.y (OV.move rfl) rfl ?_
  refine SL.e (OE.copyF 0 rfl rfl rfl (by simp) hz hc (by simp)) rfl ?_
  intro _
  refine SL.nil ?_
  refine SC.then ?_
  refine SC.seq ?_
  refine SC.seq ?_
  refine SC.region ?_
  refine SL.y (OV.assign rfl) rfl ?_
  refine SL.nil ?_
  refine SC.then ?_
  refine SC.block ?_
  refine SC.loopAB (fun (i : Nat) (q : Array Nat) => [(0, .slice sA n c), (3, sl blk n n), (4, .int .i64 i)]) (fun i q => [(blk, fr q)]) (fun i q => 0 < i ∧ (i = 1 ∨ i ≤ n + 1) ∧ q.size = n ∧ insOuter Fl.lt 0 n i q = model z) (fun i q => n + 1 - i) 1 z ⟨by omega, by omega, hz, by unfold model insertionSort; rw [hz]⟩ (by repeat' (first | exact trivial | refine ⟨rfl, ?_⟩)) (List.Sublist.refl _) ?_
  rintro i q ⟨hai, hib, hqs, hq⟩
  refine SC.seq ?_
  refine SC.seq ?_
  refine SC.region ?_
  refine SL.y (OV.move rfl) rfl ?_
  refine SL.y (OV.move rfl) rfl ?_
  refine SL.y (OV.len u22 rfl) rfl ?_
  refine SL.y (OV.lss rfl rfl) rfl ?_
  refine SL.nil ?_
  refine SC.then ?_
  refine SC.condP rfl (fun hlt => ?_) (fun hge => ?_)
  · have hlt' : i < n := by omega
    refine SC.skip ?_
    refine SC.then ?_
    refine SC.cutSt [(0, .slice sA n c), (3, sl blk n n), (4, .int .i64 i)] [(blk, fr (insInner Fl.lt 0 i q))] ?_ ?_
    · refine SC.block ?_
      refine SC.seq ?_
      refine SC.region ?_
      refine SL.y (OV.move rfl) rfl ?_
      refine SL.y (OV.assign rfl) rfl ?_
      refine SL.nil ?_
      refine SC.then ?_
      refine SC.weaken ?_ (List.Sublist.refl _) (mod1 (blk := blk) (n := n) (c := n) (c2 := c) (sA := sA) (i := i) (R := insInner Fl.lt 0 i q) (by repeat (first | refine PanicOk.then ?_ | refine PanicOk.block ?_ | exact hPQ)) (by omega) hqs (by omega) rfl (by rw [insInner_size]; exact hqs) ?_)
      · exact (by repeat' (first | exact trivial | refine ⟨rfl, ?_⟩))
      exact SE.nb (SE.toSt (by repeat' (first | exact trivial | refine ⟨rfl, ?_⟩)) (List.Sublist.refl _))
    refine SC.region ?_
    refine SL.y (OV.move rfl) rfl ?_
    refine SL.y (OV.add rfl rfl (wrap_i64 (by omega) (by omega))) rfl ?_
    refine SL.y (OV.assign rfl) rfl ?_
    refine SL.nil ?_
    exact SE.roundAB (i + 1) (insInner Fl.lt 0 i q) ⟨by omega, by omega, by rw [insInner_size]; exact hqs, by rw [← hq, insOuter_step hlt']⟩ (by omega) (by repeat' (first | exact trivial | refine ⟨rfl, ?_⟩)) (List.Sublist.refl _)
  · refine SC.exit ?_
    refine SE.thenE (SE.thenE (SE.inBlock ?_))
    rw [insOuter_stop (by omega)] at hq
    rw [hq]
    refine SC.then ?_
    refine SC.seq ?_
    refine SC.region ?_
    refine SL.y (OV.move rfl) rfl ?_
    refine SL.y (OV.assign rfl) rfl ?_
    refine SL.nil ?_
    refine SC.then ?_
    refine SC.ret ?_
    exact SE.ret1 Yba.results4 rfl (fun w' hM => ⟨blk, rfl, hM⟩)
theorem pf4 : plainFunc Yba.prog 4 = true := by kernel_rfl
end Go.Proofs.Ybulkdrfa
