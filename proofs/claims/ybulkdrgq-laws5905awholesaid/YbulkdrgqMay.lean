import Derived.Test.YbulkdrgqAft
namespace Go.Proofs.Ybulkdrgq
open Go Go.RowKit Go.Proofs.Ybulkdrgq.Sym
set_option linter.unusedVariables false
set_option linter.unusedSimpArgs false
set_option maxRecDepth 100000

theorem Mm.oldBlk {w0 w : World} {F : List Nat} {m : List Blk} {b : Nat} {o : Obj} (hM : Mm w0 F m w) (hF : b ∉ F) (h : w0.heap[b]? = some o) : w.heap[b]? = some o := by
  rw [hM.old b (Array.getElem?_eq_some_iff.1 h).1 hF]; exact h
/-- What the node's block holds: the two channels, and the time from which it grants. -/
structure NodeIs (w : World) (bn cd cg n : Nat) (s : Int) : Prop where
  ex : ∃ cs : List Value, w.heap[bn]? = some (row 62 cs) ∧ cs[11]? = some (.chan (some cd)) ∧ cs[12]? = some (.int .u64 n) ∧ cs[13]? = some (.int .i64 s) ∧ cs[14]? = some (.pointer none) ∧ cs[15]? = some (.chan (some cg))
theorem NodeIs.cell {w : World} {bn cd cg n : Nat} {s : Int} (h : NodeIs w bn cd cg n s) : w.cell? ⟨bn, 11, none⟩ = some (.chan (some cd)) ∧ w.cell? ⟨bn, 12, none⟩ = some (.int .u64 n) ∧ w.cell? ⟨bn, 13, none⟩ = some (.int .i64 s) ∧ w.cell? ⟨bn, 14, none⟩ = some (.pointer none) ∧ w.cell? ⟨bn, 15, none⟩ = some (.chan (some cg)) := by
  obtain ⟨cs, hb, h1, h2, h3, h4, h5⟩ := h
  simp [World.cell?, hb, row, h1, h2, h3, h4, h5]
/-- mayGrant -/
theorem call7 {w : World} {bn bx cd cg cc n n2 : Nat} {s s2 : Int} {g d c t af : Bool} (hn : n < 1000000000) (hn2 : n2 < 1000000000) (hN : NodeIs w bn cd cg n s) (hX : w.heap[bx]? = some (row 65 [.chan (some cc), .bool t])) (hg : w.heap[cg]? = some (chn g)) (hd : w.heap[cd]? = some (chn d)) (hc : w.heap[cc]? = some (chn c))
    (haf : aft n s n2 s2 = af) (H : (g = true ∧ c = false ∧ (d = true → af = false)) ∨ (g = false ∧ (c = true ∨ d = true ∧ af = true))) :
    Calls Yba.prog 7 #[pt bn, .iface 63 (pt bx), tv n2 s2] w fun e w' => e = .returned (.bool g) ∧ Mm w [] [] w' := by
  obtain ⟨i25, hi25, hz25, hs25, hb25⟩ := info_parts info25
  obtain ⟨i38, hi, hz, hs, hb⟩ := info_parts info38
  obtain ⟨k11, k12, k13, k14, k15⟩ := hN.cell
  have hf1 : g = true ∨ d = true ∨ c = true := H.elim (fun h => .inl h.1) (fun h => h.2.elim (fun h => .inr (.inr h)) (fun h => .inr (.inl h.1)))
  refine Calls.of_SC (args := [pt bn, .iface 63 (pt bx), tv n2 s2]) Yba.func7 rfl (by simp [Yba.f7]) (Mm.start w) ?_
  have hPQ : PanicOk (bodyPost Yba.prog Yba.f7 (fun e w' => e = .returned (.bool g) ∧ Mm w [] [] w')) := PanicOk.body
  refine SC.seq ?_
  refine SC.region ?_
  refine SL.e (OE.box rfl) rfl ?_
  intro b5
  refine SL.y (OV.assign rfl) rfl ?_
  refine SL.nil ?_
  refine SC.then ?_
  refine SC.cutG (fun _ : Unit => [(0, pt bn), (1, .iface 63 (pt bx)), (5, pt b5)]) (fun _ => [(b5, row 25 (tcs n2 s2))]) (fun _ => d = true) ?_ ?_
  · refine SC.seq ?_
    refine SC.seq ?_
    refine SC.region ?_
    refine SL.y (OV.move rfl) rfl ?_
    refine SL.y (OV.nilCheck rfl) rfl ?_
    refine SL.y (OV.fld fo62_11 rfl) rfl ?_
    refine SL.y (OV.loadOld sc30 rfl (by simp) k15) rfl ?_
    refine SL.nil ?_
    refine SC.then ?_
    refine SC.seq ?_
    refine SC.region ?_
    refine SL.y (OV.move rfl) rfl ?_
    refine SL.y (OV.nilCheck rfl) rfl ?_
    refine SL.y (OV.fld fo62_9 rfl) rfl ?_
    refine SL.y (OV.loadOld sc30 rfl (by simp) k11) rfl ?_
    refine SL.nil ?_
    refine SC.then ?_
    refine SC.region ?_
    refine SL.y (OV.move rfl) rfl ?_
    refine SL.callI (inv39 bx) rfl (fun w' hM => call39 (Mm.oldBlk hM (by simp) hX)) rfl ?_
    refine SL.nil ?_
    refine SC.then ?_
    refine SC.seq ?_
    refine SC.select3 hi hz rfl rfl rfl (fun w' hM => Mm.oldBlk hM (by simp) hg) (fun w' hM => Mm.oldBlk hM (by simp) hd) (fun w' hM => Mm.oldBlk hM (by simp) hc) hf1 rfl ?_
    intro k hk
    refine SL.y (OV.selK rfl) rfl ?_
    rcases hk with ⟨rfl, hgt⟩ | ⟨rfl, hdt⟩ | ⟨rfl, hct⟩
    · refine SL.y ((OV.eql rfl rfl).yes rfl) rfl ?_
      refine SL.y (OV.eql rfl rfl) rfl ?_
      refine SL.y (OV.eql rfl rfl) rfl ?_
      refine SL.nil ?_
      refine SC.then ?_
      refine SC.block ?_
      refine SC.cond rfl (fun _ => ?_) (fun e => by cases e)
      refine SC.seq ?_
      refine SC.region ?_
      refine SL.y (OV.assign rfl) rfl ?_
      refine SL.nil ?_
      refine SC.then ?_
      refine SC.ret ?_
      repeat (first | refine SE.blockR ?_ | refine SE.thenR ?_)
      exact SE.ret1 Yba.results7 rfl (fun w' hM => ⟨by rw [hgt], hM.weaken (List.nil_sublist _)⟩)
    · refine SL.y ((OV.eql rfl rfl).no (by decide)) rfl ?_
      refine SL.y ((OV.eql rfl rfl).yes rfl) rfl ?_
      refine SL.y (OV.eql rfl rfl) rfl ?_
      refine SL.nil ?_
      refine SC.then ?_
      refine SC.block ?_
      refine SC.cond rfl (fun e => by cases e) (fun _ => ?_)
      refine SC.cond rfl (fun _ => ?_) (fun e => by cases e)
      refine SC.skip ?_
      exact SE.nb (SE.toG () hdt (by repeat' (first | exact trivial | refine ⟨rfl, ?_⟩)) (List.Sublist.refl _))
    · refine SL.y ((OV.eql rfl rfl).no (by decide)) rfl ?_
      refine SL.y ((OV.eql rfl rfl).no (by decide)) rfl ?_
      refine SL.y ((OV.eql rfl rfl).yes rfl) rfl ?_
      refine SL.nil ?_
      refine SC.then ?_
      refine SC.block ?_
      refine SC.cond rfl (fun e => by cases e) (fun _ => ?_)
      refine SC.cond rfl (fun e => by cases e) (fun _ => ?_)
      refine SC.cond rfl (fun _ => ?_) (fun e => by cases e)
      refine SC.seq ?_
      refine SC.region ?_
      refine SL.y (OV.assign rfl) rfl ?_
      refine SL.nil ?_
      refine SC.then ?_
      refine SC.ret ?_
      repeat (first | refine SE.blockR ?_ | refine SE.thenR ?_)
      have hgf : g = false := H.elim (fun h => by rw [hct] at h; cases h.2.1) (fun h => h.1)
      exact SE.ret1 Yba.results7 rfl (fun w' hM => ⟨by rw [hgf], hM.weaken (List.nil_sublist _)⟩)
  intro _ hdt
  refine SC.seq ?_
  refine SC.seq ?_
  refine SC.quiet mixed (by kernel_rfl) ?_
  refine SQ.y (OV.move rfl) rfl ?_
  refine SQ.y (OV.nilCheck rfl) rfl ?_
  refine SQ.y (OV.fld fo62_10 rfl) rfl ?_
  refine SQ.y (OV.loadAggOld (vs := tcs n s) ag25 us25 hi25 rfl (by simp) (by rw [hs25]; rfl) (fun q v h => by match q, h with | 0, h => (cases h; exact k12) | 1, h => (cases h; exact k13) | 2, h => (cases h; exact k14))) rfl ?_
  refine SQ.y (OV.loadAgg (vs := tcs n2 s2) 0 ag25 us25 hi25 rfl rfl (by rw [hs25]; rfl) (fun q v h => by rw [Nat.zero_add]; exact h)) rfl ?_
  refine SQ.callQ pf5 (args2 rfl rfl) (fun w' hM => call5 hn hn2) rfl ?_
  refine SQ.nil ?_
  refine SC.then ?_
  cases af with
  | true =>
    rw [haf]
    refine SC.cond rfl (fun _ => ?_) (fun e => by cases e)
    refine SC.seq ?_
    refine SC.region ?_
    refine SL.y (OV.assign rfl) rfl ?_
    refine SL.nil ?_
    refine SC.then ?_
    refine SC.ret ?_
    repeat (first | refine SE.blockR ?_ | refine SE.thenR ?_)
    have hgf : g = false := H.elim (fun h => by cases h.2.2 hdt) (fun h => h.1)
    exact SE.ret1 Yba.results7 rfl (fun w' hM => ⟨by rw [hgf], hM.weaken (List.nil_sublist _)⟩)
  | false =>
    rw [haf]
    refine SC.cond rfl (fun e => by cases e) (fun _ => ?_)
    refine SC.skip ?_
    refine SC.then ?_
    refine SC.seq ?_
    refine SC.seq ?_
    refine SC.region ?_
    refine SL.y (OV.move rfl) rfl ?_
    refine SL.y (OV.nilCheck rfl) rfl ?_
    refine SL.y (OV.fld fo62_11 rfl) rfl ?_
    refine SL.y (OV.loadOld sc30 rfl (by simp) k15) rfl ?_
    refine SL.nil ?_
    refine SC.then ?_
    refine SC.region ?_
    refine SL.y (OV.move rfl) rfl ?_
    refine SL.callI (inv39 bx) rfl (fun w' hM => call39 (Mm.oldBlk hM (by simp) hX)) rfl ?_
    refine SL.nil ?_
    refine SC.then ?_
    refine SC.seq ?_
    have hf2 : g = true ∨ c = true := H.elim (fun h => .inl h.1) (fun h => h.2.elim .inr (fun h => by cases h.2))
    refine SC.select2 hi hz rfl rfl (fun w' hM => Mm.oldBlk hM (by simp) hg) (fun w' hM => Mm.oldBlk hM (by simp) hc) hf2 rfl ?_
    intro k hk
    refine SL.y (OV.selK rfl) rfl ?_
    rcases hk with ⟨rfl, hgt⟩ | ⟨rfl, hct⟩
    · refine SL.y ((OV.eql rfl rfl).yes rfl) rfl ?_
      refine SL.y (OV.eql rfl rfl) rfl ?_
      refine SL.nil ?_
      refine SC.then ?_
      refine SC.block ?_
      refine SC.cond rfl (fun _ => ?_) (fun e => by cases e)
      refine SC.seq ?_
      refine SC.region ?_
      refine SL.y (OV.assign rfl) rfl ?_
      refine SL.nil ?_
      refine SC.then ?_
      refine SC.ret ?_
      repeat (first | refine SE.blockR ?_ | refine SE.thenR ?_)
      exact SE.ret1 Yba.results7 rfl (fun w' hM => ⟨by rw [hgt], hM.weaken (List.nil_sublist _)⟩)
    · refine SL.y ((OV.eql rfl rfl).no (by decide)) rfl ?_
      refine SL.y ((OV.eql rfl rfl).yes rfl) rfl ?_
      refine SL.nil ?_
      refine SC.then ?_
      refine SC.block ?_
      refine SC.cond rfl (fun e => by cases e) (fun _ => ?_)
      refine SC.cond rfl (fun _ => ?_) (fun e => by cases e)
      refine SC.seq ?_
      refine SC.region ?_
      refine SL.y (OV.assign rfl) rfl ?_
      refine SL.nil ?_
      refine SC.then ?_
      refine SC.ret ?_
      repeat (first | refine SE.blockR ?_ | refine SE.thenR ?_)
      have hgf : g = false := H.elim (fun h => by rw [hct] at h; cases h.2.1) (fun h => h.1)
      exact SE.ret1 Yba.results7 rfl (fun w' hM => ⟨by rw [hgf], hM.weaken (List.nil_sublist _)⟩)
theorem pf7 : plainFunc Yba.prog 7 = true := by kernel_rfl
end Go.Proofs.Ybulkdrgq
