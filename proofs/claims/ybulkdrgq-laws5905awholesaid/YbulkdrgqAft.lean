import Derived.Test.YbulkdrgqAdd
namespace Go.Proofs.Ybulkdrgq
open Go Go.RowKit Go.Proofs.Ybulkdrgq.Sym
set_option linter.unusedVariables false
set_option linter.unusedSimpArgs false
set_option maxRecDepth 100000

def aft (n1 : Nat) (s1 : Int) (n2 : Nat) (s2 : Int) : Bool := decide (s2 < s1 ∨ s1 = s2 ∧ n2 < n1)
/-- Time.After -/
theorem call5 {w : World} {n1 n2 : Nat} {s1 s2 : Int} (h1 : n1 < 1000000000) (h2 : n2 < 1000000000) :
    Calls Yba.prog 5 #[tv n1 s1, tv n2 s2] w fun e w' => e = .returned (.bool (aft n1 s1 n2 s2)) ∧ Mm w [] [] w' := by
  obtain ⟨r, hr, hrl⟩ := and_lt (n := 0) (show n1 < 1073741824 by omega) (show n2 < 1073741824 by omega)
  refine Calls.of_SC (args := [tv n1 s1, tv n2 s2]) Yba.func5 rfl (by simp [Yba.f5]) (Mm.start w) ?_
  refine SC.seq ?_
  refine SC.region ?_
  refine SL.e (OE.box rfl) rfl ?_
  intro b2
  refine SL.e (OE.box rfl) rfl ?_
  intro b3
  refine SL.y (OV.assign rfl) rfl ?_
  refine SL.nil ?_
  refine SC.then ?_
  refine SC.seq ?_
  refine SC.seq ?_
  refine SC.region ?_
  refine SL.y (OV.fld fo25_0 rfl) rfl ?_
  refine SL.y (OV.loadF 0 sc22 rfl rfl rfl) rfl ?_
  refine SL.y (OV.fld fo25_0 rfl) rfl ?_
  refine SL.y (OV.loadF 1 sc22 rfl rfl rfl) rfl ?_
  refine SL.y (OV.and rfl rfl hr) rfl ?_
  refine SL.y (OV.and rfl rfl (and_high hrl)) rfl ?_
  refine SL.y ((OV.neq rfl rfl).no (by omega)) rfl ?_
  refine SL.nil ?_
  refine SC.then ?_
  refine SC.cond rfl (fun e => by cases e) (fun _ => ?_)
  refine SC.skip ?_
  refine SC.then ?_
  refine SC.seq ?_
  refine SC.region ?_
  refine SL.callQ pf13 (args1 rfl) (fun w' hM => call13 (n := n1) (s := s1) h1 (hM.block (j := 0) rfl)) rfl ?_
  refine SL.y (OV.assign rfl) rfl ?_
  refine SL.nil ?_
  refine SC.then ?_
  refine SC.seq ?_
  refine SC.region ?_
  refine SL.callQ pf13 (args1 rfl) (fun w' hM => call13 (n := n2) (s := s2) h2 (hM.block (j := 1) rfl)) rfl ?_
  refine SL.y (OV.assign rfl) rfl ?_
  refine SL.nil ?_
  refine SC.then ?_
  by_cases hlt : s2 < s1
  · have ea : aft n1 s1 n2 s2 = true := decide_eq_true (.inl hlt)
    refine SC.seq ?_
    refine SC.region ?_
    refine SL.y (OV.move rfl) rfl ?_
    refine SL.y (OV.move rfl) rfl ?_
    refine SL.y ((OV.gtr rfl rfl).yes hlt) rfl ?_
    refine SL.y (OV.move rfl) rfl ?_
    refine SL.skip rfl rfl rfl ?_
    refine SL.skip rfl rfl rfl ?_
    refine SL.skip rfl rfl rfl ?_
    refine SL.skip rfl rfl rfl ?_
    refine SL.skipU rfl rfl rfl ?_
    refine SL.skipU rfl rfl rfl ?_
    refine SL.skipU rfl rfl rfl ?_
    refine SL.skip rfl rfl rfl ?_
    refine SL.y (OV.pickT rfl rfl) rfl ?_
    refine SL.y (OV.assign rfl) rfl ?_
    refine SL.nil ?_
    refine SC.then ?_
    refine SC.ret ?_
    exact SE.ret1 Yba.results5 rfl (fun w' hM => ⟨by rw [ea], hM.weaken (List.nil_sublist _)⟩)
  by_cases he : s1 = s2
  · by_cases hn : n2 < n1
    · have ea : aft n1 s1 n2 s2 = true := decide_eq_true (.inr ⟨he, hn⟩)
      refine SC.seq ?_
      refine SC.region ?_
      refine SL.y (OV.move rfl) rfl ?_
      refine SL.y (OV.move rfl) rfl ?_
      refine SL.y ((OV.gtr rfl rfl).no hlt) rfl ?_
      refine SL.y (OV.move rfl) rfl ?_
      refine SL.yg rfl rfl (OV.move rfl) rfl ?_
      refine SL.yg rfl rfl (OV.move rfl) rfl ?_
      refine SL.yg rfl rfl ((OV.eql rfl rfl).yes he) rfl ?_
      refine SL.yg rfl rfl (OV.move rfl) rfl ?_
      refine SL.callQg rfl rfl pf10 (args1 rfl) (fun w' hM => call10 (n := n1) (s := s1) h1 (hM.block (j := 0) rfl)) rfl ?_
      refine SL.callQg rfl rfl pf10 (args1 rfl) (fun w' hM => call10 (n := n2) (s := s2) h2 (hM.block (j := 1) rfl)) rfl ?_
      refine SL.yg rfl rfl ((OV.gtr rfl rfl).yes (by omega)) rfl ?_
      refine SL.yg rfl rfl (OV.pickT rfl rfl) rfl ?_
      refine SL.y (OV.pickF rfl rfl) rfl ?_
      refine SL.y (OV.assign rfl) rfl ?_
      refine SL.nil ?_
      refine SC.then ?_
      refine SC.ret ?_
      exact SE.ret1 Yba.results5 rfl (fun w' hM => ⟨by rw [ea], hM.weaken (List.nil_sublist _)⟩)
    · have ea : aft n1 s1 n2 s2 = false := decide_eq_false (fun h => h.elim hlt (fun h => hn h.2))
      refine SC.seq ?_
      refine SC.region ?_
      refine SL.y (OV.move rfl) rfl ?_
      refine SL.y (OV.move rfl) rfl ?_
      refine SL.y ((OV.gtr rfl rfl).no hlt) rfl ?_
      refine SL.y (OV.move rfl) rfl ?_
      refine SL.yg rfl rfl (OV.move rfl) rfl ?_
      refine SL.yg rfl rfl (OV.move rfl) rfl ?_
      refine SL.yg rfl rfl ((OV.eql rfl rfl).yes he) rfl ?_
      refine SL.yg rfl rfl (OV.move rfl) rfl ?_
      refine SL.callQg rfl rfl pf10 (args1 rfl) (fun w' hM => call10 (n := n1) (s := s1) h1 (hM.block (j := 0) rfl)) rfl ?_
      refine SL.callQg rfl rfl pf10 (args1 rfl) (fun w' hM => call10 (n := n2) (s := s2) h2 (hM.block (j := 1) rfl)) rfl ?_
      refine SL.yg rfl rfl ((OV.gtr rfl rfl).no (by omega)) rfl ?_
      refine SL.yg rfl rfl (OV.pickT rfl rfl) rfl ?_
      refine SL.y (OV.pickF rfl rfl) rfl ?_
      refine SL.y (OV.assign rfl) rfl ?_
      refine SL.nil ?_
      refine SC.then ?_
      refine SC.ret ?_
      exact SE.ret1 Yba.results5 rfl (fun w' hM => ⟨by rw [ea], hM.weaken (List.nil_sublist _)⟩)
  · have ea : aft n1 s1 n2 s2 = false := decide_eq_false (fun h => h.elim hlt (fun h => he h.1))
    refine SC.seq ?_
    refine SC.region ?_
    refine SL.y (OV.move rfl) rfl ?_
    refine SL.y (OV.move rfl) rfl ?_
    refine SL.y ((OV.gtr rfl rfl).no hlt) rfl ?_
    refine SL.y (OV.move rfl) rfl ?_
    refine SL.yg rfl rfl (OV.move rfl) rfl ?_
    refine SL.yg rfl rfl (OV.move rfl) rfl ?_
    refine SL.yg rfl rfl ((OV.eql rfl rfl).no he) rfl ?_
    refine SL.yg rfl rfl (OV.move rfl) rfl ?_
    refine SL.skip rfl rfl rfl ?_
    refine SL.skip rfl rfl rfl ?_
    refine SL.skip rfl rfl rfl ?_
    refine SL.yg rfl rfl (OV.pickF rfl rfl) rfl ?_
    refine SL.y (OV.pickF rfl rfl) rfl ?_
    refine SL.y (OV.assign rfl) rfl ?_
    refine SL.nil ?_
    refine SC.then ?_
    refine SC.ret ?_
    exact SE.ret1 Yba.results5 rfl (fun w' hM => ⟨by rw [ea], hM.weaken (List.nil_sublist _)⟩)
theorem pf5 : plainFunc Yba.prog 5 = true := by kernel_rfl
/-- Time.Equal, of a time with itself -/
theorem call8 {w : World} {n : Nat} {s : Int} (h1 : n < 1000000000) :
    Calls Yba.prog 8 #[tv n s, tv n s] w fun e w' => e = .returned (.bool true) ∧ Mm w [] [] w' := by
  obtain ⟨r, hr, hrl⟩ := and_lt (n := 0) (show n < 1073741824 by omega) (show n < 1073741824 by omega)
  refine Calls.of_SC (args := [tv n s, tv n s]) Yba.func8 rfl (by simp [Yba.f8]) (Mm.start w) ?_
  refine SC.seq ?_
  refine SC.region ?_
  refine SL.e (OE.box rfl) rfl ?_
  intro b2
  refine SL.e (OE.box rfl) rfl ?_
  intro b3
  refine SL.y (OV.assign rfl) rfl ?_
  refine SL.nil ?_
  refine SC.then ?_
  refine SC.seq ?_
  refine SC.seq ?_
  refine SC.region ?_
  refine SL.y (OV.fld fo25_0 rfl) rfl ?_
  refine SL.y (OV.loadF 0 sc22 rfl rfl rfl) rfl ?_
  refine SL.y (OV.fld fo25_0 rfl) rfl ?_
  refine SL.y (OV.loadF 1 sc22 rfl rfl rfl) rfl ?_
  refine SL.y (OV.and rfl rfl hr) rfl ?_
  refine SL.y (OV.and rfl rfl (and_high hrl)) rfl ?_
  refine SL.y ((OV.neq rfl rfl).no (by omega)) rfl ?_
  refine SL.nil ?_
  refine SC.then ?_
  refine SC.cond rfl (fun e => by cases e) (fun _ => ?_)
  refine SC.skip ?_
  refine SC.then ?_
  refine SC.seq ?_
  refine SC.region ?_
  refine SL.callQ pf13 (args1 rfl) (fun w' hM => call13 (n := n) (s := s) h1 (hM.block (j := 0) rfl)) rfl ?_
  refine SL.callQ pf13 (args1 rfl) (fun w' hM => call13 (n := n) (s := s) h1 (hM.block (j := 1) rfl)) rfl ?_
  refine SL.y ((OV.eql rfl rfl).yes rfl) rfl ?_
  refine SL.y (OV.move rfl) rfl ?_
  refine SL.callQg rfl rfl pf10 (args1 rfl) (fun w' hM => call10 (n := n) (s := s) h1 (hM.block (j := 0) rfl)) rfl ?_
  refine SL.callQg rfl rfl pf10 (args1 rfl) (fun w' hM => call10 (n := n) (s := s) h1 (hM.block (j := 1) rfl)) rfl ?_
  refine SL.yg rfl rfl ((OV.eql rfl rfl).yes rfl) rfl ?_
  refine SL.y (OV.pickT rfl rfl) rfl ?_
  refine SL.y (OV.assign rfl) rfl ?_
  refine SL.nil ?_
  refine SC.then ?_
  refine SC.ret ?_
  exact SE.ret1 Yba.results8 rfl (fun w' hM => ⟨rfl, hM.weaken (List.nil_sublist _)⟩)
theorem pf8 : plainFunc Yba.prog 8 = true := by kernel_rfl
/-- zzs5905achan -/
theorem u30 : Yba.prog.underlying 30 = some (.chan .both 38) := by kernel_rfl
theorem info38 : (Yba.prog.info? 38).map (fun i => (i.zero, i.size, i.bytes)) = some (some (.agg #[]), 0, 0) := by kernel_rfl
theorem call6 (cl : Bool) (w : World) :
    Calls Yba.prog 6 #[.bool cl] w fun e w' => ∃ c : Nat, e = .returned (.chan (some c)) ∧ True ∧ Mm w [] [(c, chn cl)] w' := by
  obtain ⟨i38, hi, hz, hs, hb⟩ := info_parts info38
  refine Calls.of_SC (args := [.bool cl]) Yba.func6 rfl (by simp [Yba.f6]) (Mm.start w) ?_
  refine SC.seq ?_
  refine SC.region ?_
  refine SL.y (OV.assign rfl) rfl ?_
  refine SL.nil ?_
  refine SC.then ?_
  refine SC.seq ?_
  refine SC.region ?_
  refine SL.e (OE.makeChan u30 hi) rfl ?_
  intro c
  refine SL.y (OV.assign rfl) rfl ?_
  refine SL.nil ?_
  refine SC.then ?_
  refine SC.cutSt [(3, .chan (some c))] [(c, chn cl)] ?_ ?_
  · skip
    refine SC.seq ?_
    refine SC.region ?_
    refine SL.y (OV.move rfl) rfl ?_
    refine SL.nil ?_
    refine SC.then ?_
    cases cl with
    | true =>
      refine SC.cond rfl (fun _ => ?_) (fun e => by cases e)
      refine SC.region ?_
      refine SL.y (OV.move rfl) rfl ?_
      refine SL.close (j := 0) rfl rfl ?_
      refine SL.nil ?_
      exact SE.toSt (by repeat' (first | exact trivial | refine ⟨rfl, ?_⟩)) (List.Sublist.refl _)
    | false =>
      refine SC.cond rfl (fun e => by cases e) (fun _ => ?_)
      refine SC.skip ?_
      exact SE.toSt (by repeat' (first | exact trivial | refine ⟨rfl, ?_⟩)) (List.Sublist.refl _)
  refine SC.seq ?_
  refine SC.region ?_
  refine SL.y (OV.move rfl) rfl ?_
  refine SL.y (OV.assign rfl) rfl ?_
  refine SL.nil ?_
  refine SC.then ?_
  refine SC.ret ?_
  exact SE.ret1 Yba.results6 rfl (fun w' hM => ⟨c, rfl, trivial, hM⟩)
theorem pf6 : plainFunc Yba.prog 6 = true := by kernel_rfl
/-- (*zzs5905actx).Done -/
theorem call39 {w : World} {b c : Nat} {t : Bool} (h : w.heap[b]? = some (row 65 [.chan (some c), .bool t])) :
    Calls Yba.prog 39 #[pt b] w fun e w' => e = .returned (.chan (some c)) ∧ Mm w [] [] w' := by
  refine Calls.of_SC (args := [pt b]) Yba.func39 rfl (by simp [Yba.f39]) (Mm.start w) ?_
  refine SC.seq ?_
  refine SC.region ?_
  refine SL.y (OV.assign rfl) rfl ?_
  refine SL.nil ?_
  refine SC.then ?_
  refine SC.seq ?_
  refine SC.region ?_
  refine SL.y (OV.move rfl) rfl ?_
  refine SL.y (OV.nilCheck rfl) rfl ?_
  refine SL.y (OV.fld fo65_0 rfl) rfl ?_
  refine SL.y (OV.loadOld (v := .chan (some c)) sc30 rfl (by simp) (by simp [World.cell?, h, row])) rfl ?_
  refine SL.y (OV.assign rfl) rfl ?_
  refine SL.nil ?_
  refine SC.then ?_
  refine SC.ret ?_
  exact SE.ret1 Yba.results39 rfl (fun w' hM => ⟨rfl, hM⟩)
theorem inv39 (b : Nat) (w : World) : (invoke (.fn (.method "Done") #[]) #[.iface 63 (pt b)]).run Yba.prog w = .ok (.enter 39 #[pt b]) w := by kernel_rfl
end Go.Proofs.Ybulkdrgq
