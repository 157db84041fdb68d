import Derived.Test.YbulkdrciAEmit
namespace Go.Proofs.Ybulkdrci.A
open Go Go.RowKit Go.Proofs.Ybulkdrci.A.Sym
set_option linter.unusedVariables false
set_option linter.unusedSimpArgs false
set_option maxRecDepth 100000

section
variable {D : RD} {br bN : Nat} {cm : Bool} {x y : Int} {s : NSt} {w : World}
theorem cell2 {k : Nat} (h : w.heap[bN]? = some (nrow D s)) (hk : k ≤ D.n) : w.cell? ⟨bN, 0 + k * 5 + 2, none⟩ = some (.bool (s k).dn) := by rw [ncellAt h (by omega), nc2]
theorem cell3 {k : Nat} (h : w.heap[bN]? = some (nrow D s)) (hk : k ≤ D.n) : w.cell? ⟨bN, 0 + k * 5 + 3, none⟩ = some (.int .u8 (s k).vt) := by rw [ncellAt h (by omega), nc3]
theorem cell4 {k : Nat} (h : w.heap[bN]? = some (nrow D s)) (hk : k ≤ D.n) : w.cell? ⟨bN, 0 + k * 5 + 4, none⟩ = some (.int .u8 (s k).dc) := by rw [ncellAt h (by omega), nc4]
theorem endOf_pos {D : RD} {k : Nat} (h : 1 ≤ k) : endOf D k = k + 1 := by unfold endOf; rw [if_neg (by omega)]
theorem endOf_zero {D : RD} : endOf D 0 = D.n + 1 := by unfold endOf; rw [if_pos rfl]
/-- tell -/
theorem call34 {k till : Nat} {mg : Int} (hk : k ≤ D.n) (ht : till ≤ D.n + 1) (hD : D.n ≤ 100000) (hA : At D br bN cm x y s w) : Does 34 #[pt br, .int .i64 k, .int .u8 mg, .int .i64 till] w D br bN (.tuple #[]) cm s := by
  obtain ⟨i92, hi, hz, hs, hb⟩ := info_parts info92
  refine Calls.of_SC (args := [pt br, .int .i64 k, .int .u8 mg, .int .i64 till]) Yba.func34 rfl (by simp [Yba.f34]) hA.start ?_
  refine SC.seq ?_
  refine SC.region ?_
  refine SL.y (OV.move rfl) rfl ?_
  refine SL.y (OV.add rfl rfl (wrap_i64 (by omega) (by omega))) rfl ?_
  refine SL.y (OV.assign rfl) rfl ?_
  refine SL.nil ?_
  refine SC.then ?_
  refine SC.block ?_
  refine SC.loopAB (fun (c : Nat) (z : Int × Int) => [(8, .int .i64 c), (0, pt br), (1, .int .i64 k), (2, .int .u8 mg), (3, .int .i64 till)]) (fun c z => [(br, rrow D bN cm z.1 z.2), (bN, nrow D s)]) (fun c z => k + 1 ≤ c ∧ c ≤ D.n + 1) (fun c z => D.n + 1 - c) (k + 1) (x, y) ⟨by omega, by omega⟩ (by repeat' (first | exact trivial | refine ⟨rfl, ?_⟩)) (List.Sublist.refl _) ?_
  rintro c z ⟨hc1, hc2⟩
  refine SC.seq ?_
  refine SC.seq ?_
  refine SC.region ?_
  refine SL.y (OV.move rfl) rfl ?_
  refine SL.y (OV.move rfl) rfl ?_
  refine SL.y (OV.lss rfl rfl) rfl ?_
  refine SL.nil ?_
  refine SC.then ?_
  refine SC.condP rfl (fun hlt => ?_) (fun hge => ?_)
  · have hlt' : c < till := by omega
    refine SC.skip ?_
    refine SC.then ?_
    refine SC.cutG (fun z : Int × Int => [(8, .int .i64 c), (0, pt br), (1, .int .i64 k), (2, .int .u8 mg), (3, .int .i64 till)]) (fun z => [(br, rrow D bN cm z.1 z.2), (bN, nrow D s)]) (fun _ => True) ?_ ?_
    · refine SC.block ?_
      refine SC.seq ?_
      refine SC.region ?_
      refine SL.y (OV.move rfl) rfl ?_
      refine SL.y (OV.nilCheck rfl) rfl ?_
      refine SL.y (OV.fld fo88_2 rfl) rfl ?_
      refine SL.y (OV.loadF 0 sc86 rfl rfl rfl) rfl ?_
      refine SL.y (OV.move rfl) rfl ?_
      refine SL.y (OV.idx c u86 hi hs rfl rfl rfl (by omega)) rfl ?_
      refine SL.callQ pf25 (args1 rfl) (fun w' hM => call25 (cell3 (hM.block (j := 1) rfl) (by omega))) rfl ?_
      refine SL.y (OV.not rfl) rfl ?_
      refine SL.nil ?_
      refine SC.then ?_
      refine SC.cond rfl (fun e => ?_) (fun e => ?_)
      · skip
        refine SC.region ?_
        refine SL.y (OV.move rfl) rfl ?_
        refine SL.y (OV.move rfl) rfl ?_
        refine SL.y (OV.move rfl) rfl ?_
        refine SL.y (OV.move rfl) rfl ?_
        refine SL.callR pf43 (args4 rfl rfl rfl rfl) (fun w' hM => call43 hk (by omega) (hA.go hM)) rfl ?_
        intro z'
        refine SL.nil ?_
        exact SE.nb (SE.toG z' trivial (by repeat' (first | exact trivial | refine ⟨rfl, ?_⟩)) (List.Sublist.refl _))
      · refine SC.skip ?_
        exact SE.nb (SE.toG z trivial (by repeat' (first | exact trivial | refine ⟨rfl, ?_⟩)) (List.Sublist.refl _))
    intro z' _
    refine SC.region ?_
    refine SL.y (OV.move rfl) rfl ?_
    refine SL.y (OV.nilCheck rfl) rfl ?_
    refine SL.y (OV.fld fo88_2 rfl) rfl ?_
    refine SL.y (OV.loadF 0 sc86 rfl rfl rfl) rfl ?_
    refine SL.y (OV.move rfl) rfl ?_
    refine SL.y (OV.idx c u86 hi hs rfl rfl rfl (by omega)) rfl ?_
    refine SL.y (OV.fld fo92_1 rfl) rfl ?_
    refine SL.y (OV.loadT 1 sc3 rfl rfl (by omega) (nc1 D s c)) rfl ?_
    refine SL.y (OV.assign rfl) rfl ?_
    refine SL.nil ?_
    rw [endOf_pos (by omega)]
    exact SE.roundAB (c + 1) z' ⟨by omega, by omega⟩ (by omega) (by repeat' (first | exact trivial | refine ⟨rfl, ?_⟩)) (List.Sublist.refl _)
  · refine SC.exit ?_
    refine SE.thenE (SE.thenE (SE.inBlock ?_))
    exact SE.end0 Yba.results34 (fun w' hM => ⟨z, rfl, trivial, hM⟩)
theorem pf34 : plainFunc Yba.prog 34 = true := by kernel_rfl
/-- tell, to nobody: nothing is touched -/
theorem call34none {k : Nat} {mg : Int} (hbig : k ≤ 1000000) : Calls Yba.prog 34 #[pt br, .int .i64 k, .int .u8 mg, .int .i64 ((k + 1 : Nat) : Int)] w fun e w' => e = .returned (.tuple #[]) ∧ Mm w [] [] w' := by
  refine Calls.of_SC (args := [pt br, .int .i64 k, .int .u8 mg, .int .i64 ((k + 1 : Nat) : Int)]) Yba.func34 rfl (by simp [Yba.f34]) (Mm.start w) ?_
  · skip
    refine SC.seq ?_
    refine SC.region ?_
    refine SL.y (OV.move rfl) rfl ?_
    refine SL.y (OV.add rfl rfl (wrap_i64 (by omega) (by omega))) rfl ?_
    refine SL.y (OV.assign rfl) rfl ?_
    refine SL.nil ?_
    refine SC.then ?_
    refine SC.block ?_
    refine SC.loop (fun _ : Unit => [(8, .int .i64 ((k + 1 : Nat) : Int)), (3, .int .i64 ((k + 1 : Nat) : Int))]) (fun _ => []) (fun _ => True) (fun _ => 0) () trivial (by repeat' (first | exact trivial | refine ⟨rfl, ?_⟩)) (List.Sublist.refl _) ?_
    intro _ _
    refine SC.seq ?_
    refine SC.seq ?_
    refine SC.region ?_
    refine SL.y (OV.move rfl) rfl ?_
    refine SL.y (OV.move rfl) rfl ?_
    refine SL.y (OV.lss rfl rfl) rfl ?_
    refine SL.nil ?_
    refine SC.then ?_
    refine SC.condP rfl (fun hlt => absurd hlt (by omega)) (fun hge => ?_)
    refine SC.exit ?_
    refine SE.thenE (SE.thenE (SE.inBlock ?_))
    exact SE.end0 Yba.results34 (fun w' hM => ⟨rfl, hM⟩)
/-- vote -/
theorem call40 {k b : Nat} {mg : Int} (hk : k ≤ D.n) (hb0 : b ≤ D.n) (hA : At D br bN cm x y s w) : Does 40 #[pt br, .int .i64 k, .int .i64 b, .int .u8 mg] w D br bN (.tuple #[]) cm (setVt s k mg) := by
  obtain ⟨i92, hi, hz, hs, hb⟩ := info_parts info92
  refine Calls.of_SC (args := [pt br, .int .i64 k, .int .i64 b, .int .u8 mg]) Yba.func40 rfl (by simp [Yba.f40]) hA.start ?_
  refine SC.seq ?_
  refine SC.region ?_
  refine SL.y (OV.move rfl) rfl ?_
  refine SL.y (OV.nilCheck rfl) rfl ?_
  refine SL.y (OV.fld fo88_2 rfl) rfl ?_
  refine SL.y (OV.loadF 0 sc86 rfl rfl rfl) rfl ?_
  refine SL.y (OV.move rfl) rfl ?_
  refine SL.y (OV.move rfl) rfl ?_
  refine SL.y (OV.idx k u86 hi hs rfl rfl rfl (by omega)) rfl ?_
  refine SL.y (OV.fld fo92_3 rfl) rfl ?_
  refine SL.s (OS.store1 1 sz42 rfl rfl rfl rfl (by rw [length_tab]; omega)) ?_
  refine SL.nil ?_
  refine SC.then ?_
  rw [nset3 hk]
  refine SC.seq ?_
  refine SC.region ?_
  refine SL.y (OV.move rfl) rfl ?_
  refine SL.y (OV.nilCheck rfl) rfl ?_
  refine SL.y (OV.fld fo88_3 rfl) rfl ?_
  refine SL.y (OV.fld fo34_1 rfl) rfl ?_
  refine SL.y (OV.loadF 0 sc32 rfl rfl rfl) rfl ?_
  refine SL.y (OV.eql rfl rfl) rfl ?_
  refine SL.nil ?_
  refine SC.then ?_
  refine SC.cond rfl (fun _ => ?_) (fun e => by cases e)
  refine SC.region ?_
  refine SL.y (OV.move rfl) rfl ?_
  refine SL.y (OV.move rfl) rfl ?_
  refine SL.y (OV.move rfl) rfl ?_
  refine SL.y (OV.move rfl) rfl ?_
  refine SL.callR (s := setVt s k mg) pf43 (args4 rfl rfl rfl rfl) (fun w' hM => call43 hk hb0 (hA.go hM)) rfl ?_
  intro z
  refine SL.nil ?_
  exact SE.end0 Yba.results40 (fun w' hM => ⟨z, rfl, trivial, hM⟩)
theorem pf40 : plainFunc Yba.prog 40 = true := by kernel_rfl
/-- ready, of a node with nobody under it -/
theorem call41 {k : Nat} (hk1 : 1 ≤ k) (hk : k ≤ D.n) (hD : D.n ≤ 100000) (hA : At D br bN cm x y s w) : Calls Yba.prog 41 #[pt br, .int .i64 k] w fun e w' => e = .returned (.bool true) ∧ Mm w [] [] w' := by
  obtain ⟨i92, hi, hz, hs, hb⟩ := info_parts info92
  have hb5 : w.cell? ⟨br, 0 + 5, none⟩ = some (nsl D bN) := by simp [World.cell?, hA.hr, rrow, row, rcells]
  have hn1 : w.cell? ⟨bN, 0 + k * 5 + 1, none⟩ = some (.int .i64 ((k + 1 : Nat) : Int)) := by rw [ncellAt hA.hn (by omega), nc1, endOf_pos hk1]
  refine Calls.of_SC (args := [pt br, .int .i64 k]) Yba.func41 rfl (by simp [Yba.f41]) (Mm.start w) ?_
  refine SC.seq ?_
  refine SC.region ?_
  refine SL.y (OV.assign rfl) rfl ?_
  refine SL.nil ?_
  refine SC.then ?_
  refine SC.seq ?_
  refine SC.seq ?_
  refine SC.region ?_
  refine SL.y (OV.move rfl) rfl ?_
  refine SL.y (OV.add rfl rfl (wrap_i64 (by omega) (by omega))) rfl ?_
  refine SL.y (OV.assign rfl) rfl ?_
  refine SL.nil ?_
  refine SC.then ?_
  refine SC.block ?_
  refine SC.loop (fun _ : Unit => [(5, .int .i64 ((k + 1 : Nat) : Int)), (0, pt br), (1, .int .i64 k)]) (fun _ => []) (fun _ => True) (fun _ => 0) () trivial (by repeat' (first | exact trivial | refine ⟨rfl, ?_⟩)) (List.Sublist.refl _) ?_
  intro _ _
  refine SC.seq ?_
  refine SC.seq ?_
  refine SC.region ?_
  refine SL.y (OV.move rfl) rfl ?_
  refine SL.y (OV.move rfl) rfl ?_
  refine SL.y (OV.nilCheck rfl) rfl ?_
  refine SL.y (OV.fld fo88_2 rfl) rfl ?_
  refine SL.y (OV.loadOld sc86 rfl (by simp) hb5) rfl ?_
  refine SL.y (OV.move rfl) rfl ?_
  refine SL.y (OV.idx k u86 hi hs rfl rfl rfl (by omega)) rfl ?_
  refine SL.y (OV.fld fo92_1 rfl) rfl ?_
  refine SL.y (OV.loadOld sc3 rfl (by simp) hn1) rfl ?_
  refine SL.y (OV.lss rfl rfl) rfl ?_
  refine SL.nil ?_
  refine SC.then ?_
  refine SC.condP rfl (fun hlt => absurd hlt (by omega)) (fun hge => ?_)
  refine SC.exit ?_
  refine SE.thenE (SE.thenE (SE.inBlock ?_))
  refine SC.then ?_
  refine SC.seq ?_
  refine SC.region ?_
  refine SL.y (OV.assign rfl) rfl ?_
  refine SL.nil ?_
  refine SC.then ?_
  refine SC.ret ?_
  exact SE.ret1 Yba.results41 rfl (fun w' hM => ⟨rfl, hM⟩)
theorem pf41 : plainFunc Yba.prog 41 = true := by kernel_rfl
/-- decision -/
def recOf (cm : Bool) : Int := if cm then 3 else 4
theorem call36 (hA : At D br bN cm x y s w) : Calls Yba.prog 36 #[pt br] w fun e w' => e = .returned (.tuple #[.int .u8 (recOf cm), .int .u8 (msgOf (recOf cm))]) ∧ Mm w [] [] w' := by
  have h0 : w.cell? ⟨br, 0 + 0 + 0, none⟩ = some (.bool cm) := by simp [World.cell?, hA.hr, rrow, row, rcells]
  refine Calls.of_SC (args := [pt br]) Yba.func36 rfl (by simp [Yba.f36]) (Mm.start w) ?_
  refine SC.seq ?_
  refine SC.region ?_
  refine SL.y (OV.assign rfl) rfl ?_
  refine SL.y (OV.assign rfl) rfl ?_
  refine SL.nil ?_
  refine SC.then ?_
  refine SC.seq ?_
  refine SC.region ?_
  refine SL.y (OV.assign rfl) rfl ?_
  refine SL.nil ?_
  refine SC.then ?_
  refine SC.cutSt [(4, .int .u8 (recOf cm))] [] ?_ ?_
  · skip
    refine SC.seq ?_
    refine SC.region ?_
    refine SL.y (OV.move rfl) rfl ?_
    refine SL.y (OV.nilCheck rfl) rfl ?_
    refine SL.y (OV.fld fo88_0 rfl) rfl ?_
    refine SL.y (OV.fld fo84_0 rfl) rfl ?_
    refine SL.y (OV.loadOld sc4 rfl (by simp) h0) rfl ?_
    refine SL.nil ?_
    refine SC.then ?_
    cases cm with
    | true =>
      refine SC.cond rfl (fun _ => ?_) (fun e => by cases e)
      refine SC.region ?_
      refine SL.y (OV.assign rfl) rfl ?_
      refine SL.nil ?_
      exact SE.toSt (by repeat' (first | exact trivial | refine ⟨rfl, ?_⟩)) (List.Sublist.refl _)
    | false =>
      refine SC.cond rfl (fun e => by cases e) (fun _ => ?_)
      refine SC.skip ?_
      exact SE.toSt (by repeat' (first | exact trivial | refine ⟨rfl, ?_⟩)) (List.Sublist.refl _)
  refine SC.seq ?_
  refine SC.region ?_
  refine SL.y (OV.move rfl) rfl ?_
  refine SL.y (OV.move rfl) rfl ?_
  refine SL.callQ pf38 (args1 rfl) (fun w hM => call38 _ w) rfl ?_
  refine SL.y (OV.assign rfl) rfl ?_
  refine SL.y (OV.assign rfl) rfl ?_
  refine SL.nil ?_
  refine SC.then ?_
  refine SC.ret ?_
  exact SE.ret2 Yba.results36 rfl rfl (fun w' hM => ⟨rfl, hM⟩)
theorem pf36 : plainFunc Yba.prog 36 = true := by kernel_rfl
/-- answer, of a node with nobody under it -/
def ansSt (D : RD) (s : NSt) (k : Nat) : NSt := if (s k).dn = true then s else if D.fl k = 1 then setVt s k 3 else if D.fl k = 2 then setDn (setVt s k 2) k true else setVt s k 2
theorem call31 {k b : Nat} (hk1 : 1 ≤ k) (hk : k ≤ D.n) (hb0 : b ≤ D.n) (hD : D.n ≤ 100000) (hA : At D br bN cm x y s w) : Does 31 #[pt br, .int .i64 k, .int .i64 b] w D br bN (.tuple #[]) cm (ansSt D s k) := by
  obtain ⟨i92, hi, hz, hs, hb⟩ := info_parts info92
  have hout := hA.hP.out k hk
  refine Calls.of_SC (args := [pt br, .int .i64 k, .int .i64 b]) Yba.func31 rfl (by simp [Yba.f31]) hA.start ?_
  refine SC.seq ?_
  refine SC.region ?_
  refine SL.y (OV.move rfl) rfl ?_
  refine SL.y (OV.nilCheck rfl) rfl ?_
  refine SL.y (OV.fld fo88_2 rfl) rfl ?_
  refine SL.y (OV.loadF 0 sc86 rfl rfl rfl) rfl ?_
  refine SL.y (OV.move rfl) rfl ?_
  refine SL.y (OV.idx k u86 hi hs rfl rfl rfl (by omega)) rfl ?_
  refine SL.y (OV.assign rfl) rfl ?_
  refine SL.nil ?_
  refine SC.then ?_
  refine SC.seq ?_
  refine SC.region ?_
  refine SL.y (OV.move rfl) rfl ?_
  refine SL.y (OV.nilCheck rfl) rfl ?_
  refine SL.y (OV.fld fo88_3 rfl) rfl ?_
  refine SL.y (OV.fld fo34_1 rfl) rfl ?_
  refine SL.y (OV.loadF 0 sc32 rfl rfl rfl) rfl ?_
  refine SL.y (OV.neq rfl rfl) rfl ?_
  refine SL.y (OV.assign rfl) rfl ?_
  refine SL.nil ?_
  refine SC.then ?_
  refine SC.block ?_
  refine SC.seq ?_
  refine SC.region ?_
  refine SL.y (OV.move rfl) rfl ?_
  refine SL.y (OV.nilCheck rfl) rfl ?_
  refine SL.y (OV.fld fo92_2 rfl) rfl ?_
  refine SL.y (OV.loadT 1 sc4 rfl rfl (by omega) (nc2 D s k)) rfl ?_
  refine SL.y (OV.assign rfl) rfl ?_
  refine SL.nil ?_
  refine SC.then ?_
  refine SC.cond rfl (fun hdn => ?_) (fun hdn => ?_)
  · have e : ansSt D s k = s := by unfold ansSt; rw [if_pos hdn]
    rw [e]
    refine SC.skip ?_
    exact SE.nb (SE.end0 Yba.results31 (fun w' hM => ⟨(x, y), rfl, trivial, hM⟩))
  · skip
    refine SC.seq ?_
    refine SC.region ?_
    refine SL.y (OV.move rfl) rfl ?_
    refine SL.y (OV.nilCheck rfl) rfl ?_
    refine SL.y (OV.fld fo88_3 rfl) rfl ?_
    refine SL.y (OV.fld fo34_0 rfl) rfl ?_
    refine SL.y (OV.loadF 0 sc4 rfl rfl rfl) rfl ?_
    refine SL.y (OV.move rfl) rfl ?_
    refine SL.skip rfl rfl rfl ?_
    refine SL.skip rfl rfl rfl ?_
    refine SL.skip rfl rfl rfl ?_
    refine SL.skip rfl rfl rfl ?_
    refine SL.skip rfl rfl rfl ?_
    refine SL.skip rfl rfl rfl ?_
    refine SL.skip rfl rfl rfl ?_
    refine SL.y (OV.pickF rfl rfl) rfl ?_
    refine SL.y (OV.move rfl) rfl ?_
    refine SL.skip rfl rfl rfl ?_
    refine SL.skip rfl rfl rfl ?_
    refine SL.skip rfl rfl rfl ?_
    refine SL.skip rfl rfl rfl ?_
    refine SL.skip rfl rfl rfl ?_
    refine SL.skip rfl rfl rfl ?_
    refine SL.skip rfl rfl rfl ?_
    refine SL.y (OV.pickF rfl rfl) rfl ?_
    refine SL.y (OV.assign rfl) rfl ?_
    refine SL.nil ?_
    refine SC.then ?_
    refine SC.cond rfl (fun e => by cases e) (fun _ => ?_)
    by_cases hf1 : D.fl k = 1
    · have e : ansSt D s k = setVt s k 3 := by unfold ansSt; rw [if_neg (by rw [hdn]; decide), if_pos hf1]
      rw [e]
      refine SC.seq ?_
      refine SC.region ?_
      refine SL.y (OV.move rfl) rfl ?_
      refine SL.y (OV.nilCheck rfl) rfl ?_
      refine SL.y (OV.fld fo92_0 rfl) rfl ?_
      refine SL.y (OV.loadT 1 sc89 rfl rfl (by omega) (nc0 D s k)) rfl ?_
      refine SL.y (OV.nilCheck rfl) rfl ?_
      refine SL.y (OV.fld fo28_1 rfl) rfl ?_
      refine SL.y (OV.loadOld sc26 rfl hout (hA.hP.fl k hk)) rfl ?_
      refine SL.y ((OV.eql rfl rfl).yes hf1) rfl ?_
      refine SL.y (OV.move rfl) rfl ?_
      refine SL.skip rfl rfl rfl ?_
      refine SL.skip rfl rfl rfl ?_
      refine SL.skip rfl rfl rfl ?_
      refine SL.skipU rfl rfl rfl ?_
      refine SL.skipU rfl rfl rfl ?_
      refine SL.skipU rfl rfl rfl ?_
      refine SL.skipU rfl rfl rfl ?_
      refine SL.skip rfl rfl rfl ?_
      refine SL.y (OV.pickT rfl rfl) rfl ?_
      refine SL.y (OV.assign rfl) rfl ?_
      refine SL.nil ?_
      refine SC.then ?_
      refine SC.cond rfl (fun _ => ?_) (fun e => by cases e)
      refine SC.region ?_
      refine SL.y (OV.move rfl) rfl ?_
      refine SL.y (OV.move rfl) rfl ?_
      refine SL.y (OV.move rfl) rfl ?_
      refine SL.callR pf40 (args4 rfl rfl rfl rfl) (fun w' hM => call40 hk hb0 (hA.go hM)) rfl ?_
      intro z
      refine SL.nil ?_
      exact SE.nb (SE.end0 Yba.results31 (fun w' hM => ⟨z, rfl, trivial, hM⟩))
    · skip
      refine SC.seq ?_
      refine SC.region ?_
      refine SL.y (OV.move rfl) rfl ?_
      refine SL.y (OV.nilCheck rfl) rfl ?_
      refine SL.y (OV.fld fo92_0 rfl) rfl ?_
      refine SL.y (OV.loadT 1 sc89 rfl rfl (by omega) (nc0 D s k)) rfl ?_
      refine SL.y (OV.nilCheck rfl) rfl ?_
      refine SL.y (OV.fld fo28_1 rfl) rfl ?_
      refine SL.y (OV.loadOld sc26 rfl hout (hA.hP.fl k hk)) rfl ?_
      refine SL.y ((OV.eql rfl rfl).no hf1) rfl ?_
      refine SL.y (OV.move rfl) rfl ?_
      refine SL.yg rfl rfl (OV.move rfl) rfl ?_
      refine SL.yg rfl rfl (OV.not rfl) rfl ?_
      refine SL.yg rfl rfl (OV.move rfl) rfl ?_
      refine SL.yg rfl rfl (OV.move rfl) rfl ?_
      refine SL.yg rfl rfl (OV.move rfl) rfl ?_
      refine SL.callQg rfl rfl pf41 (args2 rfl rfl) (fun w' hM => call41 hk1 hk hD (hA.go hM)) rfl ?_
      refine SL.yg rfl rfl (OV.not rfl) rfl ?_
      refine SL.yg rfl rfl (OV.pickT rfl rfl) rfl ?_
      refine SL.y (OV.pickF rfl rfl) rfl ?_
      refine SL.y (OV.assign rfl) rfl ?_
      refine SL.nil ?_
      refine SC.then ?_
      refine SC.cond rfl (fun e => by cases e) (fun _ => ?_)
      refine SC.seq ?_
      refine SC.region ?_
      refine SL.y (OV.assign rfl) rfl ?_
      refine SL.nil ?_
      refine SC.then ?_
      refine SC.seq ?_
      refine SC.seq ?_
      refine SC.region ?_
      refine SL.y (OV.move rfl) rfl ?_
      refine SL.y (OV.nilCheck rfl) rfl ?_
      refine SL.y (OV.fld fo88_3 rfl) rfl ?_
      refine SL.y (OV.fld fo34_1 rfl) rfl ?_
      refine SL.y (OV.loadF 0 sc32 rfl rfl rfl) rfl ?_
      refine SL.y (OV.eql rfl rfl) rfl ?_
      refine SL.nil ?_
      refine SC.then ?_
      refine SC.cond rfl (fun e => by cases e) (fun _ => ?_)
      refine SC.skip ?_
      refine SC.then ?_
      refine SC.seq ?_
      refine SC.region ?_
      refine SL.y (OV.move rfl) rfl ?_
      refine SL.y (OV.move rfl) rfl ?_
      refine SL.y (OV.nilCheck rfl) rfl ?_
      refine SL.y (OV.fld fo92_0 rfl) rfl ?_
      refine SL.y (OV.loadT 1 sc89 rfl rfl (by omega) (nc0 D s k)) rfl ?_
      refine SL.y (OV.nilCheck rfl) rfl ?_
      refine SL.y (OV.fld fo28_0 rfl) rfl ?_
      refine SL.y (OV.loadOld sc9 rfl hout (hA.hP.nm k hk)) rfl ?_
      refine SL.y (OV.build (parts3 rfl rfl rfl) (bldLog _ _)) rfl ?_
      refine SL.y (OV.move rfl) rfl ?_
      refine SL.callR pf42 (args3 rfl rfl rfl) (fun w' hM => call42 (hA.go hM)) rfl ?_
      intro z
      refine SL.nil ?_
      refine SC.then ?_
      refine SC.seq ?_
      refine SC.region ?_
      refine SL.y (OV.move rfl) rfl ?_
      refine SL.y (OV.move rfl) rfl ?_
      refine SL.y (OV.move rfl) rfl ?_
      refine SL.callR (s := s) pf40 (args4 rfl rfl rfl rfl) (fun w' hM => call40 hk hb0 (hA.go hM)) rfl ?_
      intro z2
      refine SL.nil ?_
      refine SC.then ?_
      refine SC.seq ?_
      refine SC.region ?_
      refine SL.y (OV.move rfl) rfl ?_
      refine SL.y (OV.nilCheck rfl) rfl ?_
      refine SL.y (OV.fld fo92_0 rfl) rfl ?_
      refine SL.y (OV.loadT 1 sc89 rfl rfl (by omega) (nc0 D _ k)) rfl ?_
      refine SL.y (OV.nilCheck rfl) rfl ?_
      refine SL.y (OV.fld fo28_1 rfl) rfl ?_
      refine SL.y (OV.loadOld sc26 rfl hout (hA.hP.fl k hk)) rfl ?_
      refine SL.y (OV.eql rfl rfl) rfl ?_
      refine SL.nil ?_
      refine SC.then ?_
      refine SC.condP rfl (fun hf2 => ?_) (fun hf2 => ?_)
      · have e : ansSt D s k = setDn (setVt s k 2) k true := by unfold ansSt; rw [if_neg (by rw [hdn]; decide), if_neg hf1, if_pos hf2]
        rw [e]
        refine SC.region ?_
        refine SL.y (OV.move rfl) rfl ?_
        refine SL.y (OV.move rfl) rfl ?_
        refine SL.callR (s := setVt s k 2) pf27 (args2 rfl rfl) (fun w' hM => call27 hk (hA.go hM)) rfl ?_
        intro z3
        refine SL.nil ?_
        exact SE.nb (SE.end0 Yba.results31 (fun w' hM => ⟨z3, rfl, trivial, hM⟩))
      · have e : ansSt D s k = setVt s k 2 := by unfold ansSt; rw [if_neg (by rw [hdn]; decide), if_neg hf1, if_neg hf2]
        rw [e]
        refine SC.skip ?_
        exact SE.nb (SE.end0 Yba.results31 (fun w' hM => ⟨z2, rfl, trivial, hM⟩))
theorem pf31 : plainFunc Yba.prog 31 = true := by kernel_rfl
/-- announce -/
def tillOf (D : RD) (cr : Bool) : Nat := if cr then D.till else D.n + 1
def annSt (s : NSt) (cr : Bool) : NSt := if cr then setDn s 0 true else s
theorem call32 {mg : Int} {cr : Bool} (htl : D.till ≤ D.n + 1) (hD : D.n ≤ 100000) (hA : At D br bN cm x y s w) : Does 32 #[pt br, .int .u8 mg, .bool cr] w D br bN (.int .i64 (tillOf D cr)) cm (annSt s cr) := by
  obtain ⟨i92, hi, hz, hs, hb⟩ := info_parts info92
  refine Calls.of_SC (args := [pt br, .int .u8 mg, .bool cr]) Yba.func32 rfl (by simp [Yba.f32]) hA.start ?_
  refine SC.seq ?_
  refine SC.region ?_
  refine SL.y (OV.assign rfl) rfl ?_
  refine SL.nil ?_
  refine SC.then ?_
  refine SC.seq ?_
  refine SC.region ?_
  refine SL.y (OV.move rfl) rfl ?_
  refine SL.y (OV.nilCheck rfl) rfl ?_
  refine SL.y (OV.fld fo88_2 rfl) rfl ?_
  refine SL.y (OV.loadF 0 sc86 rfl rfl rfl) rfl ?_
  refine SL.y (OV.idx 0 u86 hi hs rfl rfl rfl (by omega)) rfl ?_
  refine SL.y (OV.fld fo92_1 rfl) rfl ?_
  refine SL.y (OV.loadT 1 sc3 rfl rfl (by omega) (nc1 D s 0)) rfl ?_
  refine SL.y (OV.assign rfl) rfl ?_
  refine SL.nil ?_
  refine SC.then ?_
  refine SC.cutSt [(7, .int .i64 (tillOf D cr)), (0, pt br), (1, .int .u8 mg), (2, .bool cr)] [(br, rrow D bN cm x y), (bN, nrow D s)] ?_ ?_
  · skip
    refine SC.seq ?_
    refine SC.region ?_
    refine SL.y (OV.move rfl) rfl ?_
    refine SL.nil ?_
    refine SC.then ?_
    cases cr with
    | true =>
      refine SC.cond rfl (fun _ => ?_) (fun e => by cases e)
      refine SC.region ?_
      refine SL.y (OV.move rfl) rfl ?_
      refine SL.y (OV.nilCheck rfl) rfl ?_
      refine SL.y (OV.fld fo88_6 rfl) rfl ?_
      refine SL.y (OV.loadF 0 sc3 rfl rfl rfl) rfl ?_
      refine SL.y (OV.assign rfl) rfl ?_
      refine SL.nil ?_
      exact SE.toSt (by repeat' (first | exact trivial | refine ⟨rfl, ?_⟩)) (List.Sublist.refl _)
    | false =>
      refine SC.cond rfl (fun e => by cases e) (fun _ => ?_)
      refine SC.skip ?_
      exact SE.toSt (by repeat' (first | exact trivial | refine ⟨rfl, ?_⟩)) (List.Sublist.refl _)
  refine SC.seq ?_
  refine SC.region ?_
  refine SL.y (OV.move rfl) rfl ?_
  refine SL.y (OV.move rfl) rfl ?_
  refine SL.y (OV.move rfl) rfl ?_
  refine SL.callR pf34 (args4 rfl rfl rfl rfl) (fun w' hM => call34 (k := 0) (by omega) (by unfold tillOf; split <;> omega) hD (hA.go hM)) rfl ?_
  intro z
  refine SL.nil ?_
  refine SC.then ?_
  refine SC.cutG (fun z : Int × Int => [(7, .int .i64 (tillOf D cr))]) (fun z => [(br, rrow D bN cm z.1 z.2), (bN, nrow D (annSt s cr))]) (fun _ => True) ?_ ?_
  · skip
    refine SC.seq ?_
    refine SC.region ?_
    refine SL.y (OV.move rfl) rfl ?_
    refine SL.nil ?_
    refine SC.then ?_
    cases cr with
    | true =>
      refine SC.cond rfl (fun _ => ?_) (fun e => by cases e)
      refine SC.region ?_
      refine SL.y (OV.move rfl) rfl ?_
      refine SL.callR (s := s) pf27 (args2 rfl rfl) (fun w' hM => call27 (k := 0) (by omega) (hA.go hM)) rfl ?_
      intro z2
      refine SL.nil ?_
      exact SE.toG z2 trivial (by repeat' (first | exact trivial | refine ⟨rfl, ?_⟩)) (List.Sublist.refl _)
    | false =>
      refine SC.cond rfl (fun e => by cases e) (fun _ => ?_)
      refine SC.skip ?_
      exact SE.toG z trivial (by repeat' (first | exact trivial | refine ⟨rfl, ?_⟩)) (List.Sublist.refl _)
  intro z2 _
  refine SC.seq ?_
  refine SC.region ?_
  refine SL.y (OV.move rfl) rfl ?_
  refine SL.y (OV.assign rfl) rfl ?_
  refine SL.nil ?_
  refine SC.then ?_
  refine SC.ret ?_
  exact SE.ret1 Yba.results32 rfl (fun w' hM => ⟨z2, rfl, trivial, hM⟩)
theorem pf32 : plainFunc Yba.prog 32 = true := by kernel_rfl
end
end Go.Proofs.Ybulkdrci.A
