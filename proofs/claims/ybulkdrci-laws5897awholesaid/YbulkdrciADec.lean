import Derived.Test.YbulkdrciAPhase
namespace Go.Proofs.Ybulkdrci.A
open Go Go.RowKit Go.Proofs.Ybulkdrci.A.Sym
set_option linter.unusedVariables false
set_option linter.unusedSimpArgs false
set_option maxRecDepth 100000

theorem ag92 : scalar Yba.prog 92 = false := by kernel_rfl
theorem us92 : (Yba.prog.underlying 92).isSome = true := by kernel_rfl
def ncs (D : RD) (s : NSt) (k : Nat) : List Value := [.pointer (some ⟨D.pb k, D.po k, none⟩), .int .i64 (endOf D k), .bool (s k).dn, .int .u8 (s k).vt, .int .u8 (s k).dc]
theorem ncs_at {D : RD} {s : NSt} {k : Nat} (hk : k ≤ D.n) : ∀ q v, (ncs D s k)[q]? = some v → (tab ((D.n + 1) * 5) (ncell D s))[0 + k * 5 + q]? = some v := by
  intro q v h
  have hq : q < 5 := (List.getElem?_eq_some_iff.1 h).1
  rw [tab_get (by omega)]
  have hc : q = 0 ∨ q = 1 ∨ q = 2 ∨ q = 3 ∨ q = 4 := by omega
  rcases hc with rfl | rfl | rfl | rfl | rfl <;> cases h
  · rw [nc0]
  · rw [nc1]
  · rw [nc2]
  · rw [nc3]
  · rw [nc4]
theorem ncs_one {D : RD} {s : NSt} {k : Nat} : ∀ u ∈ (Value.agg (ncs D s k).toArray).cells.toList, u.oneCell' = true := by
  intro u hu
  simp [Value.cells, ncs] at hu
  rcases hu with rfl | rfl | rfl | rfl | rfl <;> rfl
def agrB (s : NSt) : Nat → Bool
  | 0 => true
  | k + 1 => agrB s k && decide ((s (k + 1)).vt = 2 ∨ (s (k + 1)).vt = 7)
section
variable {D : RD} {br bN : Nat} {cm : Bool} {x y : Int} {s : NSt} {w : World}
/-- decide, the coordinator being down -/
theorem call21down (h0 : (s 0).dn = true) (hA : At D br bN cm x y s w) : Does 21 #[pt br] w D br bN (.bool false) cm s := by
  obtain ⟨i92, hi, hz, hs, hb⟩ := info_parts info92
  refine Calls.of_SC (args := [pt br]) Yba.func21 rfl (by simp [Yba.f21]) hA.start ?_
  refine SC.seq ?_
  refine SC.region ?_
  refine SL.y (OV.assign rfl) rfl ?_
  refine SL.nil ?_
  refine SC.then ?_
  refine SC.seq ?_
  refine SC.region ?_
  refine SL.y (OV.move rfl) rfl ?_
  refine SL.y (OV.nilCheck rfl) rfl ?_
  refine SL.y (OV.fld fo88_2 rfl) rfl ?_
  refine SL.y (OV.loadF 0 sc86 rfl rfl rfl) rfl ?_
  refine SL.y (OV.idx 0 u86 hi hs rfl rfl rfl (by omega)) rfl ?_
  refine SL.y (OV.assign rfl) rfl ?_
  refine SL.nil ?_
  refine SC.then ?_
  refine SC.seq ?_
  refine SC.seq ?_
  refine SC.region ?_
  refine SL.y (OV.move rfl) rfl ?_
  refine SL.y (OV.nilCheck rfl) rfl ?_
  refine SL.y (OV.fld fo92_2 rfl) rfl ?_
  refine SL.y (OV.loadT 1 sc4 rfl rfl (by omega) ((nc2 D s 0).trans (by rw [h0]))) rfl ?_
  refine SL.nil ?_
  refine SC.then ?_
  refine SC.cond rfl (fun _ => ?_) (fun e => by cases e)
  refine SC.seq ?_
  refine SC.region ?_
  refine SL.y (OV.assign rfl) rfl ?_
  refine SL.nil ?_
  refine SC.then ?_
  refine SC.ret ?_
  repeat (first | refine SE.blockR ?_ | refine SE.thenR ?_)
  exact SE.ret1 Yba.results21 rfl (fun w' hM => ⟨(x, y), rfl, trivial, hM⟩)
theorem pf21 : plainFunc Yba.prog 21 = true := by kernel_rfl
def dec21 (D : RD) (s : NSt) : NSt := p2 (recOf (agrB s D.n)) (annSt s true) (D.n + 1)
/-- decide, the coordinator being up, and scripted to crash after its decision -/
theorem call21up (hD : D.n ≤ 100000) (htl : D.till = D.n + 1) (h0 : (s 0).dn = false) (hf0 : D.fl 0 = 5) (hvt : ∀ k, 1 ≤ k → k ≤ D.n → (s k).vt ≠ 7) (hdc : ∀ k, 1 ≤ k → k ≤ D.n → (s k).dc = 0) (hA : At D br bN cm x y s w) : Does 21 #[pt br] w D br bN (.bool true) (agrB s D.n) (dec21 D s) := by
  obtain ⟨i92, hi, hz, hs, hb⟩ := info_parts info92
  have hout0 := hA.hP.out 0 (by omega)
  refine Calls.of_SC (args := [pt br]) Yba.func21 rfl (by simp [Yba.f21]) hA.start ?_
  refine SC.seq ?_
  refine SC.region ?_
  refine SL.y (OV.assign rfl) rfl ?_
  refine SL.nil ?_
  refine SC.then ?_
  refine SC.seq ?_
  refine SC.region ?_
  refine SL.y (OV.move rfl) rfl ?_
  refine SL.y (OV.nilCheck rfl) rfl ?_
  refine SL.y (OV.fld fo88_2 rfl) rfl ?_
  refine SL.y (OV.loadF 0 sc86 rfl rfl rfl) rfl ?_
  refine SL.y (OV.idx 0 u86 hi hs rfl rfl rfl (by omega)) rfl ?_
  refine SL.y (OV.assign rfl) rfl ?_
  refine SL.nil ?_
  refine SC.then ?_
  refine SC.seq ?_
  refine SC.seq ?_
  refine SC.region ?_
  refine SL.y (OV.move rfl) rfl ?_
  refine SL.y (OV.nilCheck rfl) rfl ?_
  refine SL.y (OV.fld fo92_2 rfl) rfl ?_
  refine SL.y (OV.loadT 1 sc4 rfl rfl (by omega) ((nc2 D s 0).trans (by rw [h0]))) rfl ?_
  refine SL.nil ?_
  refine SC.then ?_
  refine SC.cond rfl (fun e => by cases e) (fun _ => ?_)
  refine SC.skip ?_
  refine SC.then ?_
  refine SC.seq ?_
  refine SC.region ?_
  refine SL.y (OV.move rfl) rfl ?_
  refine SL.y (OV.nilCheck rfl) rfl ?_
  refine SL.y (OV.fld fo88_0 rfl) rfl ?_
  refine SL.y (OV.fld fo84_0 rfl) rfl ?_
  refine SL.s (OS.store1 0 sz4 rfl rfl rfl rfl (by show 0 < 13; decide)) ?_
  refine SL.nil ?_
  refine SC.then ?_
  obtain ⟨off, hoff⟩ : ∃ off, off = (if D.n + 1 = 1 then 0 else 0 + 1 * 5) := ⟨_, rfl⟩
  have hoff' : 1 ≤ D.n → off = 5 := fun h => by rw [hoff, if_neg (by omega)]
  refine SC.cutSt [(0, pt br), (3, np bN 0)] [(br, rrow D bN (agrB s D.n) x y), (bN, nrow D s)] ?_ ?_
  · skip
    refine SC.seq ?_
    refine SC.region ?_
    refine SL.y (OV.move rfl) rfl ?_
    refine SL.y (OV.nilCheck rfl) rfl ?_
    refine SL.y (OV.fld fo88_2 rfl) rfl ?_
    refine SL.y (OV.loadF 0 sc86 rfl rfl rfl) rfl ?_
    refine SL.y (OV.sliceFrom 1 u86 hi hs rfl rfl rfl (by omega) hoff.symm) rfl ?_
    refine SL.y (OV.len u86 rfl) rfl ?_
    refine SL.y (OV.move rfl) rfl ?_
    refine SL.nil ?_
    refine SC.then ?_
    refine SC.block ?_
    refine SC.loop (fun i : Nat => [(27, .int .i64 i), (26, .int .i64 ((D.n + 1 - 1 : Nat) : Int)), (25, .slice (some ⟨bN, off, none⟩) (D.n + 1 - 1) (D.n + 1 - 1)), (0, pt br), (3, np bN 0)]) (fun i => [(br, rrow D bN (agrB s i) x y), (bN, nrow D s)]) (fun i => i ≤ D.n) (fun i => D.n - i) 0 (by omega) (by repeat' (first | exact trivial | refine ⟨rfl, ?_⟩)) (List.Sublist.refl _) ?_
    intro i hin
    refine SC.seq ?_
    refine SC.region ?_
    refine SL.y (OV.lss rfl rfl) rfl ?_
    refine SL.nil ?_
    refine SC.then ?_
    refine SC.seq ?_
    refine SC.condP rfl (fun hlt => ?_) (fun hge => ?_)
    · have hlt' : i < D.n := by omega
      have hof := hoff' (by omega)
      refine SC.skip ?_
      refine SC.then ?_
      refine SC.cutSt [(27, .int .i64 i), (26, .int .i64 ((D.n + 1 - 1 : Nat) : Int)), (25, .slice (some ⟨bN, off, none⟩) (D.n + 1 - 1) (D.n + 1 - 1)), (0, pt br), (3, np bN 0)] [(br, rrow D bN (agrB s (i + 1)) x y), (bN, nrow D s)] ?_ ?_
      · refine SC.block ?_
        refine SC.seq ?_
        refine SC.region ?_
        refine SL.y (OV.idx i u86 hi hs rfl rfl rfl (by omega)) rfl ?_
        refine SL.y (OV.loadAgg (vs := ncs D s (i + 1)) 1 ag92 us92 hi rfl rfl (by rw [hs]; rfl) (fun q v h => by have e : off + i * 5 + q = 0 + (i + 1) * 5 + q := (by omega); rw [e]; exact ncs_at (by omega) q v h)) rfl ?_
        refine SL.e (OE.alloc hi hz) rfl ?_
        intro b5
        refine SL.s (OS.storeAll 2 hi rfl rfl rfl (by rw [hs]; rfl) ncs_one (by rw [hs]; rfl)) ?_
        refine SL.nil ?_
        refine SC.then ?_
        cases hag : agrB s i with
        | true =>
          have hag' : agrB s (i + 1) = decide ((s (i + 1)).vt = 2 ∨ (s (i + 1)).vt = 7) := by show (agrB s i && _) = _; rw [hag]; rfl
          rw [hag']
          refine SC.region ?_
          refine SL.y (OV.move rfl) rfl ?_
          refine SL.y (OV.move rfl) rfl ?_
          refine SL.y (OV.nilCheck rfl) rfl ?_
          refine SL.y (OV.fld fo88_0 rfl) rfl ?_
          refine SL.y (OV.fld fo84_0 rfl) rfl ?_
          refine SL.y (OV.loadF 0 sc4 rfl rfl rfl) rfl ?_
          refine SL.y (OV.move rfl) rfl ?_
          refine SL.callQg rfl rfl pf35 (args1 rfl) (fun w' hM => call35 (hM.cell (j := 2) rfl rfl)) rfl ?_
          refine SL.y (OV.pickT rfl rfl) rfl ?_
          refine SL.y (OV.nilCheck rfl) rfl ?_
          refine SL.y (OV.fld fo88_0 rfl) rfl ?_
          refine SL.y (OV.fld fo84_0 rfl) rfl ?_
          refine SL.s (OS.store1 0 sz4 rfl rfl rfl rfl (by show 0 < 13; decide)) ?_
          refine SL.nil ?_
          refine SE.nb (SE.toSt (by repeat' (first | exact trivial | refine ⟨rfl, ?_⟩)) ?_)
          exact ((List.nil_sublist _).cons_cons _).cons_cons _
        | false =>
          have hag' : agrB s (i + 1) = false := by show (agrB s i && _) = _; rw [hag]; rfl
          rw [hag']
          refine SC.region ?_
          refine SL.y (OV.move rfl) rfl ?_
          refine SL.y (OV.move rfl) rfl ?_
          refine SL.y (OV.nilCheck rfl) rfl ?_
          refine SL.y (OV.fld fo88_0 rfl) rfl ?_
          refine SL.y (OV.fld fo84_0 rfl) rfl ?_
          refine SL.y (OV.loadF 0 sc4 rfl rfl rfl) rfl ?_
          refine SL.y (OV.move rfl) rfl ?_
          refine SL.skip rfl rfl rfl ?_
          refine SL.y (OV.pickF rfl rfl) rfl ?_
          refine SL.y (OV.nilCheck rfl) rfl ?_
          refine SL.y (OV.fld fo88_0 rfl) rfl ?_
          refine SL.y (OV.fld fo84_0 rfl) rfl ?_
          refine SL.s (OS.store1 0 sz4 rfl rfl rfl rfl (by show 0 < 13; decide)) ?_
          refine SL.nil ?_
          refine SE.nb (SE.toSt (by repeat' (first | exact trivial | refine ⟨rfl, ?_⟩)) ?_)
          exact ((List.nil_sublist _).cons_cons _).cons_cons _
      refine SC.region ?_
      refine SL.y (OV.add rfl rfl (wrap_i64 (by omega) (by omega))) rfl ?_
      refine SL.y (OV.move rfl) rfl ?_
      refine SL.nil ?_
      exact SE.round (i + 1) (by omega) (by omega) (by repeat' (first | exact trivial | refine ⟨rfl, ?_⟩)) (List.Sublist.refl _)
    · have hi' : i = D.n := by omega
      subst hi'
      refine SC.exit ?_
      refine SE.thenE (SE.thenE (SE.inBlock ?_))
      exact SE.toSt (by repeat' (first | exact trivial | refine ⟨rfl, ?_⟩)) (List.Sublist.refl _)
  generalize hagr : agrB s D.n = ag
  refine SC.seq ?_
  refine SC.region ?_
  refine SL.y (OV.move rfl) rfl ?_
  refine SL.callQ pf36 (args1 rfl) (fun w' hM => call36 (hA.go hM)) rfl ?_
  refine SL.y (OV.move rfl) rfl ?_
  refine SL.y (OV.extract rfl rfl) rfl ?_
  refine SL.y (OV.extract rfl rfl) rfl ?_
  refine SL.y (OV.assign rfl) rfl ?_
  refine SL.y (OV.assign rfl) rfl ?_
  refine SL.nil ?_
  refine SC.then ?_
  refine SC.seq ?_
  refine SC.region ?_
  refine SL.y (OV.move rfl) rfl ?_
  refine SL.y (OV.move rfl) rfl ?_
  refine SL.callR pf28 (args3 rfl rfl rfl) (fun w' hM => call28 (k := 0) (by omega) (hA.go hM)) rfl ?_
  intro z
  refine SL.nil ?_
  refine SC.then ?_
  refine SC.seq ?_
  refine SC.seq ?_
  refine SC.region ?_
  refine SL.y (OV.move rfl) rfl ?_
  refine SL.y (OV.nilCheck rfl) rfl ?_
  refine SL.y (OV.fld fo92_0 rfl) rfl ?_
  refine SL.y (OV.loadT 1 sc89 rfl rfl (by omega) (nc0 D s 0)) rfl ?_
  refine SL.y (OV.nilCheck rfl) rfl ?_
  refine SL.y (OV.fld fo28_1 rfl) rfl ?_
  refine SL.y (OV.loadOld sc26 rfl hout0 (hA.hP.fl 0 (by omega))) rfl ?_
  refine SL.y ((OV.eql rfl rfl).yes hf0) rfl ?_
  refine SL.nil ?_
  refine SC.then ?_
  refine SC.cond rfl (fun _ => ?_) (fun e => by cases e)
  have hvt' : ∀ k, 1 ≤ k → k ≤ D.n → (annSt s true k).vt ≠ 7 := fun k h1 h2 => by
    have := hvt k h1 h2
    unfold annSt setDn
    rw [if_pos rfl, if_neg (by omega)]
    exact this
  have hdc' : ∀ k, 1 ≤ k → k ≤ D.n → (annSt s true k).dc = 0 := fun k h1 h2 => by
    have := hdc k h1 h2
    unfold annSt setDn
    rw [if_pos rfl, if_neg (by omega)]
    exact this
  refine SC.region ?_
  refine SL.y (OV.move rfl) rfl ?_
  refine SL.y (OV.move rfl) rfl ?_
  refine SL.y (OV.move rfl) rfl ?_
  refine SL.y (OV.move rfl) rfl ?_
  refine SL.y (OV.move rfl) rfl ?_
  refine SL.callR (s := s) pf32 (args3 rfl rfl rfl) (fun w' hM => call32 (cr := true) (by omega) hD (hA.go hM)) rfl ?_
  intro z2
  refine SL.callR (s := annSt s true) pf37 (args4 rfl rfl rfl rfl) (fun w' hM => call37 hD (by show D.n < D.till; omega) rfl hvt' hdc' (hA.go hM)) rfl ?_
  intro z3
  refine SL.nil ?_
  refine SC.then ?_
  refine SC.seq ?_
  refine SC.region ?_
  refine SL.y (OV.assign rfl) rfl ?_
  refine SL.nil ?_
  refine SC.then ?_
  refine SC.ret ?_
  unfold dec21
  rw [hagr]
  exact SE.ret1 Yba.results21 rfl (fun w' hM => ⟨z3, rfl, trivial, hM⟩)

/-- answersAtEachCrash$1: what each answers -/
def repF (s : NSt) (q : Nat) : Int := if q = 0 then 0 else replyOf (s q)
def repK (s : NSt) (k q : Nat) : Int := if q < k then repF s q else 0
theorem repK_one (s : NSt) (n : Nat) : irow 42 .u8 (n + 1) (fun _ => 0) = irow 42 .u8 (n + 1) (repK s 1) := irow_congr fun q hq => by
  unfold repK repF
  split
  · rw [if_pos (by omega)]
  · rfl
theorem repK_set {s : NSt} {k : Nat} (hk : 1 ≤ k) (n : Nat) : irow 42 .u8 (n + 1) (upd (repK s k) k (replyOf (s k))) = irow 42 .u8 (n + 1) (repK s (k + 1)) := irow_congr fun q hq => by
  unfold upd repK repF
  by_cases e : q = k
  · subst e
    rw [if_pos rfl, if_pos (by omega), if_neg (by omega)]
  · rw [if_neg e]
    by_cases h : q < k
    · have h2 : q < k + 1 := by omega
      simp [h, h2]
    · have h2 : ¬ q < k + 1 := by omega
      simp [h, h2]
theorem repK_all (s : NSt) (n : Nat) : irow 42 .u8 (n + 1) (repK s (n + 1)) = irow 42 .u8 (n + 1) (repF s) := irow_congr fun q hq => by
  unfold repK
  rw [if_pos hq]
theorem call17 (hD : D.n ≤ 100000) (hA : At D br bN cm x y s w) : Calls Yba.prog 17 #[pt br] w fun e w' => ∃ b : Nat, e = .returned (.slice (some ⟨b, 0, none⟩) (D.n + 1) (D.n + 1)) ∧ True ∧ Mm w [] [(b, irow 42 .u8 (D.n + 1) (repF s))] w' := by
  obtain ⟨i92, hi, hz, hs, hb⟩ := info_parts info92
  have hb5 : w.cell? ⟨br, 0 + 5, none⟩ = some (nsl D bN) := by simp [World.cell?, hA.hr, rrow, row, rcells]
  refine Calls.of_SC (args := [pt br]) Yba.func17 rfl (by simp [Yba.f17]) (Mm.start w) ?_
  refine SC.seq ?_
  refine SC.region ?_
  refine SL.y (OV.assign rfl) rfl ?_
  refine SL.nil ?_
  refine SC.then ?_
  refine SC.seq ?_
  refine SC.region ?_
  refine SL.y (OV.move rfl) rfl ?_
  refine SL.y (OV.nilCheck rfl) rfl ?_
  refine SL.y (OV.fld fo88_2 rfl) rfl ?_
  refine SL.y (OV.loadOld sc86 rfl (by simp) hb5) rfl ?_
  refine SL.y (OV.len u86 rfl) rfl ?_
  refine SL.e (OE.makeI (D.n + 1) (D.n + 1) u43 in42 rfl rfl rfl rfl (Nat.le_refl _) (by omega) (by omega)) rfl ?_
  intro b
  refine SL.y (OV.assign rfl) rfl ?_
  refine SL.nil ?_
  refine SC.then ?_
  refine SC.seq ?_
  refine SC.seq ?_
  refine SC.region ?_
  refine SL.y (OV.assign rfl) rfl ?_
  refine SL.nil ?_
  refine SC.then ?_
  refine SC.block ?_
  refine SC.loop (fun k : Nat => [(4, .int .i64 k), (0, pt br), (3, .slice (some ⟨b, 0, none⟩) (D.n + 1) (D.n + 1))]) (fun k => [(b, irow 42 .u8 (D.n + 1) (repK s k))]) (fun k => 1 ≤ k ∧ k ≤ D.n + 1) (fun k => D.n + 1 - k) 1 ⟨by omega, by omega⟩ (by repeat' (first | exact trivial | refine ⟨rfl, ?_⟩)) (by rw [← repK_one]; exact List.Sublist.refl _) ?_
  rintro k ⟨hk1, hk2⟩
  refine SC.seq ?_
  refine SC.seq ?_
  refine SC.region ?_
  refine SL.y (OV.move rfl) rfl ?_
  refine SL.y (OV.move rfl) rfl ?_
  refine SL.y (OV.nilCheck rfl) rfl ?_
  refine SL.y (OV.fld fo88_2 rfl) rfl ?_
  refine SL.y (OV.loadOld sc86 rfl (by simp) hb5) rfl ?_
  refine SL.y (OV.len u86 rfl) rfl ?_
  refine SL.y (OV.lss rfl rfl) rfl ?_
  refine SL.nil ?_
  refine SC.then ?_
  refine SC.condP rfl (fun hlt => ?_) (fun hge => ?_)
  · have hk : k ≤ D.n := by omega
    refine SC.skip ?_
    refine SC.then ?_
    refine SC.cutSt [(4, .int .i64 k), (0, pt br), (3, .slice (some ⟨b, 0, none⟩) (D.n + 1) (D.n + 1))] [(b, irow 42 .u8 (D.n + 1) (repK s (k + 1)))] ?_ ?_
    · refine SC.block ?_
      refine SC.region ?_
      refine SL.y (OV.move rfl) rfl ?_
      refine SL.y (OV.move rfl) rfl ?_
      refine SL.y (OV.move rfl) rfl ?_
      refine SL.y (OV.nilCheck rfl) rfl ?_
      refine SL.y (OV.fld fo88_2 rfl) rfl ?_
      refine SL.y (OV.loadOld sc86 rfl (by simp) hb5) rfl ?_
      refine SL.y (OV.move rfl) rfl ?_
      refine SL.y (OV.idx k u86 hi hs rfl rfl rfl (by omega)) rfl ?_
      refine SL.callQ pf18 (args1 rfl) (fun w' hM => call18 (d := s k) (Mm.oldCell hM (by simp) (cell2 hA.hn hk)) (Mm.oldCell hM (by simp) (cell3 hA.hn hk)) (Mm.oldCell hM (by simp) (cell4 hA.hn hk))) rfl ?_
      refine SL.y (OV.idx1 k u43 se43 rfl rfl rfl (by omega)) rfl ?_
      refine SL.s (OS.storeI 0 sz42 rfl rfl rfl (by omega)) ?_
      refine SL.nil ?_
      rw [repK_set hk1]
      exact SE.nb (SE.toSt (by repeat' (first | exact trivial | refine ⟨rfl, ?_⟩)) (List.Sublist.refl _))
    refine SC.region ?_
    refine SL.y (OV.move rfl) rfl ?_
    refine SL.y (OV.add rfl rfl (wrap_i64 (by omega) (by omega))) rfl ?_
    refine SL.y (OV.assign rfl) rfl ?_
    refine SL.nil ?_
    exact SE.round (k + 1) ⟨by omega, by omega⟩ (by omega) (by repeat' (first | exact trivial | refine ⟨rfl, ?_⟩)) (List.Sublist.refl _)
  · have hk : k = D.n + 1 := by
      have hge' : ¬ ((k : Int) < ((D.n + 1 : Nat) : Int)) := hge
      omega
    subst hk
    refine SC.exit ?_
    refine SE.thenE (SE.thenE (SE.inBlock ?_))
    refine SC.then ?_
    refine SC.seq ?_
    refine SC.region ?_
    refine SL.y (OV.move rfl) rfl ?_
    refine SL.y (OV.assign rfl) rfl ?_
    refine SL.nil ?_
    refine SC.then ?_
    refine SC.ret ?_
    rw [repK_all]
    exact SE.ret1 Yba.results17 rfl (fun w' hM => ⟨b, rfl, trivial, hM⟩)
theorem pf17 : plainFunc Yba.prog 17 = true := by kernel_rfl
end
end Go.Proofs.Ybulkdrci.A
