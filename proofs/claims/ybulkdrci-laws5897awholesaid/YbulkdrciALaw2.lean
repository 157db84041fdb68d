import Derived.Test.YbulkdrciALaw1
namespace Go.Proofs.Ybulkdrci.A
open Go Go.RowKit Go.Proofs.Ybulkdrci.A.Sym
set_option linter.unusedVariables false
set_option linter.unusedSimpArgs false
set_option maxRecDepth 100000


theorem info9 : (Yba.prog.info? 9).map (fun i => (i.zero, i.size, i.bytes)) = some (some (.string ⟨#[]⟩), 1, 16) := by kernel_rfl
def kN (i q : Nat) : Value := if q < i then .string (nmf q) else .string ⟨#[]⟩
def kI (Fl : Nat → Int) (i q : Nat) : Int := if q < i then Fl q else 0
def kB (r : Nat → Bool) (i q : Nat) : Bool := if q < i then r q else false
theorem kN_made (n : Nat) : (madeCells (Value.string ⟨#[]⟩).cells (n * 1)).toList = tab n (kN 0) := by
  rw [Nat.mul_one]
  refine madeCells_tab _ _ _ fun q hq => ?_
  show (#[Value.string ⟨#[]⟩] : Array Value)[q % 1]! = kN 0 q
  unfold kN
  rw [if_neg (by omega), Nat.mod_one]
  rfl
theorem kN_set {n i : Nat} (hi : i < n) : (tab n (kN i)).set i (.string (nmf i)) = tab n (kN (i + 1)) := by
  rw [tab_set hi]
  congr 1
  funext q
  unfold upd kN
  by_cases e : q = i
  · subst e; simp
  · rw [if_neg e]
    have : (q < i + 1) ↔ (q < i) := by omega
    simp only [this]
theorem kI_set {Fl : Nat → Int} {n i : Nat} : irow 26 .u8 n (upd (kI Fl i) i (Fl i)) = irow 26 .u8 n (kI Fl (i + 1)) := irow_congr fun q hq => by
  unfold upd kI
  by_cases e : q = i
  · subst e; simp
  · rw [if_neg e]
    have : (q < i + 1) ↔ (q < i) := by omega
    simp only [this]
theorem kB_set {r : Nat → Bool} {n i : Nat} : brow 4 n (upd (kB r i) i (r i)) = brow 4 n (kB r (i + 1)) := brow_congr fun q hq => by
  unfold upd kB
  by_cases e : q = i
  · subst e; simp
  · rw [if_neg e]
    have : (q < i + 1) ↔ (q < i) := by omega
    simp only [this]
theorem pp_at {Fl : Nat → Int} {r : Nat → Bool} {n i q : Nat} (hi : i < n) (hq : q < 4) : ppc Fl r n (0 + i * 4 + q) = pcl Fl r i q := by
  have e1 : (0 + i * 4 + q) / 4 = i := by omega
  have e2 : (0 + i * 4 + q) % 4 = q := by omega
  unfold ppc
  rw [e1, e2, if_pos hi]
section
variable {w : World} {Q : Exit → Act → World → Prop} {co ct : ByteArray} {cf calls term : Int} {sA rA : Option Addr} {n cF nr cR : Nat} {Fl : Nat → Int} {Rf : Nat → Bool}
/-- What they were is kept. -/
theorem stage2 {bp bk1 bk2 bk3 : Nat} (hn : n ≤ 1024)
    (h : SE (Q .normal) Yba.f3.ntmps [(18, .slice (some ⟨bk1, 0, none⟩) n n), (19, .slice (some ⟨bk2, 0, none⟩) n n), (20, .slice (some ⟨bk3, 0, none⟩) n n), (15, .int .i64 n), (16, .slice (some ⟨bp, 0, none⟩) n n), (0, .string co), (1, .int .u8 cf), (2, .string ct), (3, .int .i64 calls), (4, .int .u8 term), (5, .slice sA n cF), (6, .slice rA nr cR)] w [] [(bp, row 28 (tab (n * 4) (ppc Fl (rF nr Rf) n))), (bk1, row 9 (tab n (kN n))), (bk2, irow 26 .u8 n (kI Fl n)), (bk3, brow 4 n (kB (rF nr Rf) n))]) :
    SC Yba.prog (sub [1, 1, 1, 1, 1, 1, 1, 1, 0] (Yba.f3.body.getD .skip)) Q Yba.f3.ntmps [(18, .slice (some ⟨bk1, 0, none⟩) n n), (19, .slice (some ⟨bk2, 0, none⟩) n n), (20, .slice (some ⟨bk3, 0, none⟩) n n), (15, .int .i64 n), (16, .slice (some ⟨bp, 0, none⟩) n n), (0, .string co), (1, .int .u8 cf), (2, .string ct), (3, .int .i64 calls), (4, .int .u8 term), (5, .slice sA n cF), (6, .slice rA nr cR)] w [] [(bp, row 28 (tab (n * 4) (ppc Fl (rF nr Rf) n))), (bk1, row 9 (tab n (kN 0))), (bk2, irow 26 .u8 n (kI Fl 0)), (bk3, brow 4 n (kB (rF nr Rf) 0))] := by
  obtain ⟨i28, hi28, hz28, hs28, hb28⟩ := info_parts info28
  refine SC.seq ?_
  refine SC.region ?_
  refine SL.y (OV.assign rfl) rfl ?_
  refine SL.nil ?_
  refine SC.then ?_
  refine SC.block ?_
  refine SC.loop (fun i : Nat => [(21, .int .i64 i), (18, .slice (some ⟨bk1, 0, none⟩) n n), (19, .slice (some ⟨bk2, 0, none⟩) n n), (20, .slice (some ⟨bk3, 0, none⟩) n n), (15, .int .i64 n), (16, .slice (some ⟨bp, 0, none⟩) n n), (0, .string co), (1, .int .u8 cf), (2, .string ct), (3, .int .i64 calls), (4, .int .u8 term), (5, .slice sA n cF), (6, .slice rA nr cR)]) (fun i => [(bp, row 28 (tab (n * 4) (ppc Fl (rF nr Rf) n))), (bk1, row 9 (tab n (kN i))), (bk2, irow 26 .u8 n (kI Fl i)), (bk3, brow 4 n (kB (rF nr Rf) i))]) (fun i => i ≤ n) (fun i => n - i) 0 (by omega) (by repeat' (first | exact trivial | refine ⟨rfl, ?_⟩)) (List.Sublist.refl _) ?_
  intro i hin
  refine SC.seq ?_
  refine SC.seq ?_
  refine SC.region ?_
  refine SL.y (OV.move rfl) rfl ?_
  refine SL.y (OV.move rfl) rfl ?_
  refine SL.y (OV.lss rfl rfl) rfl ?_
  refine SL.nil ?_
  refine SC.then ?_
  refine SC.condP rfl (fun hlt => ?_) (fun hge => ?_)
  · have hlt' : i < n := by omega
    refine SC.skip ?_
    refine SC.then ?_
    refine SC.cutSt [(21, .int .i64 i), (18, .slice (some ⟨bk1, 0, none⟩) n n), (19, .slice (some ⟨bk2, 0, none⟩) n n), (20, .slice (some ⟨bk3, 0, none⟩) n n), (15, .int .i64 n), (16, .slice (some ⟨bp, 0, none⟩) n n), (0, .string co), (1, .int .u8 cf), (2, .string ct), (3, .int .i64 calls), (4, .int .u8 term), (5, .slice sA n cF), (6, .slice rA nr cR)] [(bp, row 28 (tab (n * 4) (ppc Fl (rF nr Rf) n))), (bk1, row 9 (tab n (kN (i + 1)))), (bk2, irow 26 .u8 n (kI Fl (i + 1))), (bk3, brow 4 n (kB (rF nr Rf) (i + 1)))] ?_ ?_
    · refine SC.block ?_
      refine SC.seq ?_
      refine SC.region ?_
      refine SL.y (OV.move rfl) rfl ?_
      refine SL.y (OV.move rfl) rfl ?_
      refine SL.y (OV.move rfl) rfl ?_
      refine SL.y (OV.move rfl) rfl ?_
      refine SL.y (OV.idx i u24 hi28 hs28 rfl rfl rfl (by omega)) rfl ?_
      refine SL.y (OV.fld fo28_0 rfl) rfl ?_
      refine SL.y (OV.loadT 0 sc9 rfl rfl (by omega) (pp_at hlt' (by decide))) rfl ?_
      refine SL.y (OV.idx1 i u29 se29 rfl rfl rfl (by omega)) rfl ?_
      refine SL.s (OS.store1 1 sz9 rfl rfl rfl rfl (by rw [length_tab]; omega)) ?_
      refine SL.nil ?_
      refine SC.then ?_
      refine SC.seq ?_
      refine SC.region ?_
      refine SL.y (OV.move rfl) rfl ?_
      refine SL.y (OV.move rfl) rfl ?_
      refine SL.y (OV.move rfl) rfl ?_
      refine SL.y (OV.move rfl) rfl ?_
      refine SL.y (OV.idx i u24 hi28 hs28 rfl rfl rfl (by omega)) rfl ?_
      refine SL.y (OV.fld fo28_1 rfl) rfl ?_
      refine SL.y (OV.loadT 0 sc26 rfl rfl (by omega) (pp_at hlt' (by decide))) rfl ?_
      refine SL.y (OV.idx1 i u30 se30 rfl rfl rfl (by omega)) rfl ?_
      refine SL.s (OS.storeI 2 sz26 rfl rfl rfl (by omega)) ?_
      refine SL.nil ?_
      refine SC.then ?_
      refine SC.region ?_
      refine SL.y (OV.move rfl) rfl ?_
      refine SL.y (OV.move rfl) rfl ?_
      refine SL.y (OV.move rfl) rfl ?_
      refine SL.y (OV.move rfl) rfl ?_
      refine SL.y (OV.idx i u24 hi28 hs28 rfl rfl rfl (by omega)) rfl ?_
      refine SL.y (OV.fld fo28_2 rfl) rfl ?_
      refine SL.y (OV.loadT 0 sc4 rfl rfl (by omega) (pp_at hlt' (by decide))) rfl ?_
      refine SL.y (OV.idx1 i u23 se23 rfl rfl rfl (by omega)) rfl ?_
      refine SL.s (OS.storeB 3 sz4 rfl rfl rfl (by omega)) ?_
      refine SL.nil ?_
      refine SE.nb (SE.toSt (by repeat' (first | exact trivial | refine ⟨rfl, ?_⟩)) ?_)
      rw [← kN_set hlt', ← kI_set, ← kB_set]
      exact List.Sublist.refl _
    refine SC.region ?_
    refine SL.y (OV.move rfl) rfl ?_
    refine SL.y (OV.add rfl rfl (wrap_i64 (by omega) (by omega))) rfl ?_
    refine SL.y (OV.assign rfl) rfl ?_
    refine SL.nil ?_
    exact SE.round (i + 1) (by omega) (by omega) (by repeat' (first | exact trivial | refine ⟨rfl, ?_⟩)) (List.Sublist.refl _)
  · have hi' : i = n := by omega
    subst hi'
    refine SC.exit ?_
    refine SE.thenE (SE.thenE (SE.inBlock ?_))
    exact SE.weaken (by repeat' (first | exact trivial | refine ⟨rfl, ?_⟩)) (List.Sublist.refl _) h
end
/-! ### The final look: nothing of the participants has turned -/
section
variable {w : World} {co ct : ByteArray} {cf calls term : Int} {sA rA : Option Addr} {n cF nr cR : Nat} {Fl : Nat → Int} {Rf : Nat → Bool}
theorem stage7 {bp bk1 bk2 bk3 b22 : Nat} (hn : n ≤ 1024) :
    SC Yba.prog (sub [1, 1, 1, 1, 1, 1, 1, 1, 1, 1, 1, 1, 1, 1, 1, 1, 1, 1, 1, 1, 1, 1] (Yba.f3.body.getD .skip)) (bodyPost Yba.prog Yba.f3 (fun e w' => e = .returned (.bool true) ∧ Below w.heap.size w w')) Yba.f3.ntmps [(22, pt b22), (18, .slice (some ⟨bk1, 0, none⟩) n n), (19, .slice (some ⟨bk2, 0, none⟩) n n), (20, .slice (some ⟨bk3, 0, none⟩) n n), (15, .int .i64 n), (16, .slice (some ⟨bp, 0, none⟩) n n), (0, .string co), (1, .int .u8 cf), (2, .string ct), (3, .int .i64 calls), (4, .int .u8 term), (5, .slice sA n cF), (6, .slice rA nr cR)] w [] (([(bp, row 28 (tab (n * 4) (ppc Fl (rF nr Rf) n))), (bk1, row 9 (tab n (kN n))), (bk2, irow 26 .u8 n (kI Fl n)), (bk3, brow 4 n (kB (rF nr Rf) n))]) ++ [(b22, row 36 (scnCells co cf ct bp n calls term))]) := by
  obtain ⟨i28, hi28, hz28, hs28, hb28⟩ := info_parts info28
  refine SC.seq ?_
  refine SC.seq ?_
  refine SC.region ?_
  refine SL.y (OV.fld fo36_3 rfl) rfl ?_
  refine SL.y (OV.loadF 4 sc24 rfl rfl rfl) rfl ?_
  refine SL.y (OV.len u24 rfl) rfl ?_
  refine SL.y (OV.move rfl) rfl ?_
  refine SL.y ((OV.neq rfl rfl).no (by simp)) rfl ?_
  refine SL.nil ?_
  refine SC.then ?_
  refine SC.cond rfl (fun e => by cases e) (fun _ => ?_)
  refine SC.skip ?_
  refine SC.then ?_
  refine SC.seq ?_
  refine SC.seq ?_
  refine SC.region ?_
  refine SL.y (OV.assign rfl) rfl ?_
  refine SL.nil ?_
  refine SC.then ?_
  refine SC.block ?_
  refine SC.loop (fun i : Nat => [(35, .int .i64 i), (18, .slice (some ⟨bk1, 0, none⟩) n n), (19, .slice (some ⟨bk2, 0, none⟩) n n), (20, .slice (some ⟨bk3, 0, none⟩) n n), (15, .int .i64 n), (16, .slice (some ⟨bp, 0, none⟩) n n), (0, .string co), (1, .int .u8 cf), (2, .string ct), (3, .int .i64 calls), (4, .int .u8 term), (5, .slice sA n cF), (6, .slice rA nr cR)]) (fun i => [(bp, row 28 (tab (n * 4) (ppc Fl (rF nr Rf) n))), (bk1, row 9 (tab n (kN n))), (bk2, irow 26 .u8 n (kI Fl n)), (bk3, brow 4 n (kB (rF nr Rf) n))]) (fun i => i ≤ n) (fun i => n - i) 0 (by omega) (by repeat' (first | exact trivial | refine ⟨rfl, ?_⟩)) (List.sublist_append_left _ _) ?_
  intro i hin
  refine SC.seq ?_
  refine SC.seq ?_
  refine SC.region ?_
  refine SL.y (OV.move rfl) rfl ?_
  refine SL.y (OV.move rfl) rfl ?_
  refine SL.y (OV.lss rfl rfl) rfl ?_
  refine SL.nil ?_
  refine SC.then ?_
  refine SC.condP rfl (fun hlt => ?_) (fun hge => ?_)
  · have hlt' : i < n := by omega
    refine SC.skip ?_
    refine SC.then ?_
    refine SC.cutSt [(35, .int .i64 i), (18, .slice (some ⟨bk1, 0, none⟩) n n), (19, .slice (some ⟨bk2, 0, none⟩) n n), (20, .slice (some ⟨bk3, 0, none⟩) n n), (15, .int .i64 n), (16, .slice (some ⟨bp, 0, none⟩) n n), (0, .string co), (1, .int .u8 cf), (2, .string ct), (3, .int .i64 calls), (4, .int .u8 term), (5, .slice sA n cF), (6, .slice rA nr cR)] [(bp, row 28 (tab (n * 4) (ppc Fl (rF nr Rf) n))), (bk1, row 9 (tab n (kN n))), (bk2, irow 26 .u8 n (kI Fl n)), (bk3, brow 4 n (kB (rF nr Rf) n))] ?_ ?_
    · refine SC.block ?_
      refine SC.seq ?_
      refine SC.quiet mixed (by kernel_rfl) ?_
      refine SQ.y (OV.move rfl) rfl ?_
      refine SQ.y (OV.move rfl) rfl ?_
      refine SQ.y (OV.idx i u24 hi28 hs28 rfl rfl rfl (by omega)) rfl ?_
      refine SQ.y (OV.fld fo28_0 rfl) rfl ?_
      refine SQ.y (OV.loadT 0 sc9 rfl rfl (by omega) (pp_at hlt' (by decide))) rfl ?_
      refine SQ.y (OV.move rfl) rfl ?_
      refine SQ.y (OV.move rfl) rfl ?_
      refine SQ.y (OV.idx1 i u29 se29 rfl rfl rfl (by omega)) rfl ?_
      refine SQ.y (OV.loadT (v := .string (nmf i)) 1 sc9 rfl rfl (by omega) (by unfold kN; rw [if_pos hlt'])) rfl ?_
      refine SQ.y ((OV.neqS rfl rfl).no (by simp)) rfl ?_
      refine SQ.y (OV.move rfl) rfl ?_
      refine SQ.yg rfl rfl (OV.move rfl) rfl ?_
      refine SQ.yg rfl rfl (OV.move rfl) rfl ?_
      refine SQ.yg rfl rfl (OV.idx i u24 hi28 hs28 rfl rfl rfl (by omega)) rfl ?_
      refine SQ.yg rfl rfl (OV.fld fo28_1 rfl) rfl ?_
      refine SQ.yg rfl rfl (OV.loadT 0 sc26 rfl rfl (by omega) (pp_at hlt' (by decide))) rfl ?_
      refine SQ.yg rfl rfl (OV.move rfl) rfl ?_
      refine SQ.yg rfl rfl (OV.move rfl) rfl ?_
      refine SQ.yg rfl rfl (OV.idx1 i u30 se30 rfl rfl rfl (by omega)) rfl ?_
      refine SQ.yg rfl rfl ((OV.loadI 2 sc26 rfl rfl (by omega)).is (v' := .int .u8 (Fl i)) (by unfold kI; rw [if_pos hlt'])) rfl ?_
      refine SQ.yg rfl rfl ((OV.neq rfl rfl).no (by simp)) rfl ?_
      refine SQ.y (OV.pickF rfl rfl) rfl ?_
      refine SQ.y (OV.move rfl) rfl ?_
      refine SQ.yg rfl rfl (OV.move rfl) rfl ?_
      refine SQ.yg rfl rfl (OV.move rfl) rfl ?_
      refine SQ.yg rfl rfl (OV.idx i u24 hi28 hs28 rfl rfl rfl (by omega)) rfl ?_
      refine SQ.yg rfl rfl (OV.fld fo28_2 rfl) rfl ?_
      refine SQ.yg rfl rfl (OV.loadT 0 sc4 rfl rfl (by omega) (pp_at hlt' (by decide))) rfl ?_
      refine SQ.yg rfl rfl (OV.move rfl) rfl ?_
      refine SQ.yg rfl rfl (OV.move rfl) rfl ?_
      refine SQ.yg rfl rfl (OV.idx1 i u23 se23 rfl rfl rfl (by omega)) rfl ?_
      refine SQ.yg rfl rfl ((OV.loadB 3 sc4 rfl rfl (by omega)).is (v' := .bool (rF nr Rf i)) (by unfold kB; rw [if_pos hlt'])) rfl ?_
      refine SQ.yg rfl rfl ((OV.neqB u4 rfl rfl).is (v' := .bool false) (by simp)) rfl ?_
      refine SQ.y (OV.pickF rfl rfl) rfl ?_
      refine SQ.y (OV.move rfl) rfl ?_
      refine SQ.yg rfl rfl (OV.move rfl) rfl ?_
      refine SQ.yg rfl rfl (OV.move rfl) rfl ?_
      refine SQ.yg rfl rfl (OV.idx i u24 hi28 hs28 rfl rfl rfl (by omega)) rfl ?_
      refine SQ.yg rfl rfl (OV.fld fo28_3 rfl) rfl ?_
      refine SQ.yg rfl rfl (OV.loadT 0 sc24 rfl rfl (by omega) (pp_at hlt' (by decide))) rfl ?_
      refine SQ.yg rfl rfl (OV.neqNil u24 rfl) rfl ?_
      refine SQ.y (OV.pickF rfl rfl) rfl ?_
      refine SQ.nil ?_
      refine SC.then ?_
      refine SC.cond rfl (fun e => absurd e (by decide)) (fun _ => ?_)
      refine SC.skip ?_
      exact SE.nb (SE.toSt (by repeat' (first | exact trivial | refine ⟨rfl, ?_⟩)) (List.Sublist.refl _))
    refine SC.region ?_
    refine SL.y (OV.move rfl) rfl ?_
    refine SL.y (OV.add rfl rfl (wrap_i64 (by omega) (by omega))) rfl ?_
    refine SL.y (OV.assign rfl) rfl ?_
    refine SL.nil ?_
    exact SE.round (i + 1) (by omega) (by omega) (by repeat' (first | exact trivial | refine ⟨rfl, ?_⟩)) (List.Sublist.refl _)
  · refine SC.exit ?_
    refine SE.thenE (SE.thenE (SE.inBlock ?_))
    refine SC.then ?_
    refine SC.seq ?_
    refine SC.region ?_
    refine SL.y (OV.assign rfl) rfl ?_
    refine SL.nil ?_
    refine SC.then ?_
    refine SC.ret ?_
    exact SE.ret1 Yba.results3 rfl (fun w' hM => ⟨rfl, hM.below⟩)
end
end Go.Proofs.Ybulkdrci.A
