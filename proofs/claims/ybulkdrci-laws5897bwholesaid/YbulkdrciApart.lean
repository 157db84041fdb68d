import Derived.Test.YbulkdrciLibc
import Derived.Test.YbulkdrciPlain
namespace Go.Proofs.Ybulkdrci.Apart
open Go Go.RowKit Go.Proofs.Ybulkdrci Go.Proofs.Ybulkdrci.Sym Go.Proofs.Ybulkdrci.Pl
set_option linter.unusedVariables false
set_option linter.unusedSimpArgs false

/-- What setApart is handed. -/
structure AD where
  (bs bix bt bn bp bst bh btx ct np cp n T I C : Nat)
  (kd nd txl : Nat → Int)
  (tx it st : Nat → Nat)
  (cs : List Value)

abbrev AD.vv (D : AD) (p : Nat) : Int := D.nd (D.tx p)

structure AH (D : AD) (w0 : World) : Prop where
  ix0 : w0.cell? ⟨D.bix, 0, none⟩ = some (.slice (some ⟨D.bh, 0, none⟩) D.n D.n)
  ix1 : w0.cell? ⟨D.bix, 0 + 1, none⟩ = some (.slice (some ⟨D.btx, 0, none⟩) D.n D.n)
  ix5 : w0.cell? ⟨D.bix, 0 + 5, none⟩ = some (.int .i64 D.I)
  hh : ∀ p, p < D.n → w0.cell? ⟨D.bh, 0 + p * 3 + 0, none⟩ = some (.int .u8 (D.kd p))
  htx : ∀ p, p < D.n → w0.cell? ⟨D.btx, p, none⟩ = some (.int .i32 (D.tx p))
  ht : ∀ v, v < D.C → w0.cell? ⟨D.bt, v, none⟩ = some (.int .i64 (D.txl v))
  hpos : ∀ x, x < D.I → ∀ j, (h : j < (opsOf D.n D.it x).length) → w0.cell? ⟨D.bp, D.st x + j, none⟩ = some (.int .i32 ((opsOf D.n D.it x)[j] : Nat))
  hst : ∀ x, x ≤ D.I → w0.cell? ⟨D.bst, x, none⟩ = some (.int .i32 (D.st x))
  stn : ∀ x, x < D.I → D.st (x + 1) = D.st x + (opsOf D.n D.it x).length ∧ D.st (x + 1) ≤ D.cp
  nle : D.n ≤ 100000
  Ile : D.I ≤ 1000
  Cle : D.C ≤ 1000
  Tle : D.T ≤ 1000
  txT : ∀ p, p < D.n → D.tx p < D.T
  ndC : ∀ t, t < D.T → -1 ≤ D.nd t ∧ D.nd t < D.C
  csl : D.cs.length = 32
  n1 : D.bix ∉ [D.bn, D.bs]
  n2 : D.bh ∉ [D.bn, D.bs]
  n3 : D.btx ∉ [D.bn, D.bs]
  n4 : D.bt ∉ [D.bn, D.bs]
  n5 : D.bp ∉ [D.bn, D.bs]
  n6 : D.bst ∉ [D.bn, D.bs]
  n7 : D.bn ≠ D.bs

abbrev EA (D : AD) (b13 b14 b15 : Nat) : Env := [(0, .pointer (some ⟨D.bs, 0, none⟩)), (1, .pointer (some ⟨D.bix, 0, none⟩)), (2, .slice (some ⟨D.bt, 0, none⟩) D.C D.ct), (3, .slice (some ⟨D.bn, 0, none⟩) D.T D.T), (4, .slice (some ⟨D.bp, 0, none⟩) D.np D.cp), (5, .slice (some ⟨D.bst, 0, none⟩) (D.I + 1) (D.I + 1)), (13, .slice (some ⟨b13, 0, none⟩) D.C D.C), (14, .slice (some ⟨b14, 0, none⟩) D.C D.C), (15, .slice (some ⟨b15, 0, none⟩) D.C D.C)]
abbrev MA (D : AD) (nd : Nat → Int) (b13 b14 b15 : Nat) (st se co : Nat → Int) : List Blk := [(D.bn, irow 21 .i32 D.T nd), (D.bs, row 74 D.cs), (b13, irow 61 .u32 D.C st), (b14, irow 21 .i32 D.C se), (b15, irow 21 .i32 D.C co)]

section
variable {D : AD} {w0 : World} {Q : Exit → Act → World → Prop} {b13 b14 b15 : Nat}

/-- steps[v], searched[v] = 1, -1 -/
theorem loop1 (H : AH D w0) (h : SE (Q .normal) Yba.f11.ntmps (EA D b13 b14 b15) w0 [D.bn, D.bs] (MA D D.nd b13 b14 b15 (fun _ => 1) (fun _ => -1) (fun _ => 0))) :
    SC Yba.prog (sub [1,1,1,1,0,1] (Yba.f11.body.getD .skip)) Q Yba.f11.ntmps ((47, .int .i64 D.C) :: (48, .int .i64 (0 : Nat)) :: EA D b13 b14 b15) w0 [D.bn, D.bs] (MA D D.nd b13 b14 b15 (fun _ => 0) (fun _ => 0) (fun _ => 0)) := by
  have hC := H.Cle
  refine SC.block ?_
  refine SC.loop (fun k : Nat => (47, .int .i64 D.C) :: (48, .int .i64 k) :: EA D b13 b14 b15) (fun k => MA D D.nd b13 b14 b15 (fun q => if q < k then 1 else 0) (fun q => if q < k then -1 else 0) (fun _ => 0)) (fun k => k ≤ D.C) (fun k => D.C - k) 0 (Nat.zero_le _) ⟨rfl, rfl, rfl, rfl, rfl, rfl, rfl, rfl, rfl, rfl, rfl, trivial⟩ (by simp) ?_
  intro k hk
  refine SC.seq ?_
  refine SC.region ?_
  refine SL.y (OV.lss rfl rfl) rfl ?_
  refine SL.nil ?_
  refine SC.then ?_
  refine SC.seq ?_
  refine SC.condP rfl (fun hlt => ?_) (fun hge => ?_)
  · refine SC.skip ?_
    refine SC.then ?_
    refine SC.seq ?_
    refine SC.block ?_
    refine SC.seq ?_
    refine SC.region ?_
    refine SL.y (OV.move rfl) rfl ?_
    refine SL.y (OV.assign rfl) rfl ?_
    refine SL.nil ?_
    refine SC.then ?_
    refine SC.region ?_
    refine SL.y (OV.move rfl) rfl ?_
    refine SL.y (OV.move rfl) rfl ?_
    refine SL.y (OV.move rfl) rfl ?_
    refine SL.y (OV.move rfl) rfl ?_
    refine SL.y (OV.idx1 _ u60 se60 rfl rfl rfl (by omega)) rfl ?_
    refine SL.s (OS.storeI 2 sz61 rfl rfl rfl (by omega)) ?_
    refine SL.y (OV.idx1 _ u47 se47 rfl rfl rfl (by omega)) rfl ?_
    refine SL.s (OS.storeI 3 sz21 rfl rfl rfl (by omega)) ?_
    refine SL.nil ?_
    refine SE.nb ?_
    refine SC.then ?_
    refine SC.region ?_
    refine SL.y (OV.add rfl rfl (wrap_i64 (by omega) (by omega))) rfl ?_
    refine SL.y (OV.move rfl) rfl ?_
    refine SL.nil ?_
    refine SE.round (k + 1) (by omega) (by omega) ⟨rfl, rfl, rfl, rfl, rfl, rfl, rfl, rfl, rfl, rfl, rfl, trivial⟩ ?_
    rw [← upd_fillc, ← upd_fillc]
    exact List.Sublist.refl _
  · refine SC.exit ?_
    refine SE.thenE (SE.thenE (SE.inBlock ?_))
    have hkC : k = D.C := by omega
    subst hkC
    refine SE.weaken (env' := EA D b13 b14 b15) (m' := MA D D.nd b13 b14 b15 (fun _ => 1) (fun _ => -1) (fun _ => 0)) ⟨rfl, rfl, rfl, rfl, rfl, rfl, rfl, rfl, rfl, trivial⟩ ?_ h
    unfold MA
    rw [irow_fill (f := fun _ => 1), irow_fill (f := fun _ => -1)]
    exact List.Sublist.refl _

abbrev E3 (D : AD) (b13 b14 b15 x off c' len : Nat) (j : Nat) (s : S3) : Env := (18, .int .i32 x) :: (19, .slice (some ⟨D.bp, off, none⟩) len c') :: (20, .int .i32 s.first) :: (21, .bool s.alone) :: (22, .bool s.written) :: (78, .slice (some ⟨D.bp, off, none⟩) len c') :: (79, .int .i64 len) :: (80, .int .i64 j) :: (61, .int .i64 D.I) :: (62, .int .i64 x) :: EA D b13 b14 b15

set_option maxHeartbeats 1000000 in
/-- first, alone, written over the operations of one item -/
theorem loop3 (H : AH D w0) {x off c' len : Nat} {l : List Nat} (hl : l.length = len) (hln : len ≤ 100000) (hlt : ∀ j, (h : j < l.length) → l[j] < D.n) (hpos : ∀ j, (h : j < l.length) → w0.cell? ⟨D.bp, off + j, none⟩ = some (.int .i32 (l[j] : Nat))) {st se co : Nat → Int}
    (h : ∀ s, s = fold3 D.kd D.vv l → SE (Q .normal) Yba.f11.ntmps (E3 D b13 b14 b15 x off c' len len s) w0 [D.bn, D.bs] (MA D D.nd b13 b14 b15 st se co)) :
    SC Yba.prog (sub [1, 1, 1, 1, 1, 0, 1, 2, 2, 1, 1, 0, 2, 1, 1, 1, 1, 0, 1] (Yba.f11.body.getD .skip)) Q Yba.f11.ntmps (E3 D b13 b14 b15 x off c' len (0 : Nat) ⟨-1, true, false⟩) w0 [D.bn, D.bs] (MA D D.nd b13 b14 b15 st se co) := by
  obtain ⟨i50, hi50, _, hs50, _⟩ := info_parts info50
  refine SC.block ?_
  refine SC.loop (fun js : Nat × S3 => E3 D b13 b14 b15 x off c' len js.1 js.2) (fun _ => MA D D.nd b13 b14 b15 st se co) (fun js => js.1 ≤ len ∧ js.2 = fold3 D.kd D.vv (l.take js.1)) (fun js => len - js.1) (0, ⟨-1, true, false⟩) ⟨Nat.zero_le _, rfl⟩ (by repeat' (first | exact trivial | refine ⟨rfl, ?_⟩)) (List.Sublist.refl _) ?_
  rintro ⟨j, s⟩ ⟨hj, hs⟩
  dsimp only at hj hs
  refine SC.seq ?_
  refine SC.region ?_
  refine SL.y (OV.lss rfl rfl) rfl ?_
  refine SL.nil ?_
  refine SC.then ?_
  refine SC.seq ?_
  refine SC.condP rfl (fun hjl => ?_) (fun hge => ?_)
  · have hjl' : j < l.length := by omega
    have hp := hlt j hjl'
    have hT := H.txT _ hp
    have hfs := fold3_succ D.kd D.vv l j hjl'
    rw [← hs] at hfs
    have hpj := hpos j hjl'
    generalize l[j] = p at *
    refine SC.skip ?_
    refine SC.then ?_
    refine SC.seq ?_
    refine SC.block ?_
    refine SC.seq ?_
    refine SC.region ?_
    refine SL.y (OV.idxOff j u47 se47 rfl rfl rfl (by omega)) rfl ?_
    refine SL.y (OV.loadOld sc21 rfl H.n5 hpj) rfl ?_
    refine SL.y (OV.assign rfl) rfl ?_
    refine SL.nil ?_
    refine SC.then ?_
    refine SC.seq ?_
    refine SC.region ?_
    refine SL.y (OV.move rfl) rfl ?_
    refine SL.y (OV.move rfl) rfl ?_
    refine SL.y (OV.nilCheck rfl) rfl ?_
    refine SL.y (OV.fld fo56_1 rfl) rfl ?_
    refine SL.y (OV.loadOld sc47 rfl H.n1 H.ix1) rfl ?_
    refine SL.y (OV.move rfl) rfl ?_
    refine SL.y (OV.idx1 p u47 se47 rfl rfl rfl (by omega)) rfl ?_
    refine SL.y (OV.loadOld sc21 rfl H.n3 (H.htx p hp)) rfl ?_
    refine SL.y (OV.idx1 (D.tx p) u47 se47 rfl rfl rfl (by omega)) rfl ?_
    refine SL.y (OV.loadI 0 sc21 rfl rfl (by omega)) rfl ?_
    refine SL.y (OV.assign rfl) rfl ?_
    refine SL.nil ?_
    refine SC.then ?_
    refine SC.seq ?_
    refine SC.region ?_
    refine SL.y (OV.move rfl) rfl ?_
    refine SL.y (OV.geq rfl rfl) rfl ?_
    refine SL.nil ?_
    refine SC.then ?_
    have hnd := H.ndC _ hT
    refine SC.condP rfl (fun hv => ?_) (fun hv => ?_)
    · obtain ⟨first, alone, written⟩ := s
      refine SC.cutSt ((25, .int .i32 (D.vv p)) :: (24, .int .i32 p) :: E3 D b13 b14 b15 x off c' len j ⟨if first < 0 then D.vv p else first, alone, written⟩) (MA D D.nd b13 b14 b15 st se co) ?_ ?_
      · skip
        refine SC.seq ?_
        refine SC.region ?_
        refine SL.y (OV.move rfl) rfl ?_
        refine SL.y (OV.lss rfl rfl) rfl ?_
        refine SL.nil ?_
        refine SC.then ?_
        refine SC.condP rfl (fun hf => ?_) (fun hf => ?_)
        · skip
          refine SC.region ?_
          refine SL.y (OV.move rfl) rfl ?_
          refine SL.y (OV.assign rfl) rfl ?_
          refine SL.nil ?_
          refine SE.toSt ?_ (List.Sublist.refl _)
          rw [if_pos hf]
          exact (by repeat' (first | exact trivial | refine ⟨rfl, ?_⟩))
        · refine SC.skip ?_
          refine SE.toSt ?_ (List.Sublist.refl _)
          rw [if_neg hf]
          exact (by repeat' (first | exact trivial | refine ⟨rfl, ?_⟩))
      generalize hF : (if first < 0 then D.vv p else first) = f'
      have hstep : ∀ al wr, al = (alone && decide (D.vv p = f')) → wr = (written || decide (D.kd p = 2)) → (⟨f', al, wr⟩ : S3) = fold3 D.kd D.vv (l.take (j + 1)) := by
        intro al wr h1 h2
        rw [hfs, h1, h2]
        unfold step3
        rw [if_pos hv]
        simp only [hF]
      cases alone
      · cases written
        · skip
          refine SC.quiet mixed (by kernel_rfl) ?_
          refine SQ.y (OV.move rfl) rfl ?_
          refine SQ.y (OV.move rfl) rfl ?_
          refine SQ.skip rfl rfl rfl ?_
          refine SQ.skip rfl rfl rfl ?_
          refine SQ.skip rfl rfl rfl ?_
          refine SQ.y (OV.pickF rfl rfl) rfl ?_
          refine SQ.y (OV.move rfl) rfl ?_
          refine SQ.y (OV.move rfl) rfl ?_
          refine SQ.yg rfl rfl (OV.move rfl) rfl ?_
          refine SQ.yg rfl rfl (OV.nilCheck rfl) rfl ?_
          refine SQ.yg rfl rfl (OV.fld fo56_0 rfl) rfl ?_
          refine SQ.yg rfl rfl (OV.loadOld sc46 rfl H.n1 H.ix0) rfl ?_
          refine SQ.yg rfl rfl (OV.move rfl) rfl ?_
          refine SQ.yg rfl rfl (OV.idx p u46 hi50 hs50 rfl rfl rfl (by omega)) rfl ?_
          refine SQ.yg rfl rfl (OV.fld fo50_0 rfl) rfl ?_
          refine SQ.yg rfl rfl (OV.loadOld sc48 rfl H.n2 (H.hh p hp)) rfl ?_
          refine SQ.yg rfl rfl (OV.eql rfl rfl) rfl ?_
          refine SQ.y (OV.pickF rfl rfl) rfl ?_
          refine SQ.y (OV.assign rfl) rfl ?_
          refine SQ.y (OV.assign rfl) rfl ?_
          refine SQ.nil ?_
          refine SE.nb ?_
          refine SC.then ?_
          refine SC.region ?_
          refine SL.y (OV.add rfl rfl (wrap_i64 (by omega) (by omega))) rfl ?_
          refine SL.y (OV.move rfl) rfl ?_
          refine SL.nil ?_
          exact SE.round (j + 1, ⟨f', false, (decide (D.kd p = 2))⟩) ⟨by simp; omega, hstep _ _ (by simp) (by simp)⟩ (by simp; omega) (by repeat' (first | exact trivial | refine ⟨rfl, ?_⟩)) (List.Sublist.refl _)
        · skip
          refine SC.quiet mixed (by kernel_rfl) ?_
          refine SQ.y (OV.move rfl) rfl ?_
          refine SQ.y (OV.move rfl) rfl ?_
          refine SQ.skip rfl rfl rfl ?_
          refine SQ.skip rfl rfl rfl ?_
          refine SQ.skip rfl rfl rfl ?_
          refine SQ.y (OV.pickF rfl rfl) rfl ?_
          refine SQ.y (OV.move rfl) rfl ?_
          refine SQ.y (OV.move rfl) rfl ?_
          refine SQ.skip rfl rfl rfl ?_
          refine SQ.skip rfl rfl rfl ?_
          refine SQ.skip rfl rfl rfl ?_
          refine SQ.skip rfl rfl rfl ?_
          refine SQ.skip rfl rfl rfl ?_
          refine SQ.skip rfl rfl rfl ?_
          refine SQ.skip rfl rfl rfl ?_
          refine SQ.skip rfl rfl rfl ?_
          refine SQ.skip rfl rfl rfl ?_
          refine SQ.y (OV.pickT rfl rfl) rfl ?_
          refine SQ.y (OV.assign rfl) rfl ?_
          refine SQ.y (OV.assign rfl) rfl ?_
          refine SQ.nil ?_
          refine SE.nb ?_
          refine SC.then ?_
          refine SC.region ?_
          refine SL.y (OV.add rfl rfl (wrap_i64 (by omega) (by omega))) rfl ?_
          refine SL.y (OV.move rfl) rfl ?_
          refine SL.nil ?_
          exact SE.round (j + 1, ⟨f', false, true⟩) ⟨by simp; omega, hstep _ _ (by simp) (by simp)⟩ (by simp; omega) (by repeat' (first | exact trivial | refine ⟨rfl, ?_⟩)) (List.Sublist.refl _)
      · cases written
        · skip
          refine SC.quiet mixed (by kernel_rfl) ?_
          refine SQ.y (OV.move rfl) rfl ?_
          refine SQ.y (OV.move rfl) rfl ?_
          refine SQ.yg rfl rfl (OV.move rfl) rfl ?_
          refine SQ.yg rfl rfl (OV.move rfl) rfl ?_
          refine SQ.yg rfl rfl (OV.eql rfl rfl) rfl ?_
          refine SQ.y (OV.pickT rfl rfl) rfl ?_
          refine SQ.y (OV.move rfl) rfl ?_
          refine SQ.y (OV.move rfl) rfl ?_
          refine SQ.yg rfl rfl (OV.move rfl) rfl ?_
          refine SQ.yg rfl rfl (OV.nilCheck rfl) rfl ?_
          refine SQ.yg rfl rfl (OV.fld fo56_0 rfl) rfl ?_
          refine SQ.yg rfl rfl (OV.loadOld sc46 rfl H.n1 H.ix0) rfl ?_
          refine SQ.yg rfl rfl (OV.move rfl) rfl ?_
          refine SQ.yg rfl rfl (OV.idx p u46 hi50 hs50 rfl rfl rfl (by omega)) rfl ?_
          refine SQ.yg rfl rfl (OV.fld fo50_0 rfl) rfl ?_
          refine SQ.yg rfl rfl (OV.loadOld sc48 rfl H.n2 (H.hh p hp)) rfl ?_
          refine SQ.yg rfl rfl (OV.eql rfl rfl) rfl ?_
          refine SQ.y (OV.pickF rfl rfl) rfl ?_
          refine SQ.y (OV.assign rfl) rfl ?_
          refine SQ.y (OV.assign rfl) rfl ?_
          refine SQ.nil ?_
          refine SE.nb ?_
          refine SC.then ?_
          refine SC.region ?_
          refine SL.y (OV.add rfl rfl (wrap_i64 (by omega) (by omega))) rfl ?_
          refine SL.y (OV.move rfl) rfl ?_
          refine SL.nil ?_
          exact SE.round (j + 1, ⟨f', (decide (D.vv p = f')), (decide (D.kd p = 2))⟩) ⟨by simp; omega, hstep _ _ (by simp) (by simp)⟩ (by simp; omega) (by repeat' (first | exact trivial | refine ⟨rfl, ?_⟩)) (List.Sublist.refl _)
        · skip
          refine SC.quiet mixed (by kernel_rfl) ?_
          refine SQ.y (OV.move rfl) rfl ?_
          refine SQ.y (OV.move rfl) rfl ?_
          refine SQ.yg rfl rfl (OV.move rfl) rfl ?_
          refine SQ.yg rfl rfl (OV.move rfl) rfl ?_
          refine SQ.yg rfl rfl (OV.eql rfl rfl) rfl ?_
          refine SQ.y (OV.pickT rfl rfl) rfl ?_
          refine SQ.y (OV.move rfl) rfl ?_
          refine SQ.y (OV.move rfl) rfl ?_
          refine SQ.skip rfl rfl rfl ?_
          refine SQ.skip rfl rfl rfl ?_
          refine SQ.skip rfl rfl rfl ?_
          refine SQ.skip rfl rfl rfl ?_
          refine SQ.skip rfl rfl rfl ?_
          refine SQ.skip rfl rfl rfl ?_
          refine SQ.skip rfl rfl rfl ?_
          refine SQ.skip rfl rfl rfl ?_
          refine SQ.skip rfl rfl rfl ?_
          refine SQ.y (OV.pickT rfl rfl) rfl ?_
          refine SQ.y (OV.assign rfl) rfl ?_
          refine SQ.y (OV.assign rfl) rfl ?_
          refine SQ.nil ?_
          refine SE.nb ?_
          refine SC.then ?_
          refine SC.region ?_
          refine SL.y (OV.add rfl rfl (wrap_i64 (by omega) (by omega))) rfl ?_
          refine SL.y (OV.move rfl) rfl ?_
          refine SL.nil ?_
          exact SE.round (j + 1, ⟨f', (decide (D.vv p = f')), true⟩) ⟨by simp; omega, hstep _ _ (by simp) (by simp)⟩ (by simp; omega) (by repeat' (first | exact trivial | refine ⟨rfl, ?_⟩)) (List.Sublist.refl _)
    · refine SC.skip ?_
      refine SE.nb ?_
      refine SC.then ?_
      refine SC.region ?_
      refine SL.y (OV.add rfl rfl (wrap_i64 (by omega) (by omega))) rfl ?_
      refine SL.y (OV.move rfl) rfl ?_
      refine SL.nil ?_
      refine SE.round (j + 1, s) ⟨by simp; omega, ?_⟩ (by simp; omega) (by repeat' (first | exact trivial | refine ⟨rfl, ?_⟩)) (List.Sublist.refl _)
      show s = _
      rw [hfs]
      unfold step3
      rw [if_neg hv]
  · refine SC.exit ?_
    refine SE.thenE (SE.thenE (SE.inBlock ?_))
    have : j = len := by omega
    subst this
    exact SE.weaken (by repeat' (first | exact trivial | refine ⟨rfl, ?_⟩)) (List.Sublist.refl _) (h s (by rw [hs, ← hl, List.take_length]))

abbrev E4 (D : AD) (b13 b14 b15 x off c' len : Nat) (sw sa : Bool) (j : Nat) (wrote : Bool) : Env := (18, .int .i32 x) :: (21, .bool sa) :: (22, .bool sw) :: (26, .bool wrote) :: (118, .slice (some ⟨D.bp, off, none⟩) len c') :: (119, .int .i64 len) :: (120, .int .i64 j) :: (61, .int .i64 D.I) :: (62, .int .i64 x) :: EA D b13 b14 b15
abbrev M4 (D : AD) (b13 b14 b15 : Nat) (s : S4) : List Blk := MA D D.nd b13 b14 b15 s.steps s.searched s.counted

set_option maxHeartbeats 1000000 in
/-- The two last cases of the switch. -/
theorem tail4 (H : AH D w0) {x off c' len j p v : Nat} {sw sa : Bool} {s : S4} (hx : x ≤ 1000) (hp : p < D.n) (hv : v < D.C)
    (h : ∀ s' : S4, s' = (if D.kd p = 2 then { s with wrote := true, steps := if s.wrote = true then s.steps else upd s.steps v (IntKind.u32.wrap (s.steps v + 2)) }
        else if s.wrote = false ∧ s.counted v ≠ (x : Int) + 1 then { s with steps := upd s.steps v (IntKind.u32.wrap (s.steps v + 1)), counted := upd s.counted v ((x : Int) + 1) } else s) →
      SE (Q .normal) Yba.f11.ntmps (E4 D b13 b14 b15 x off c' len sw sa j s'.wrote) w0 [D.bn, D.bs] (M4 D b13 b14 b15 s')) :
    SC Yba.prog (sub [1, 1, 1, 1, 1, 0, 1, 2, 2, 1, 1, 0, 2, 1, 1, 1, 1, 1, 1, 1, 2, 2, 1, 1, 0, 2, 1, 1, 2, 1, 4, 1, 4] (Yba.f11.body.getD .skip)) Q Yba.f11.ntmps ((28, .int .i32 p) :: (29, .int .i32 v) :: E4 D b13 b14 b15 x off c' len sw sa j s.wrote) w0 [D.bn, D.bs] (M4 D b13 b14 b15 s) := by
  obtain ⟨i50, hi50, _, hs50, _⟩ := info_parts info50
  have hn := H.nle
  have hC := H.Cle
  obtain ⟨wrote, steps, searched, counted⟩ := s
  refine SC.seq ?_
  refine SC.region ?_
  refine SL.y (OV.move rfl) rfl ?_
  refine SL.y (OV.nilCheck rfl) rfl ?_
  refine SL.y (OV.fld fo56_0 rfl) rfl ?_
  refine SL.y (OV.loadOld sc46 rfl H.n1 H.ix0) rfl ?_
  refine SL.y (OV.move rfl) rfl ?_
  refine SL.y (OV.idx p u46 hi50 hs50 rfl rfl rfl (by omega)) rfl ?_
  refine SL.y (OV.fld fo50_0 rfl) rfl ?_
  refine SL.y (OV.loadOld sc48 rfl H.n2 (H.hh p hp)) rfl ?_
  refine SL.y (OV.eql rfl rfl) rfl ?_
  refine SL.y (OV.assign rfl) rfl ?_
  refine SL.nil ?_
  refine SC.then ?_
  refine SC.condP rfl (fun hk => ?_) (fun hk => ?_)
  · cases wrote
    · refine SC.seq ?_
      refine SC.seq ?_
      refine SC.region ?_
      refine SL.y (OV.move rfl) rfl ?_
      refine SL.y (OV.not rfl) rfl ?_
      refine SL.nil ?_
      refine SC.then ?_
      refine SC.condT rfl ?_
      refine SC.region ?_
      refine SL.y (OV.move rfl) rfl ?_
      refine SL.y (OV.move rfl) rfl ?_
      refine SL.y (OV.idx1 _ u60 se60 rfl rfl rfl (by omega)) rfl ?_
      refine SL.y (OV.loadI 2 sc61 rfl rfl (by omega)) rfl ?_
      refine SL.y (OV.add rfl rfl rfl) rfl ?_
      refine SL.y (OV.idx1 _ u60 se60 rfl rfl rfl (by omega)) rfl ?_
      refine SL.s (OS.storeI 2 sz61 rfl rfl rfl (by omega)) ?_
      refine SL.nil ?_
      refine SC.then ?_
      refine SC.region ?_
      refine SL.y (OV.assign rfl) rfl ?_
      refine SL.nil ?_
      exact SE.weaken (by repeat' (first | exact trivial | refine ⟨rfl, ?_⟩)) (List.Sublist.refl _) (h ⟨true, upd steps v (IntKind.u32.wrap (steps v + 2)), searched, counted⟩ (by rw [if_pos hk]; simp))
    · refine SC.seq ?_
      refine SC.seq ?_
      refine SC.region ?_
      refine SL.y (OV.move rfl) rfl ?_
      refine SL.y (OV.not rfl) rfl ?_
      refine SL.nil ?_
      refine SC.then ?_
      refine SC.condF rfl ?_
      refine SC.skip ?_
      refine SC.then ?_
      refine SC.region ?_
      refine SL.y (OV.assign rfl) rfl ?_
      refine SL.nil ?_
      exact SE.weaken (by repeat' (first | exact trivial | refine ⟨rfl, ?_⟩)) (List.Sublist.refl _) (h ⟨true, steps, searched, counted⟩ (by rw [if_pos hk]; simp))
  · cases wrote
    · skip
      refine SC.seq ?_
      refine SC.region ?_
      refine SL.y (OV.move rfl) rfl ?_
      refine SL.y (OV.not rfl) rfl ?_
      refine SL.y (OV.move rfl) rfl ?_
      refine SL.yg rfl rfl (OV.move rfl) rfl ?_
      refine SL.yg rfl rfl (OV.move rfl) rfl ?_
      refine SL.yg rfl rfl (OV.idx1 _ u47 se47 rfl rfl rfl (by omega)) rfl ?_
      refine SL.yg rfl rfl (OV.loadI 4 sc21 rfl rfl (by omega)) rfl ?_
      refine SL.yg rfl rfl (OV.move rfl) rfl ?_
      refine SL.yg rfl rfl (OV.add rfl rfl (wrap_i32 (by omega) (by omega))) rfl ?_
      refine SL.yg rfl rfl (OV.neq rfl rfl) rfl ?_
      refine SL.y (OV.pickT rfl rfl) rfl ?_
      refine SL.y (OV.assign rfl) rfl ?_
      refine SL.nil ?_
      refine SC.then ?_
      refine SC.condP rfl (fun hc => ?_) (fun hc => ?_)
      · skip
        refine SC.seq ?_
        refine SC.region ?_
        refine SL.y (OV.move rfl) rfl ?_
        refine SL.y (OV.move rfl) rfl ?_
        refine SL.y (OV.idx1 _ u60 se60 rfl rfl rfl (by omega)) rfl ?_
        refine SL.y (OV.loadI 2 sc61 rfl rfl (by omega)) rfl ?_
        refine SL.y (OV.add rfl rfl rfl) rfl ?_
        refine SL.y (OV.idx1 _ u60 se60 rfl rfl rfl (by omega)) rfl ?_
        refine SL.s (OS.storeI 2 sz61 rfl rfl rfl (by omega)) ?_
        refine SL.nil ?_
        refine SC.then ?_
        refine SC.region ?_
        refine SL.y (OV.move rfl) rfl ?_
        refine SL.y (OV.move rfl) rfl ?_
        refine SL.y (OV.move rfl) rfl ?_
        refine SL.y (OV.add rfl rfl (wrap_i32 (by omega) (by omega))) rfl ?_
        refine SL.y (OV.idx1 _ u47 se47 rfl rfl rfl (by omega)) rfl ?_
        refine SL.s (OS.storeI 4 sz21 rfl rfl rfl (by omega)) ?_
        refine SL.nil ?_
        exact SE.weaken (by repeat' (first | exact trivial | refine ⟨rfl, ?_⟩)) (List.Sublist.refl _) (h ⟨false, upd steps v (IntKind.u32.wrap (steps v + 1)), searched, upd counted v ((x : Int) + 1)⟩ (by rw [if_neg hk, if_pos ⟨rfl, hc⟩]))
      · refine SC.skip ?_
        exact SE.weaken (by repeat' (first | exact trivial | refine ⟨rfl, ?_⟩)) (List.Sublist.refl _) (h ⟨false, steps, searched, counted⟩ (by rw [if_neg hk, if_neg (fun e => hc e.2)]))
    · skip
      refine SC.seq ?_
      refine SC.region ?_
      refine SL.y (OV.move rfl) rfl ?_
      refine SL.y (OV.not rfl) rfl ?_
      refine SL.y (OV.move rfl) rfl ?_
      refine SL.skip rfl rfl rfl ?_
      refine SL.skip rfl rfl rfl ?_
      refine SL.skip rfl rfl rfl ?_
      refine SL.skip rfl rfl rfl ?_
      refine SL.skip rfl rfl rfl ?_
      refine SL.skip rfl rfl rfl ?_
      refine SL.skip rfl rfl rfl ?_
      refine SL.y (OV.pickF rfl rfl) rfl ?_
      refine SL.y (OV.assign rfl) rfl ?_
      refine SL.nil ?_
      refine SC.then ?_
      refine SC.condF rfl ?_
      refine SC.skip ?_
      exact SE.weaken (by repeat' (first | exact trivial | refine ⟨rfl, ?_⟩)) (List.Sublist.refl _) (h ⟨true, steps, searched, counted⟩ (by rw [if_neg hk, if_neg (fun e => by cases e.1)]))

set_option maxHeartbeats 1000000 in
/-- what the operations of one item do to steps, searched, counted -/
theorem loop4 (H : AH D w0) {x off c' len : Nat} {l : List Nat} (hx : x ≤ 1000) (hl : l.length = len) (hln : len ≤ 100000) (hlt : ∀ j, (h : j < l.length) → l[j] < D.n) (hpos : ∀ j, (h : j < l.length) → w0.cell? ⟨D.bp, off + j, none⟩ = some (.int .i32 (l[j] : Nat))) {sw sa : Bool} {s0 : S4}
    (h : ∀ s, s = fold4 D.kd D.vv x sw sa s0 l → SE (Q .normal) Yba.f11.ntmps (E4 D b13 b14 b15 x off c' len sw sa len s.wrote) w0 [D.bn, D.bs] (M4 D b13 b14 b15 s)) :
    SC Yba.prog (sub [1, 1, 1, 1, 1, 0, 1, 2, 2, 1, 1, 0, 2, 1, 1, 1, 1, 1, 1, 1] (Yba.f11.body.getD .skip)) Q Yba.f11.ntmps (E4 D b13 b14 b15 x off c' len sw sa (0 : Nat) s0.wrote) w0 [D.bn, D.bs] (M4 D b13 b14 b15 s0) := by
  refine SC.block ?_
  refine SC.loop (fun js : Nat × S4 => E4 D b13 b14 b15 x off c' len sw sa js.1 js.2.wrote) (fun js => M4 D b13 b14 b15 js.2) (fun js => js.1 ≤ len ∧ js.2 = fold4 D.kd D.vv x sw sa s0 (l.take js.1)) (fun js => len - js.1) (0, s0) ⟨Nat.zero_le _, rfl⟩ (by repeat' (first | exact trivial | refine ⟨rfl, ?_⟩)) (List.Sublist.refl _) ?_
  rintro ⟨j, s⟩ ⟨hj, hs⟩
  dsimp only at hj hs
  refine SC.seq ?_
  refine SC.region ?_
  refine SL.y (OV.lss rfl rfl) rfl ?_
  refine SL.nil ?_
  refine SC.then ?_
  refine SC.seq ?_
  refine SC.condP rfl (fun hjl => ?_) (fun hge => ?_)
  · have hjl' : j < l.length := by omega
    have hp := hlt j hjl'
    have hT := H.txT _ hp
    have hfs := fold4_succ D.kd D.vv x sw sa s0 l j hjl'
    rw [← hs] at hfs
    have hpj := hpos j hjl'
    generalize l[j] = p at *
    have hC := H.Cle
    refine SC.skip ?_
    refine SC.then ?_
    refine SC.seq ?_
    refine SC.block ?_
    refine SC.seq ?_
    refine SC.region ?_
    refine SL.y (OV.idxOff j u47 se47 rfl rfl rfl (by omega)) rfl ?_
    refine SL.y (OV.loadOld sc21 rfl H.n5 hpj) rfl ?_
    refine SL.y (OV.assign rfl) rfl ?_
    refine SL.nil ?_
    refine SC.then ?_
    refine SC.seq ?_
    refine SC.region ?_
    refine SL.y (OV.move rfl) rfl ?_
    refine SL.y (OV.move rfl) rfl ?_
    refine SL.y (OV.nilCheck rfl) rfl ?_
    refine SL.y (OV.fld fo56_1 rfl) rfl ?_
    refine SL.y (OV.loadOld sc47 rfl H.n1 H.ix1) rfl ?_
    refine SL.y (OV.move rfl) rfl ?_
    refine SL.y (OV.idx1 p u47 se47 rfl rfl rfl (by omega)) rfl ?_
    refine SL.y (OV.loadOld sc21 rfl H.n3 (H.htx p hp)) rfl ?_
    refine SL.y (OV.idx1 (D.tx p) u47 se47 rfl rfl rfl (by omega)) rfl ?_
    refine SL.y (OV.loadI 0 sc21 rfl rfl (by omega)) rfl ?_
    refine SL.y (OV.assign rfl) rfl ?_
    refine SL.nil ?_
    refine SC.then ?_
    have hnd := H.ndC _ hT
    refine SC.block ?_
    refine SC.seq ?_
    refine SC.region ?_
    refine SL.y (OV.move rfl) rfl ?_
    refine SL.y (OV.lss rfl rfl) rfl ?_
    refine SL.y (OV.assign rfl) rfl ?_
    refine SL.nil ?_
    refine SC.then ?_
    refine SC.condP rfl (fun hv => ?_) (fun hv => ?_)
    · refine SC.skip ?_
      refine SE.nb (SE.nb ?_)
      refine SC.then ?_
      refine SC.region ?_
      refine SL.y (OV.add rfl rfl (wrap_i64 (by omega) (by omega))) rfl ?_
      refine SL.y (OV.move rfl) rfl ?_
      refine SL.nil ?_
      refine SE.round (j + 1, s) ⟨by simp; omega, ?_⟩ (by simp; omega) (by repeat' (first | exact trivial | refine ⟨rfl, ?_⟩)) (List.Sublist.refl _)
      show s = _
      rw [hfs]
      unfold step4
      rw [if_pos hv]
    · have htn : D.nd (D.tx p) = ((D.nd (D.tx p)).toNat : Int) := by omega
      have hvC : (D.nd (D.tx p)).toNat < D.C := by omega
      have hstep : ∀ s' : S4, ¬ ((sw && !sa) = true) → s' = (if D.kd p = 2 then { s with wrote := true, steps := if s.wrote = true then s.steps else upd s.steps (D.nd (D.tx p)).toNat (IntKind.u32.wrap (s.steps (D.nd (D.tx p)).toNat + 2)) }
        else if s.wrote = false ∧ s.counted (D.nd (D.tx p)).toNat ≠ (x : Int) + 1 then { s with steps := upd s.steps (D.nd (D.tx p)).toNat (IntKind.u32.wrap (s.steps (D.nd (D.tx p)).toNat + 1)), counted := upd s.counted (D.nd (D.tx p)).toNat ((x : Int) + 1) } else s) → s' = fold4 D.kd D.vv x sw sa s0 (l.take (j + 1)) := by
        intro s' h1 h2
        rw [hfs, h2]
        unfold step4
        rw [if_neg hv, if_neg h1]
      have hstep2 : (sw && !sa) = true → ({ s with searched := upd s.searched (D.nd (D.tx p)).toNat 0 } : S4) = fold4 D.kd D.vv x sw sa s0 (l.take (j + 1)) := by
        intro h1
        rw [hfs]
        unfold step4
        rw [if_neg hv, if_pos h1]
      generalize (D.nd (D.tx p)).toNat = v at *
      rw [htn]
      cases sw
      · skip
        refine SC.seq ?_
        refine SC.region ?_
        refine SL.y (OV.move rfl) rfl ?_
        refine SL.y (OV.move rfl) rfl ?_
        refine SL.skip rfl rfl rfl ?_
        refine SL.skip rfl rfl rfl ?_
        refine SL.y (OV.pickF rfl rfl) rfl ?_
        refine SL.y (OV.assign rfl) rfl ?_
        refine SL.nil ?_
        refine SC.then ?_
        refine SC.condF rfl ?_
        refine SC.weaken (m' := M4 D b13 b14 b15 s) ?_ (List.Sublist.refl _) (tail4 (p := p) (v := v) (j := j) (s := s) (sw := false) (sa := sa) (off := off) (c' := c') (len := len) H hx hp hvC fun s' hs' => ?_)
        · exact (by repeat' (first | exact trivial | refine ⟨rfl, ?_⟩))
        refine SE.nb (SE.nb ?_)
        refine SC.then ?_
        refine SC.region ?_
        refine SL.y (OV.add rfl rfl (wrap_i64 (by omega) (by omega))) rfl ?_
        refine SL.y (OV.move rfl) rfl ?_
        refine SL.nil ?_
        exact SE.round (j + 1, s') ⟨by simp; omega, hstep s' (by simp) hs'⟩ (by simp; omega) (by repeat' (first | exact trivial | refine ⟨rfl, ?_⟩)) (List.Sublist.refl _)
      · cases sa
        · skip
          refine SC.seq ?_
          refine SC.region ?_
          refine SL.y (OV.move rfl) rfl ?_
          refine SL.y (OV.move rfl) rfl ?_
          refine SL.yg rfl rfl (OV.move rfl) rfl ?_
          refine SL.yg rfl rfl (OV.not rfl) rfl ?_
          refine SL.y (OV.pickT rfl rfl) rfl ?_
          refine SL.y (OV.assign rfl) rfl ?_
          refine SL.nil ?_
          refine SC.then ?_
          refine SC.condT rfl ?_
          refine SC.region ?_
          refine SL.y (OV.move rfl) rfl ?_
          refine SL.y (OV.move rfl) rfl ?_
          refine SL.y (OV.idx1 _ u47 se47 rfl rfl rfl (by omega)) rfl ?_
          refine SL.s (OS.storeI 3 sz21 rfl rfl rfl (by omega)) ?_
          refine SL.nil ?_
          refine SE.nb (SE.nb ?_)
          refine SC.then ?_
          refine SC.region ?_
          refine SL.y (OV.add rfl rfl (wrap_i64 (by omega) (by omega))) rfl ?_
          refine SL.y (OV.move rfl) rfl ?_
          refine SL.nil ?_
          exact SE.round (j + 1, { s with searched := upd s.searched v 0 }) ⟨by simp; omega, hstep2 rfl⟩ (by simp; omega) (by repeat' (first | exact trivial | refine ⟨rfl, ?_⟩)) (List.Sublist.refl _)
        · skip
          refine SC.seq ?_
          refine SC.region ?_
          refine SL.y (OV.move rfl) rfl ?_
          refine SL.y (OV.move rfl) rfl ?_
          refine SL.yg rfl rfl (OV.move rfl) rfl ?_
          refine SL.yg rfl rfl (OV.not rfl) rfl ?_
          refine SL.y (OV.pickT rfl rfl) rfl ?_
          refine SL.y (OV.assign rfl) rfl ?_
          refine SL.nil ?_
          refine SC.then ?_
          refine SC.condF rfl ?_
          refine SC.weaken (m' := M4 D b13 b14 b15 s) ?_ (List.Sublist.refl _) (tail4 (p := p) (v := v) (j := j) (s := s) (sw := true) (sa := true) (off := off) (c' := c') (len := len) H hx hp hvC fun s' hs' => ?_)
          · exact (by repeat' (first | exact trivial | refine ⟨rfl, ?_⟩))
          refine SE.nb (SE.nb ?_)
          refine SC.then ?_
          refine SC.region ?_
          refine SL.y (OV.add rfl rfl (wrap_i64 (by omega) (by omega))) rfl ?_
          refine SL.y (OV.move rfl) rfl ?_
          refine SL.nil ?_
          exact SE.round (j + 1, s') ⟨by simp; omega, hstep s' (by simp) hs'⟩ (by simp; omega) (by repeat' (first | exact trivial | refine ⟨rfl, ?_⟩)) (List.Sublist.refl _)
  · refine SC.exit ?_
    refine SE.thenE (SE.thenE (SE.inBlock ?_))
    have : j = len := by omega
    subst this
    exact SE.weaken (by repeat' (first | exact trivial | refine ⟨rfl, ?_⟩)) (List.Sublist.refl _) (h s (by rw [hs, ← hl, List.take_length]))

abbrev M2 (D : AD) (b13 b14 b15 : Nat) (s : S2) : List Blk := MA D D.nd b13 b14 b15 s.steps s.searched s.counted
abbrev AD.f2 (D : AD) (k : Nat) : S2 := fold2 D.n D.it D.kd D.vv k

set_option maxHeartbeats 1000000 in
/-- the loop over the items -/
theorem loop2 (H : AH D w0) (h : SE (Q .normal) Yba.f11.ntmps (EA D b13 b14 b15) w0 [D.bn, D.bs] (M2 D b13 b14 b15 (D.f2 D.I))) :
    SC Yba.prog (sub [1, 1, 1, 1, 1, 0, 1] (Yba.f11.body.getD .skip)) Q Yba.f11.ntmps ((61, .int .i64 D.I) :: (62, .int .i64 (0 : Nat)) :: EA D b13 b14 b15) w0 [D.bn, D.bs] (M2 D b13 b14 b15 (D.f2 0)) := by
  obtain ⟨i21, hi21, _, hs21, _⟩ := info_parts info21
  have hI := H.Ile
  have hnn := H.nle
  refine SC.block ?_
  refine SC.loop (fun x : Nat => (61, .int .i64 D.I) :: (62, .int .i64 x) :: EA D b13 b14 b15) (fun x => M2 D b13 b14 b15 (D.f2 x)) (fun x => x ≤ D.I) (fun x => D.I - x) 0 (Nat.zero_le _) (by repeat' (first | exact trivial | refine ⟨rfl, ?_⟩)) (List.Sublist.refl _) ?_
  intro x hx
  refine SC.seq ?_
  refine SC.region ?_
  refine SL.y (OV.lss rfl rfl) rfl ?_
  refine SL.nil ?_
  refine SC.then ?_
  refine SC.seq ?_
  refine SC.condP rfl (fun hxl => ?_) (fun hge => ?_)
  · have hxl' : x < D.I := by omega
    have hst := H.stn x hxl'
    have hoL := opsOf_len D.n D.it x
    have hsx := H.hst x hx
    have hsx1 := H.hst (x + 1) (by omega)
    have hps := H.hpos x hxl'
    have hlt : ∀ j, (h : j < (opsOf D.n D.it x).length) → (opsOf D.n D.it x)[j] < D.n := fun j hj => (opsOf_lt (List.getElem_mem hj)).1
    have hf2 : D.f2 (x + 1) = step2 D.n D.it D.kd D.vv (D.f2 x) x := fold2_succ _ _ _ _ _
    generalize hll : opsOf D.n D.it x = l at *
    obtain ⟨off, hoff⟩ : ∃ off, (if D.cp = D.st x then 0 else 0 + D.st x) = off := ⟨_, rfl⟩
    have hpos : ∀ j, (h : j < l.length) → w0.cell? ⟨D.bp, off + j, none⟩ = some (.int .i32 (l[j] : Nat)) := fun j hj => by
      have : off = D.st x := by rw [← hoff, if_neg (by omega)]; omega
      rw [this]; exact hps j hj
    have hlen : l.length = D.st (x + 1) - D.st x := by omega
    refine SC.skip ?_
    refine SC.then ?_
    refine SC.seq ?_
    refine SC.block ?_
    refine SC.seq ?_
    refine SC.region ?_
    refine SL.y (OV.move rfl) rfl ?_
    refine SL.y (OV.assign rfl) rfl ?_
    refine SL.nil ?_
    refine SC.then ?_
    refine SC.seq ?_
    refine SC.region ?_
    refine SL.y (OV.move rfl) rfl ?_
    refine SL.y (OV.conv u3 u21 rfl (wrap_i32 (by omega) (by omega))) rfl ?_
    refine SL.y (OV.assign rfl) rfl ?_
    refine SL.nil ?_
    refine SC.then ?_
    refine SC.seq ?_
    refine SC.quiet mixed (by kernel_rfl) ?_
    refine SQ.y (OV.move rfl) rfl ?_
    refine SQ.y (OV.move rfl) rfl ?_
    refine SQ.y (OV.move rfl) rfl ?_
    refine SQ.y (OV.idx1 _ u47 se47 rfl rfl rfl (by omega)) rfl ?_
    refine SQ.y (OV.loadOld sc21 rfl H.n6 hsx) rfl ?_
    refine SQ.y (OV.move rfl) rfl ?_
    refine SQ.y (OV.move rfl) rfl ?_
    refine SQ.y (OV.add rfl rfl (wrap_i32 (by omega) (by omega))) rfl ?_
    refine SQ.y (OV.idx1 (x + 1) u47 se47 rfl rfl rfl (by omega)) rfl ?_
    refine SQ.y (OV.loadOld sc21 rfl H.n6 hsx1) rfl ?_
    refine SQ.y (OV.sliceSlice (D.st x) (D.st (x + 1)) u47 hi21 hs21 rfl rfl rfl rfl rfl (by omega) hst.2 hoff) rfl ?_
    refine SQ.y (OV.assign rfl) rfl ?_
    refine SQ.nil ?_
    refine SC.then ?_
    refine SC.seq ?_
    refine SC.region ?_
    refine SL.y (OV.assign rfl) rfl ?_
    refine SL.y (OV.assign rfl) rfl ?_
    refine SL.y (OV.assign rfl) rfl ?_
    refine SL.nil ?_
    refine SC.then ?_
    refine SC.seq ?_
    refine SC.seq ?_
    refine SC.region ?_
    refine SL.y (OV.move rfl) rfl ?_
    refine SL.y (OV.len u47 rfl) rfl ?_
    refine SL.y (OV.move rfl) rfl ?_
    refine SL.nil ?_
    refine SC.then ?_
    refine SC.weaken ?_ ?_ (loop3 (b13 := b13) (b14 := b14) (b15 := b15) (x := x) (off := off) (c' := D.cp - D.st x) (len := D.st (x + 1) - D.st x) (st := (D.f2 x).steps) (se := (D.f2 x).searched) (co := (D.f2 x).counted) H hlen (by omega) hlt hpos fun s3 hs3 => ?_)
    · exact (by repeat' (first | exact trivial | refine ⟨rfl, ?_⟩))
    · exact (List.Sublist.refl _)
    refine SC.then ?_
    refine SC.seq ?_
    refine SC.region ?_
    refine SL.y (OV.assign rfl) rfl ?_
    refine SL.nil ?_
    refine SC.then ?_
    refine SC.seq ?_
    refine SC.region ?_
    refine SL.y (OV.move rfl) rfl ?_
    refine SL.y (OV.len u47 rfl) rfl ?_
    refine SL.y (OV.move rfl) rfl ?_
    refine SL.nil ?_
    refine SC.then ?_
    refine SC.weaken ?_ ?_ (loop4 (b13 := b13) (b14 := b14) (b15 := b15) (x := x) (off := off) (c' := D.cp - D.st x) (len := D.st (x + 1) - D.st x) (sw := s3.written) (sa := s3.alone) (s0 := ⟨false, (D.f2 x).steps, (D.f2 x).searched, (D.f2 x).counted⟩) H (by omega) hlen (by omega) hlt hpos fun s4 hs4 => ?_)
    · exact (by repeat' (first | exact trivial | refine ⟨rfl, ?_⟩))
    · exact (List.Sublist.refl _)
    refine SE.nb ?_
    refine SC.then ?_
    refine SC.region ?_
    refine SL.y (OV.add rfl rfl (wrap_i64 (by omega) (by omega))) rfl ?_
    refine SL.y (OV.move rfl) rfl ?_
    refine SL.nil ?_
    refine SE.round (x + 1) (by omega) (by omega) (by repeat' (first | exact trivial | refine ⟨rfl, ?_⟩)) ?_
    subst hs3
    subst hs4
    rw [hf2]
    unfold step2
    rw [hll]
    exact List.Sublist.refl _
  · refine SC.exit ?_
    refine SE.thenE (SE.thenE (SE.inBlock ?_))
    have : x = D.I := by omega
    subst this
    exact SE.weaken (by repeat' (first | exact trivial | refine ⟨rfl, ?_⟩)) (List.Sublist.refl _) h

/-- the nodes of the search are numbered -/
theorem loop5 (H : AH D w0) {st se co : Nat → Int} (h : SE (Q .normal) Yba.f11.ntmps ((30, .int .i64 (fold5 se D.C).nodes) :: EA D b13 b14 b15) w0 [D.bn, D.bs] (MA D D.nd b13 b14 b15 st (fold5 se D.C).searched co)) :
    SC Yba.prog (sub [1, 1, 1, 1, 1, 1, 1, 0, 1] (Yba.f11.body.getD .skip)) Q Yba.f11.ntmps ((30, .int .i64 (0 : Nat)) :: (189, .slice (some ⟨b14, 0, none⟩) D.C D.C) :: (190, .int .i64 D.C) :: (191, .int .i64 (0 : Nat)) :: EA D b13 b14 b15) w0 [D.bn, D.bs] (MA D D.nd b13 b14 b15 st se co) := by
  have hC := H.Cle
  refine SC.block ?_
  refine SC.loop (fun k : Nat => (30, .int .i64 (fold5 se k).nodes) :: (189, .slice (some ⟨b14, 0, none⟩) D.C D.C) :: (190, .int .i64 D.C) :: (191, .int .i64 k) :: EA D b13 b14 b15) (fun k => MA D D.nd b13 b14 b15 st (fold5 se k).searched co) (fun k => k ≤ D.C) (fun k => D.C - k) 0 (Nat.zero_le _) (by repeat' (first | exact trivial | refine ⟨rfl, ?_⟩)) (List.Sublist.refl _) ?_
  intro k hk
  have hnk := fold5_nodes se k
  have hs5 := fold5_succ se k
  generalize hfk : fold5 se k = s at *
  refine SC.seq ?_
  refine SC.region ?_
  refine SL.y (OV.lss rfl rfl) rfl ?_
  refine SL.nil ?_
  refine SC.then ?_
  refine SC.seq ?_
  refine SC.condP rfl (fun hlt => ?_) (fun hge => ?_)
  · refine SC.skip ?_
    refine SC.then ?_
    refine SC.seq ?_
    refine SC.block ?_
    refine SC.seq ?_
    refine SC.region ?_
    refine SL.y (OV.move rfl) rfl ?_
    refine SL.y (OV.idx1 _ u47 se47 rfl rfl rfl (by omega)) rfl ?_
    refine SL.y (OV.loadI 3 sc21 rfl rfl (by omega)) rfl ?_
    refine SL.y (OV.assign rfl) rfl ?_
    refine SL.y (OV.assign rfl) rfl ?_
    refine SL.nil ?_
    refine SC.then ?_
    refine SC.seq ?_
    refine SC.region ?_
    refine SL.y (OV.move rfl) rfl ?_
    refine SL.y (OV.geq rfl rfl) rfl ?_
    refine SL.nil ?_
    refine SC.then ?_
    refine SC.condP rfl (fun hv => ?_) (fun hv => ?_)
    · skip
      refine SC.seq ?_
      refine SC.region ?_
      refine SL.y (OV.move rfl) rfl ?_
      refine SL.y (OV.move rfl) rfl ?_
      refine SL.y (OV.move rfl) rfl ?_
      refine SL.y (OV.conv u3 u21 rfl (wrap_i32 (by omega) (by omega))) rfl ?_
      refine SL.y (OV.idx1 _ u47 se47 rfl rfl rfl (by omega)) rfl ?_
      refine SL.s (OS.storeI 3 sz21 rfl rfl rfl (by omega)) ?_
      refine SL.nil ?_
      refine SC.then ?_
      refine SC.region ?_
      refine SL.y (OV.move rfl) rfl ?_
      refine SL.y (OV.add rfl rfl (wrap_i64 (by omega) (by omega))) rfl ?_
      refine SL.y (OV.assign rfl) rfl ?_
      refine SL.nil ?_
      refine SE.nb ?_
      refine SC.then ?_
      refine SC.region ?_
      refine SL.y (OV.add rfl rfl (wrap_i64 (by omega) (by omega))) rfl ?_
      refine SL.y (OV.move rfl) rfl ?_
      refine SL.nil ?_
      unfold step5 at hs5
      rw [if_pos hv] at hs5
      refine SE.round (k + 1) (by omega) (by omega) ?_ ?_
      · rw [hs5]; exact (by repeat' (first | exact trivial | refine ⟨rfl, ?_⟩))
      · rw [hs5]; exact (List.Sublist.refl _)
    · refine SC.skip ?_
      refine SE.nb ?_
      refine SC.then ?_
      refine SC.region ?_
      refine SL.y (OV.add rfl rfl (wrap_i64 (by omega) (by omega))) rfl ?_
      refine SL.y (OV.move rfl) rfl ?_
      refine SL.nil ?_
      unfold step5 at hs5
      rw [if_neg hv] at hs5
      refine SE.round (k + 1) (by omega) (by omega) ?_ ?_
      · rw [hs5]; exact (by repeat' (first | exact trivial | refine ⟨rfl, ?_⟩))
      · rw [hs5]; exact (List.Sublist.refl _)
  · refine SC.exit ?_
    refine SE.thenE (SE.thenE (SE.inBlock ?_))
    have : k = D.C := by omega
    subst this
    rw [hfk] at h
    exact SE.weaken (by repeat' (first | exact trivial | refine ⟨rfl, ?_⟩)) (List.Sublist.refl _) h
end
end Go.Proofs.Ybulkdrci.Apart
