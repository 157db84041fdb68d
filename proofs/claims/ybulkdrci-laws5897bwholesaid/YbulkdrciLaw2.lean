import Derived.Test.YbulkdrciLaw1
namespace Go.Proofs.Ybulkdrci.LawB
open Go Go.RowKit Go.Proofs.Ybulkdrci Go.Proofs.Ybulkdrci.Sym Go.Proofs.Ybulkdrci.Pl
set_option linter.unusedVariables false
set_option linter.unusedSimpArgs false

/-- The law's own blocks. -/
structure BK where
  (bh btx bit bn bt bp cp bst bix b31 c31 b32 c32 b33 c33 b34 c34 b35 c35 b36 c36 b37 c37 b39 b40 : Nat)
  (spt spp s31 s32 s33 s34 s35 s36 s37 : List Value)
abbrev np (D : LB) : Nat := (posTo D.n D.it D.I).length
abbrev EX (D : LB) (B : BK) : Env := [(13, .int .i64 D.T), (14, .int .i64 D.I), (15, .int .i64 D.n), (16, .slice (some ⟨B.bh, 0, none⟩) D.n D.n), (17, .slice (some ⟨B.btx, 0, none⟩) D.n D.n), (18, .slice (some ⟨B.bit, 0, none⟩) D.n D.n), (23, .slice (some ⟨B.bn, 0, none⟩) D.T D.T), (24, .slice (some ⟨B.bt, 0, none⟩) (C D) D.T),
  (26, .slice (some ⟨B.bp, 0, none⟩) (np D) B.cp), (27, .slice (some ⟨B.bst, 0, none⟩) (D.I + 1) (D.I + 1)), (30, .pointer (some ⟨B.bix, 0, none⟩)), (31, .slice (some ⟨B.b31, 0, none⟩) (C D) B.c31), (32, .slice (some ⟨B.b32, 0, none⟩) (np D) B.c32), (33, .slice (some ⟨B.b33, 0, none⟩) (D.I + 1) B.c33), (34, .slice (some ⟨B.b34, 0, none⟩) D.n B.c34),
  (35, .slice (some ⟨B.b35, 0, none⟩) D.n B.c35), (36, .slice (some ⟨B.b36, 0, none⟩) D.n B.c36), (37, .slice (some ⟨B.b37, 0, none⟩) D.T B.c37), (38, .int .i64 (C D)), (39, .slice (some ⟨B.b39, 0, none⟩) (C D) (C D)), (40, .slice (some ⟨B.b40, 0, none⟩) (C D) (C D))]
abbrev ixc (D : LB) (B : BK) : List Value := [.slice (some ⟨B.bh, 0, none⟩) D.n D.n, .slice (some ⟨B.btx, 0, none⟩) D.n D.n, .slice (some ⟨B.bit, 0, none⟩) D.n D.n, .slice none 0 0, .slice none 0 0, .int .i64 D.I]
abbrev MX (D : LB) (B : BK) (isN : Nat → Bool) (st : Nat → Int) : List Blk := [(B.bh, hist D D.n), (B.btx, irow 21 .i32 D.n fun q => (D.tx q : Int)), (B.bit, irow 21 .i32 D.n fun q => (D.it q : Int)), (B.bn, irow 21 .i32 D.T (nd D)), (B.bt, lrow 3 .i64 (txnsTo D.alive D.T) B.spt), (B.bp, lrow 21 .i32 (natsI (posTo D.n D.it D.I)) B.spp), (B.bst, irow 21 .i32 (D.I + 1) (stt D)), (B.bix, row 56 (ixc D B)),
  (B.b31, lrow 3 .i64 (txnsTo D.alive D.T) B.s31), (B.b32, lrow 21 .i32 (natsI (posTo D.n D.it D.I)) B.s32), (B.b33, arow 21 .i32 (D.I + 1) (stt D) B.s33), (B.b34, row 50 (tab (D.n * 3) (hfill D D.n) ++ B.s34)), (B.b35, arow 21 .i32 D.n (fun q => (D.tx q : Int)) B.s35), (B.b36, arow 21 .i32 D.n (fun q => (D.it q : Int)) B.s36), (B.b37, arow 21 .i32 D.T (nd D) B.s37), (B.b39, brow 4 (C D) isN), (B.b40, irow 61 .u32 (C D) st)]

theorem hist_kind (D : LB) {p : Nat} (hp : p < D.n) : hfill D D.n (0 + p * 3 + 0) = .int .u8 (D.kd p) := by
  unfold hfill hcell
  have e1 : (0 + p * 3 + 0) % 3 = 0 := by omega
  have e2 : (0 + p * 3 + 0) / 3 = p := by omega
  rw [if_pos (by omega), if_pos e1, e2]

section
variable {D : LB} {B : BK} {w0 : World} {Q : Exit → Act → World → Prop}

theorem loop5 (H : LH D w0) (h : SE (Q .normal) Yba.f4.ntmps (EX D B) w0 [] (MX D B (fun _ => false) fun _ => 1)) :
    SC Yba.prog (sub [1, 1, 1, 1, 1, 1, 1, 1, 1, 1, 1, 1, 1, 1, 1, 1, 1, 1, 1, 1, 1, 1, 1, 1, 1, 1, 1, 0, 1] (Yba.f4.body.getD .skip)) Q Yba.f4.ntmps ((41, .int .i64 (0 : Nat)) :: EX D B) w0 [] (MX D B (fun _ => false) fun _ => 0) := by
  have hT := H.T6
  have hC : C D ≤ D.T := cntTo_le D.alive D.T
  refine SC.block ?_
  refine SC.loop (fun v : Nat => (41, .int .i64 v) :: EX D B) (fun v => MX D B (fun _ => false) fun q => if q < v then 1 else 0) (fun v => v ≤ C D) (fun v => C D - v) 0 (Nat.zero_le _) (by repeat' (first | exact trivial | refine ⟨rfl, ?_⟩)) (List.Sublist.refl _) ?_
  intro v hv
  refine SC.seq ?_
  refine SC.seq ?_
  refine SC.region ?_
  refine SL.y (OV.move rfl) rfl ?_
  refine SL.y (OV.move rfl) rfl ?_
  refine SL.y (OV.lss rfl rfl) rfl ?_
  refine SL.nil ?_
  refine SC.then ?_
  refine SC.condP rfl (fun hlt => ?_) (fun hge => ?_)
  · refine SC.skip ?_
    refine SC.then ?_
    refine SC.seq ?_
    refine SC.block ?_
    refine SC.region ?_
    refine SL.y (OV.move rfl) rfl ?_
    refine SL.y (OV.move rfl) rfl ?_
    refine SL.y (OV.idx1 _ u60 se60 rfl rfl rfl (by omega)) rfl ?_
    refine SL.s (OS.storeI 16 sz61 rfl rfl rfl (by omega)) ?_
    refine SL.nil ?_
    refine SE.nb ?_
    refine SC.then ?_
    refine SC.region ?_
    refine SL.y (OV.move rfl) rfl ?_
    refine SL.y (OV.add rfl rfl (wrap_i64 (by omega) (by omega))) rfl ?_
    refine SL.y (OV.assign rfl) rfl ?_
    refine SL.nil ?_
    refine SE.round (v + 1) (by omega) (by omega) (by repeat' (first | exact trivial | refine ⟨rfl, ?_⟩)) ?_
    rw [← upd_fillc]
    exact (List.Sublist.refl _)
  · have hvC : v = C D := by omega
    refine SC.exit ?_
    refine SE.thenE (SE.thenE (SE.inBlock ?_))
    refine SE.weaken (by repeat' (first | exact trivial | refine ⟨rfl, ?_⟩)) ?_ h
    rw [hvC]
    unfold MX
    rw [irow_fill (f := fun _ => 1)]
    exact (List.Sublist.refl _)

abbrev E7 (D : LB) (B : BK) (x b17 b18 b19 : Nat) (any : Bool) (cnt : Nat) : Env := (42, .int .i64 x) :: (43, .bool any) :: (44, .slice (some ⟨b17, 0, none⟩) D.T D.T) :: (45, .slice (some ⟨b18, 0, none⟩) D.T D.T) :: (46, .slice (some ⟨b19, 0, none⟩) D.T D.T) :: (47, .int .i64 cnt) :: EX D B
abbrev M7 (D : LB) (B : BK) (isN : Nat → Bool) (st : Nat → Int) (b17 b18 b19 : Nat) (touch wr rbw : Nat → Bool) : List Blk := MX D B isN st ++ [(b17, brow 4 D.T touch), (b18, brow 4 D.T wr), (b19, brow 4 D.T rbw)]
abbrev f7m (D : LB) (x k : Nat) : S7m := fold7m D.it D.tx D.kd (nd D) x k

set_option maxHeartbeats 1000000 in
theorem loop7 (H : LH D w0) {x b17 b18 b19 : Nat} (hx : x < D.I) {isN : Nat → Bool} {st : Nat → Int}
    (h : SE (Q .normal) Yba.f4.ntmps (E7 D B x b17 b18 b19 (f7m D x D.n).any (f7m D x D.n).cnt) w0 [] (M7 D B isN st b17 b18 b19 (f7m D x D.n).touch (f7m D x D.n).wr (f7m D x D.n).rbw)) :
    SC Yba.prog (sub [1, 1, 1, 1, 1, 1, 1, 1, 1, 1, 1, 1, 1, 1, 1, 1, 1, 1, 1, 1, 1, 1, 1, 1, 1, 1, 1, 1, 0, 1, 2, 2, 1, 0, 2, 1, 1, 1, 1, 1, 0, 1] (Yba.f4.body.getD .skip)) Q Yba.f4.ntmps ((48, .int .i64 (0 : Nat)) :: E7 D B x b17 b18 b19 false (0 : Nat)) w0 [] (M7 D B isN st b17 b18 b19 (fun _ => false) (fun _ => false) (fun _ => false)) := by
  obtain ⟨i50, hi50, _, hs50, _⟩ := info_parts info50
  have hT := H.T6
  have hn := H.nle
  have hI := H.I5
  refine SC.block ?_
  refine SC.loopAB (fun (p : Nat) (s : S7m) => (48, .int .i64 p) :: E7 D B x b17 b18 b19 s.any s.cnt) (fun p s => M7 D B isN st b17 b18 b19 s.touch s.wr s.rbw) (fun p s => p ≤ D.n ∧ s = f7m D x p) (fun p _ => D.n - p) 0 ⟨false, fun _ => false, fun _ => false, fun _ => false, 0⟩ ⟨Nat.zero_le _, rfl⟩ (by repeat' (first | exact trivial | refine ⟨rfl, ?_⟩)) (List.Sublist.refl _) ?_
  rintro p s ⟨hp, hs⟩
  refine SC.seq ?_
  refine SC.seq ?_
  refine SC.region ?_
  refine SL.y (OV.move rfl) rfl ?_
  refine SL.y (OV.move rfl) rfl ?_
  refine SL.y (OV.lss rfl rfl) rfl ?_
  refine SL.nil ?_
  refine SC.then ?_
  refine SC.condP rfl (fun hlt => ?_) (fun hge => ?_)
  · have hlt' : p < D.n := by omega
    have hfs : f7m D x (p + 1) = step7m D.it D.tx D.kd (nd D) x s p := by rw [hs]; exact fold7m_succ _ _ _ _ _ _
    have hcnt : s.cnt ≤ p := by rw [hs]; exact (fold7m_touch D.it D.tx D.kd (nd D) x p).2
    have htT := H.txT p
    refine SC.skip ?_
    refine SC.then ?_
    refine SC.seq ?_
    refine SC.block ?_
    refine SC.seq ?_
    refine SC.seq ?_
    refine SC.region ?_
    refine SL.y (OV.move rfl) rfl ?_
    refine SL.y (OV.move rfl) rfl ?_
    refine SL.y (OV.idx1 _ u47 se47 rfl rfl rfl (by omega)) rfl ?_
    refine SL.y (OV.loadI 2 sc21 rfl rfl (by omega)) rfl ?_
    refine SL.y (OV.move rfl) rfl ?_
    refine SL.y (OV.conv u3 u21 rfl (wrap_i32 (by omega) (by omega))) rfl ?_
    refine SL.y (OV.neq rfl rfl) rfl ?_
    refine SL.nil ?_
    refine SC.then ?_
    refine SC.condP rfl (fun he => ?_) (fun he => ?_)
    · refine SC.exit ?_
      refine SE.thenE (SE.inBlock ?_)
      refine SC.then ?_
      refine SC.region ?_
      refine SL.y (OV.move rfl) rfl ?_
      refine SL.y (OV.add rfl rfl (wrap_i64 (by omega) (by omega))) rfl ?_
      refine SL.y (OV.assign rfl) rfl ?_
      refine SL.nil ?_
      refine SE.roundAB (p + 1) s ⟨by omega, ?_⟩ (by omega) (by repeat' (first | exact trivial | refine ⟨rfl, ?_⟩)) (List.Sublist.refl _)
      rw [hfs]
      unfold step7m
      rw [if_pos (by omega)]
    have he' : ¬ D.it p ≠ x := by omega
    refine SC.skip ?_
    refine SC.then ?_
    refine SC.seq ?_
    refine SC.region ?_
    refine SL.y (OV.move rfl) rfl ?_
    refine SL.y (OV.move rfl) rfl ?_
    refine SL.y (OV.idx1 _ u47 se47 rfl rfl rfl (by omega)) rfl ?_
    refine SL.y (OV.loadI 1 sc21 rfl rfl (by omega)) rfl ?_
    refine SL.y (OV.assign rfl) rfl ?_
    refine SL.nil ?_
    refine SC.then ?_
    refine SC.seq ?_
    refine SC.seq ?_
    refine SC.region ?_
    refine SL.y (OV.move rfl) rfl ?_
    refine SL.y (OV.move rfl) rfl ?_
    refine SL.y (OV.idx1 (D.tx p) u47 se47 rfl rfl rfl (by omega)) rfl ?_
    refine SL.y (OV.loadA 14 sc21 rfl rfl (by omega)) rfl ?_
    refine SL.y (OV.lss rfl rfl) rfl ?_
    refine SL.nil ?_
    refine SC.then ?_
    refine SC.condP rfl (fun hv => ?_) (fun hv => ?_)
    · refine SC.exit ?_
      refine SE.thenE (SE.inBlock ?_)
      refine SC.then ?_
      refine SC.region ?_
      refine SL.y (OV.move rfl) rfl ?_
      refine SL.y (OV.add rfl rfl (wrap_i64 (by omega) (by omega))) rfl ?_
      refine SL.y (OV.assign rfl) rfl ?_
      refine SL.nil ?_
      refine SE.roundAB (p + 1) s ⟨by omega, ?_⟩ (by omega) (by repeat' (first | exact trivial | refine ⟨rfl, ?_⟩)) (List.Sublist.refl _)
      rw [hfs]
      unfold step7m
      rw [if_neg he', if_pos hv]
    refine SC.skip ?_
    refine SC.then ?_
    obtain ⟨any, touch, wr, rbw, cnt⟩ := s
    unfold step7m at hfs
    rw [if_neg he', if_neg hv] at hfs
    refine SC.cutSt ((49, .int .i32 (D.tx p)) :: (48, .int .i64 p) :: E7 D B x b17 b18 b19 any (if touch (D.tx p) = true then cnt else cnt + 1)) (M7 D B isN st b17 b18 b19 (if touch (D.tx p) = true then touch else upd touch (D.tx p) true) wr rbw) ?_ ?_
    · skip
      refine SC.seq ?_
      refine SC.region ?_
      refine SL.y (OV.move rfl) rfl ?_
      refine SL.y (OV.move rfl) rfl ?_
      refine SL.y (OV.idx1 (D.tx p) u23 se23 rfl rfl rfl (by omega)) rfl ?_
      refine SL.y (OV.loadB 17 sc4 rfl rfl (by omega)) rfl ?_
      refine SL.y (OV.not rfl) rfl ?_
      refine SL.nil ?_
      refine SC.then ?_
      refine SC.cond (b := !(touch (D.tx p))) rfl (fun ht => ?_) (fun ht => ?_)
      · have ht' : ¬ touch (D.tx p) = true := by simpa using ht
        refine SC.seq ?_
        refine SC.region ?_
        refine SL.y (OV.move rfl) rfl ?_
        refine SL.y (OV.move rfl) rfl ?_
        refine SL.y (OV.idx1 (D.tx p) u23 se23 rfl rfl rfl (by omega)) rfl ?_
        refine SL.s (OS.storeB 17 sz4 rfl rfl rfl (by omega)) ?_
        refine SL.nil ?_
        refine SC.then ?_
        refine SC.region ?_
        refine SL.y (OV.move rfl) rfl ?_
        refine SL.y (OV.add rfl rfl (wrap_i64 (by omega) (by omega))) rfl ?_
        refine SL.y (OV.assign rfl) rfl ?_
        refine SL.nil ?_
        refine SE.toSt ?_ ?_
        · rw [if_neg ht']; exact (by repeat' (first | exact trivial | refine ⟨rfl, ?_⟩))
        · rw [if_neg ht']; exact (List.Sublist.refl _)
      · have ht' : touch (D.tx p) = true := by simpa using ht
        refine SC.skip ?_
        refine SE.toSt ?_ ?_
        · rw [if_pos ht']; exact (by repeat' (first | exact trivial | refine ⟨rfl, ?_⟩))
        · rw [if_pos ht']; exact (List.Sublist.refl _)
    dsimp only at hfs
    generalize (if touch (D.tx p) = true then cnt else cnt + 1) = cnt' at *
    generalize (if touch (D.tx p) = true then touch else upd touch (D.tx p) true) = touch' at *
    refine SC.seq ?_
    refine SC.region ?_
    refine SL.y (OV.move rfl) rfl ?_
    refine SL.y (OV.move rfl) rfl ?_
    refine SL.y (OV.idx p u46 hi50 hs50 rfl rfl rfl (by omega)) rfl ?_
    refine SL.y (OV.fld fo50_0 rfl) rfl ?_
    refine SL.y (OV.loadT 0 sc48 rfl rfl (by omega) (hist_kind D hlt')) rfl ?_
    refine SL.y (OV.eql rfl rfl) rfl ?_
    refine SL.nil ?_
    refine SC.then ?_
    refine SC.condP rfl (fun hk => ?_) (fun hk => ?_)
    · rw [if_pos hk] at hfs
      refine SC.seq ?_
      refine SC.region ?_
      refine SL.y (OV.move rfl) rfl ?_
      refine SL.y (OV.move rfl) rfl ?_
      refine SL.y (OV.idx1 (D.tx p) u23 se23 rfl rfl rfl (by omega)) rfl ?_
      refine SL.s (OS.storeB 18 sz4 rfl rfl rfl (by omega)) ?_
      refine SL.nil ?_
      refine SC.then ?_
      refine SC.region ?_
      refine SL.y (OV.assign rfl) rfl ?_
      refine SL.nil ?_
      refine SE.nb ?_
      refine SC.then ?_
      refine SC.region ?_
      refine SL.y (OV.move rfl) rfl ?_
      refine SL.y (OV.add rfl rfl (wrap_i64 (by omega) (by omega))) rfl ?_
      refine SL.y (OV.assign rfl) rfl ?_
      refine SL.nil ?_
      exact SE.roundAB (p + 1) ⟨true, touch', upd wr (D.tx p) true, rbw, cnt'⟩ ⟨by omega, hfs.symm⟩ (by omega) (by repeat' (first | exact trivial | refine ⟨rfl, ?_⟩)) (List.Sublist.refl _)
    · rw [if_neg hk] at hfs
      refine SC.seq ?_
      refine SC.region ?_
      refine SL.y (OV.move rfl) rfl ?_
      refine SL.y (OV.move rfl) rfl ?_
      refine SL.y (OV.idx1 (D.tx p) u23 se23 rfl rfl rfl (by omega)) rfl ?_
      refine SL.y (OV.loadB 18 sc4 rfl rfl (by omega)) rfl ?_
      refine SL.y (OV.not rfl) rfl ?_
      refine SL.nil ?_
      refine SC.then ?_
      refine SC.cond (b := !(wr (D.tx p))) rfl (fun ht => ?_) (fun ht => ?_)
      · have ht' : ¬ wr (D.tx p) = true := by simpa using ht
        rw [if_neg ht'] at hfs
        refine SC.region ?_
        refine SL.y (OV.move rfl) rfl ?_
        refine SL.y (OV.move rfl) rfl ?_
        refine SL.y (OV.idx1 (D.tx p) u23 se23 rfl rfl rfl (by omega)) rfl ?_
        refine SL.s (OS.storeB 19 sz4 rfl rfl rfl (by omega)) ?_
        refine SL.nil ?_
        refine SE.nb ?_
        refine SC.then ?_
        refine SC.region ?_
        refine SL.y (OV.move rfl) rfl ?_
        refine SL.y (OV.add rfl rfl (wrap_i64 (by omega) (by omega))) rfl ?_
        refine SL.y (OV.assign rfl) rfl ?_
        refine SL.nil ?_
        exact SE.roundAB (p + 1) ⟨any, touch', wr, upd rbw (D.tx p) true, cnt'⟩ ⟨by omega, hfs.symm⟩ (by omega) (by repeat' (first | exact trivial | refine ⟨rfl, ?_⟩)) (List.Sublist.refl _)
      · have ht' : wr (D.tx p) = true := by simpa using ht
        rw [if_pos ht'] at hfs
        refine SC.skip ?_
        refine SE.nb ?_
        refine SC.then ?_
        refine SC.region ?_
        refine SL.y (OV.move rfl) rfl ?_
        refine SL.y (OV.add rfl rfl (wrap_i64 (by omega) (by omega))) rfl ?_
        refine SL.y (OV.assign rfl) rfl ?_
        refine SL.nil ?_
        exact SE.roundAB (p + 1) ⟨any, touch', wr, rbw, cnt'⟩ ⟨by omega, hfs.symm⟩ (by omega) (by repeat' (first | exact trivial | refine ⟨rfl, ?_⟩)) (List.Sublist.refl _)
  · have : p = D.n := by omega
    subst this
    subst hs
    refine SC.exit ?_
    refine SE.thenE (SE.thenE (SE.inBlock ?_))
    exact SE.weaken (by repeat' (first | exact trivial | refine ⟨rfl, ?_⟩)) (List.Sublist.refl _) h

set_option maxHeartbeats 1000000 in
theorem loop8 (H : LH D w0) {x b17 b18 b19 : Nat} {r : S7m} (htch : ∀ t, r.touch t = true → 0 ≤ nd D t) {s0 : S8m}
    (h : SE (Q .normal) Yba.f4.ntmps ((42, .int .i64 x) :: EX D B) w0 [] (MX D B (fold8m (nd D) r s0 D.T).isN (fold8m (nd D) r s0 D.T).steps)) :
    SC Yba.prog (sub [1, 1, 1, 1, 1, 1, 1, 1, 1, 1, 1, 1, 1, 1, 1, 1, 1, 1, 1, 1, 1, 1, 1, 1, 1, 1, 1, 1, 0, 1, 2, 2, 1, 0, 2, 1, 1, 1, 1, 1, 1, 1] (Yba.f4.body.getD .skip)) Q Yba.f4.ntmps ((50, .int .i64 (0 : Nat)) :: E7 D B x b17 b18 b19 r.any r.cnt) w0 [] (M7 D B s0.isN s0.steps b17 b18 b19 r.touch r.wr r.rbw) := by
  have hT := H.T6
  refine SC.block ?_
  refine SC.loopAB (fun (t : Nat) (s : S8m) => (50, .int .i64 t) :: E7 D B x b17 b18 b19 r.any r.cnt) (fun t s => M7 D B s.isN s.steps b17 b18 b19 r.touch r.wr r.rbw) (fun t s => t ≤ D.T ∧ s = fold8m (nd D) r s0 t) (fun t _ => D.T - t) 0 s0 ⟨Nat.zero_le _, rfl⟩ (by repeat' (first | exact trivial | refine ⟨rfl, ?_⟩)) (List.Sublist.refl _) ?_
  rintro t s ⟨ht, hs⟩
  refine SC.seq ?_
  refine SC.seq ?_
  refine SC.region ?_
  refine SL.y (OV.move rfl) rfl ?_
  refine SL.y (OV.move rfl) rfl ?_
  refine SL.y (OV.lss rfl rfl) rfl ?_
  refine SL.nil ?_
  refine SC.then ?_
  refine SC.condP rfl (fun hlt => ?_) (fun hge => ?_)
  · have hlt' : t < D.T := by omega
    have hfs : fold8m (nd D) r s0 (t + 1) = step8m (nd D) r s t := by rw [hs]; exact fold8m_succ _ _ _ _
    have hr := ndOf_range D.alive hlt'
    have hrC : nd D t < (C D : Int) := hr.2
    obtain ⟨any, touch, wr, rbw, cnt⟩ := r
    dsimp only at htch
    refine SC.skip ?_
    refine SC.then ?_
    refine SC.seq ?_
    refine SC.block ?_
    refine SC.seq ?_
    refine SC.seq ?_
    refine SC.region ?_
    refine SL.y (OV.move rfl) rfl ?_
    refine SL.y (OV.move rfl) rfl ?_
    refine SL.y (OV.idx1 _ u23 se23 rfl rfl rfl (by omega)) rfl ?_
    refine SL.y (OV.loadB 17 sc4 rfl rfl (by omega)) rfl ?_
    refine SL.y (OV.not rfl) rfl ?_
    refine SL.nil ?_
    refine SC.then ?_
    unfold step8m at hfs
    dsimp only at hfs
    refine SC.cond (b := !(touch t)) rfl (fun h1 => ?_) (fun h1 => ?_)
    · have h1' : touch t = false := by simpa using h1
      rw [if_pos h1'] at hfs
      refine SC.exit ?_
      refine SE.thenE (SE.inBlock ?_)
      refine SC.then ?_
      refine SC.region ?_
      refine SL.y (OV.move rfl) rfl ?_
      refine SL.y (OV.add rfl rfl (wrap_i64 (by omega) (by omega))) rfl ?_
      refine SL.y (OV.assign rfl) rfl ?_
      refine SL.nil ?_
      exact SE.roundAB (t + 1) s ⟨by omega, hfs.symm⟩ (by omega) (by repeat' (first | exact trivial | refine ⟨rfl, ?_⟩)) (List.Sublist.refl _)
    have h1' : touch t = true := by simpa using h1
    have h0 := htch t h1'
    have hvn : nd D t = ((nd D t).toNat : Int) := by omega
    have hvC : (nd D t).toNat < C D := by omega
    rw [if_neg (by simp [h1'])] at hfs
    refine SC.skip ?_
    refine SC.then ?_
    refine SC.seq ?_
    refine SC.region ?_
    refine SL.y (OV.move rfl) rfl ?_
    refine SL.y (OV.move rfl) rfl ?_
    refine SL.y (OV.idx1 _ u47 se47 rfl rfl rfl (by omega)) rfl ?_
    refine SL.y (OV.loadA 14 sc21 rfl rfl (by omega)) rfl ?_
    refine SL.y (OV.assign rfl) rfl ?_
    refine SL.nil ?_
    refine SC.then ?_
    generalize (nd D t).toNat = v at *
    rw [hvn]
    have goB : ∀ (hno : ¬ (any = true ∧ 2 ≤ cnt)), fold8m (nd D) ⟨any, touch, wr, rbw, cnt⟩ s0 (t + 1) = (if wr t = true then (if rbw t = true then { s with steps := upd (upd s.steps v (IntKind.u32.wrap (s.steps v + 2))) v (IntKind.u32.wrap (upd s.steps v (IntKind.u32.wrap (s.steps v + 2)) v + 1)) } else { s with steps := upd s.steps v (IntKind.u32.wrap (s.steps v + 2)) }) else { s with steps := upd s.steps v (IntKind.u32.wrap (s.steps v + 1)) } : S8m) := by
      intro hno
      rw [hfs, if_neg hno]
    cases any
    · skip
      refine SC.seq ?_
      refine SC.region ?_
      refine SL.y (OV.move rfl) rfl ?_
      refine SL.y (OV.move rfl) rfl ?_
      refine SL.skip rfl rfl rfl ?_
      refine SL.skip rfl rfl rfl ?_
      refine SL.y (OV.pickF rfl rfl) rfl ?_
      refine SL.nil ?_
      refine SC.then ?_
      refine SC.condF rfl ?_
      have hno : ¬ (false = true ∧ 2 ≤ cnt) := by simp
      have hfs2 := goB hno
      refine SC.seq ?_
      refine SC.region ?_
      refine SL.y (OV.move rfl) rfl ?_
      refine SL.y (OV.move rfl) rfl ?_
      refine SL.y (OV.idx1 _ u23 se23 rfl rfl rfl (by omega)) rfl ?_
      refine SL.y (OV.loadB 18 sc4 rfl rfl (by omega)) rfl ?_
      refine SL.nil ?_
      refine SC.then ?_
      refine SC.cond (b := wr t) rfl (fun h3 => ?_) (fun h3 => ?_)
      · rw [if_pos h3] at hfs2
        refine SC.seq ?_
        refine SC.region ?_
        refine SL.y (OV.move rfl) rfl ?_
        refine SL.y (OV.move rfl) rfl ?_
        refine SL.y (OV.idx1 v u60 se60 rfl rfl rfl (by omega)) rfl ?_
        refine SL.y (OV.loadI 16 sc61 rfl rfl (by omega)) rfl ?_
        refine SL.y (OV.add rfl rfl rfl) rfl ?_
        refine SL.y (OV.idx1 v u60 se60 rfl rfl rfl (by omega)) rfl ?_
        refine SL.s (OS.storeI 16 sz61 rfl rfl rfl (by omega)) ?_
        refine SL.nil ?_
        refine SC.then ?_
        refine SC.seq ?_
        refine SC.region ?_
        refine SL.y (OV.move rfl) rfl ?_
        refine SL.y (OV.move rfl) rfl ?_
        refine SL.y (OV.idx1 _ u23 se23 rfl rfl rfl (by omega)) rfl ?_
        refine SL.y (OV.loadB 19 sc4 rfl rfl (by omega)) rfl ?_
        refine SL.nil ?_
        refine SC.then ?_
        refine SC.cond (b := rbw t) rfl (fun h4 => ?_) (fun h4 => ?_)
        · rw [if_pos h4] at hfs2
          refine SC.region ?_
          refine SL.y (OV.move rfl) rfl ?_
          refine SL.y (OV.move rfl) rfl ?_
          refine SL.y (OV.idx1 v u60 se60 rfl rfl rfl (by omega)) rfl ?_
          refine SL.y (OV.loadI 16 sc61 rfl rfl (by omega)) rfl ?_
          refine SL.y (OV.add rfl rfl rfl) rfl ?_
          refine SL.y (OV.idx1 v u60 se60 rfl rfl rfl (by omega)) rfl ?_
          refine SL.s (OS.storeI 16 sz61 rfl rfl rfl (by omega)) ?_
          refine SL.nil ?_
          refine SE.nb ?_
          refine SC.then ?_
          refine SC.region ?_
          refine SL.y (OV.move rfl) rfl ?_
          refine SL.y (OV.add rfl rfl (wrap_i64 (by omega) (by omega))) rfl ?_
          refine SL.y (OV.assign rfl) rfl ?_
          refine SL.nil ?_
          exact SE.roundAB (t + 1) _ ⟨by omega, hfs2.symm⟩ (by omega) (by repeat' (first | exact trivial | refine ⟨rfl, ?_⟩)) (List.Sublist.refl _)
        · have h4' : ¬ rbw t = true := by simp [h4]
          rw [if_neg h4'] at hfs2
          refine SC.skip ?_
          refine SE.nb ?_
          refine SC.then ?_
          refine SC.region ?_
          refine SL.y (OV.move rfl) rfl ?_
          refine SL.y (OV.add rfl rfl (wrap_i64 (by omega) (by omega))) rfl ?_
          refine SL.y (OV.assign rfl) rfl ?_
          refine SL.nil ?_
          exact SE.roundAB (t + 1) _ ⟨by omega, hfs2.symm⟩ (by omega) (by repeat' (first | exact trivial | refine ⟨rfl, ?_⟩)) (List.Sublist.refl _)
      · have h3' : ¬ wr t = true := by simp [h3]
        rw [if_neg h3'] at hfs2
        refine SC.region ?_
        refine SL.y (OV.move rfl) rfl ?_
        refine SL.y (OV.move rfl) rfl ?_
        refine SL.y (OV.idx1 v u60 se60 rfl rfl rfl (by omega)) rfl ?_
        refine SL.y (OV.loadI 16 sc61 rfl rfl (by omega)) rfl ?_
        refine SL.y (OV.add rfl rfl rfl) rfl ?_
        refine SL.y (OV.idx1 v u60 se60 rfl rfl rfl (by omega)) rfl ?_
        refine SL.s (OS.storeI 16 sz61 rfl rfl rfl (by omega)) ?_
        refine SL.nil ?_
        refine SE.nb ?_
        refine SC.then ?_
        refine SC.region ?_
        refine SL.y (OV.move rfl) rfl ?_
        refine SL.y (OV.add rfl rfl (wrap_i64 (by omega) (by omega))) rfl ?_
        refine SL.y (OV.assign rfl) rfl ?_
        refine SL.nil ?_
        exact SE.roundAB (t + 1) _ ⟨by omega, hfs2.symm⟩ (by omega) (by repeat' (first | exact trivial | refine ⟨rfl, ?_⟩)) (List.Sublist.refl _)
    · skip
      refine SC.seq ?_
      refine SC.region ?_
      refine SL.y (OV.move rfl) rfl ?_
      refine SL.y (OV.move rfl) rfl ?_
      refine SL.yg rfl rfl (OV.move rfl) rfl ?_
      refine SL.yg rfl rfl (OV.geq rfl rfl) rfl ?_
      refine SL.y (OV.pickT rfl rfl) rfl ?_
      refine SL.nil ?_
      refine SC.then ?_
      refine SC.condP rfl (fun h2 => ?_) (fun h2 => ?_)
      · rw [if_pos ⟨rfl, by dsimp only at h2; omega⟩] at hfs
        refine SC.region ?_
        refine SL.y (OV.move rfl) rfl ?_
        refine SL.y (OV.move rfl) rfl ?_
        refine SL.y (OV.idx1 v u23 se23 rfl rfl rfl (by omega)) rfl ?_
        refine SL.s (OS.storeB 15 sz4 rfl rfl rfl (by omega)) ?_
        refine SL.nil ?_
        refine SE.nb ?_
        refine SC.then ?_
        refine SC.region ?_
        refine SL.y (OV.move rfl) rfl ?_
        refine SL.y (OV.add rfl rfl (wrap_i64 (by omega) (by omega))) rfl ?_
        refine SL.y (OV.assign rfl) rfl ?_
        refine SL.nil ?_
        exact SE.roundAB (t + 1) { s with isN := upd s.isN v true } ⟨by omega, hfs.symm⟩ (by omega) (by repeat' (first | exact trivial | refine ⟨rfl, ?_⟩)) (List.Sublist.refl _)
      have hno : ¬ (true = true ∧ 2 ≤ cnt) := by dsimp only at h2; omega
      have hfs2 := goB hno
      refine SC.seq ?_
      refine SC.region ?_
      refine SL.y (OV.move rfl) rfl ?_
      refine SL.y (OV.move rfl) rfl ?_
      refine SL.y (OV.idx1 _ u23 se23 rfl rfl rfl (by omega)) rfl ?_
      refine SL.y (OV.loadB 18 sc4 rfl rfl (by omega)) rfl ?_
      refine SL.nil ?_
      refine SC.then ?_
      refine SC.cond (b := wr t) rfl (fun h3 => ?_) (fun h3 => ?_)
      · rw [if_pos h3] at hfs2
        refine SC.seq ?_
        refine SC.region ?_
        refine SL.y (OV.move rfl) rfl ?_
        refine SL.y (OV.move rfl) rfl ?_
        refine SL.y (OV.idx1 v u60 se60 rfl rfl rfl (by omega)) rfl ?_
        refine SL.y (OV.loadI 16 sc61 rfl rfl (by omega)) rfl ?_
        refine SL.y (OV.add rfl rfl rfl) rfl ?_
        refine SL.y (OV.idx1 v u60 se60 rfl rfl rfl (by omega)) rfl ?_
        refine SL.s (OS.storeI 16 sz61 rfl rfl rfl (by omega)) ?_
        refine SL.nil ?_
        refine SC.then ?_
        refine SC.seq ?_
        refine SC.region ?_
        refine SL.y (OV.move rfl) rfl ?_
        refine SL.y (OV.move rfl) rfl ?_
        refine SL.y (OV.idx1 _ u23 se23 rfl rfl rfl (by omega)) rfl ?_
        refine SL.y (OV.loadB 19 sc4 rfl rfl (by omega)) rfl ?_
        refine SL.nil ?_
        refine SC.then ?_
        refine SC.cond (b := rbw t) rfl (fun h4 => ?_) (fun h4 => ?_)
        · rw [if_pos h4] at hfs2
          refine SC.region ?_
          refine SL.y (OV.move rfl) rfl ?_
          refine SL.y (OV.move rfl) rfl ?_
          refine SL.y (OV.idx1 v u60 se60 rfl rfl rfl (by omega)) rfl ?_
          refine SL.y (OV.loadI 16 sc61 rfl rfl (by omega)) rfl ?_
          refine SL.y (OV.add rfl rfl rfl) rfl ?_
          refine SL.y (OV.idx1 v u60 se60 rfl rfl rfl (by omega)) rfl ?_
          refine SL.s (OS.storeI 16 sz61 rfl rfl rfl (by omega)) ?_
          refine SL.nil ?_
          refine SE.nb ?_
          refine SC.then ?_
          refine SC.region ?_
          refine SL.y (OV.move rfl) rfl ?_
          refine SL.y (OV.add rfl rfl (wrap_i64 (by omega) (by omega))) rfl ?_
          refine SL.y (OV.assign rfl) rfl ?_
          refine SL.nil ?_
          exact SE.roundAB (t + 1) _ ⟨by omega, hfs2.symm⟩ (by omega) (by repeat' (first | exact trivial | refine ⟨rfl, ?_⟩)) (List.Sublist.refl _)
        · have h4' : ¬ rbw t = true := by simp [h4]
          rw [if_neg h4'] at hfs2
          refine SC.skip ?_
          refine SE.nb ?_
          refine SC.then ?_
          refine SC.region ?_
          refine SL.y (OV.move rfl) rfl ?_
          refine SL.y (OV.add rfl rfl (wrap_i64 (by omega) (by omega))) rfl ?_
          refine SL.y (OV.assign rfl) rfl ?_
          refine SL.nil ?_
          exact SE.roundAB (t + 1) _ ⟨by omega, hfs2.symm⟩ (by omega) (by repeat' (first | exact trivial | refine ⟨rfl, ?_⟩)) (List.Sublist.refl _)
      · have h3' : ¬ wr t = true := by simp [h3]
        rw [if_neg h3'] at hfs2
        refine SC.region ?_
        refine SL.y (OV.move rfl) rfl ?_
        refine SL.y (OV.move rfl) rfl ?_
        refine SL.y (OV.idx1 v u60 se60 rfl rfl rfl (by omega)) rfl ?_
        refine SL.y (OV.loadI 16 sc61 rfl rfl (by omega)) rfl ?_
        refine SL.y (OV.add rfl rfl rfl) rfl ?_
        refine SL.y (OV.idx1 v u60 se60 rfl rfl rfl (by omega)) rfl ?_
        refine SL.s (OS.storeI 16 sz61 rfl rfl rfl (by omega)) ?_
        refine SL.nil ?_
        refine SE.nb ?_
        refine SC.then ?_
        refine SC.region ?_
        refine SL.y (OV.move rfl) rfl ?_
        refine SL.y (OV.add rfl rfl (wrap_i64 (by omega) (by omega))) rfl ?_
        refine SL.y (OV.assign rfl) rfl ?_
        refine SL.nil ?_
        exact SE.roundAB (t + 1) _ ⟨by omega, hfs2.symm⟩ (by omega) (by repeat' (first | exact trivial | refine ⟨rfl, ?_⟩)) (List.Sublist.refl _)
  · have : t = D.T := by omega
    subst this
    subst hs
    refine SC.exit ?_
    refine SE.thenE (SE.thenE (SE.inBlock ?_))
    exact SE.weaken (by repeat' (first | exact trivial | refine ⟨rfl, ?_⟩)) (by repeat (first | exact List.nil_sublist _ | refine List.Sublist.cons_cons _ ?_ | refine List.Sublist.cons _ ?_)) h

abbrev f6m (D : LB) (k : Nat) : S8m := fold6m D.n D.T D.it D.tx D.kd (nd D) k

set_option maxHeartbeats 1000000 in
theorem loop6 (H : LH D w0) (h : SE (Q .normal) Yba.f4.ntmps (EX D B) w0 [] (MX D B (f6m D D.I).isN (f6m D D.I).steps)) :
    SC Yba.prog (sub [1, 1, 1, 1, 1, 1, 1, 1, 1, 1, 1, 1, 1, 1, 1, 1, 1, 1, 1, 1, 1, 1, 1, 1, 1, 1, 1, 1, 0, 1] (Yba.f4.body.getD .skip)) Q Yba.f4.ntmps ((42, .int .i64 (0 : Nat)) :: EX D B) w0 [] (MX D B (fun _ => false) fun _ => 1) := by
  have hI := H.I5
  have hT := H.T6
  refine SC.block ?_
  refine SC.loop (fun x : Nat => (42, .int .i64 x) :: EX D B) (fun x => MX D B (f6m D x).isN (f6m D x).steps) (fun x => x ≤ D.I) (fun x => D.I - x) 0 (Nat.zero_le _) (by repeat' (first | exact trivial | refine ⟨rfl, ?_⟩)) (List.Sublist.refl _) ?_
  intro x hx
  have hfs : f6m D (x + 1) = step6m D.n D.T D.it D.tx D.kd (nd D) (f6m D x) x := fold6m_succ _ _ _ _ _ _ _
  generalize hfx : f6m D x = s at *
  refine SC.seq ?_
  refine SC.seq ?_
  refine SC.region ?_
  refine SL.y (OV.move rfl) rfl ?_
  refine SL.y (OV.move rfl) rfl ?_
  refine SL.y (OV.lss rfl rfl) rfl ?_
  refine SL.nil ?_
  refine SC.then ?_
  refine SC.condP rfl (fun hlt => ?_) (fun hge => ?_)
  · refine SC.skip ?_
    refine SC.then ?_
    refine SC.seq ?_
    refine SC.block ?_
    refine SC.seq ?_
    refine SC.region ?_
    refine SL.y (OV.assign rfl) rfl ?_
    refine SL.nil ?_
    refine SC.then ?_
    refine SC.seq ?_
    refine SC.region ?_
    refine SL.y (OV.move rfl) rfl ?_
    refine SL.e (OE.makeB D.T D.T u23 in4 rfl rfl rfl rfl (by omega) (by omega) (by omega)) rfl ?_
    intro b17
    refine SL.y (OV.assign rfl) rfl ?_
    refine SL.nil ?_
    refine SC.then ?_
    refine SC.seq ?_
    refine SC.region ?_
    refine SL.y (OV.move rfl) rfl ?_
    refine SL.e (OE.makeB D.T D.T u23 in4 rfl rfl rfl rfl (by omega) (by omega) (by omega)) rfl ?_
    intro b18
    refine SL.y (OV.assign rfl) rfl ?_
    refine SL.nil ?_
    refine SC.then ?_
    refine SC.seq ?_
    refine SC.region ?_
    refine SL.y (OV.move rfl) rfl ?_
    refine SL.e (OE.makeB D.T D.T u23 in4 rfl rfl rfl rfl (by omega) (by omega) (by omega)) rfl ?_
    intro b19
    refine SL.y (OV.assign rfl) rfl ?_
    refine SL.nil ?_
    refine SC.then ?_
    refine SC.seq ?_
    refine SC.region ?_
    refine SL.y (OV.assign rfl) rfl ?_
    refine SL.nil ?_
    refine SC.then ?_
    refine SC.seq ?_
    refine SC.seq ?_
    refine SC.region ?_
    refine SL.y (OV.assign rfl) rfl ?_
    refine SL.nil ?_
    refine SC.then ?_
    refine SC.weaken ?_ ?_ (loop7 (B := B) (x := x) (b17 := b17) (b18 := b18) (b19 := b19) (isN := s.isN) (st := s.steps) H (by omega) ?_)
    · exact (by repeat' (first | exact trivial | refine ⟨rfl, ?_⟩))
    · exact (List.Sublist.refl _)
    refine SC.then ?_
    refine SC.seq ?_
    refine SC.region ?_
    refine SL.y (OV.assign rfl) rfl ?_
    refine SL.nil ?_
    refine SC.then ?_
    refine SC.weaken ?_ ?_ (loop8 (B := B) (x := x) (b17 := b17) (b18 := b18) (b19 := b19) (r := f7m D x D.n) (s0 := s) H (fold7m_touch D.it D.tx D.kd (nd D) x D.n).1 ?_)
    · exact (by repeat' (first | exact trivial | refine ⟨rfl, ?_⟩))
    · exact (List.Sublist.refl _)
    refine SE.nb ?_
    refine SC.then ?_
    refine SC.region ?_
    refine SL.y (OV.move rfl) rfl ?_
    refine SL.y (OV.add rfl rfl (wrap_i64 (by omega) (by omega))) rfl ?_
    refine SL.y (OV.assign rfl) rfl ?_
    refine SL.nil ?_
    refine SE.round (x + 1) (by omega) (by omega) (by repeat' (first | exact trivial | refine ⟨rfl, ?_⟩)) ?_
    rw [hfs]
    exact (List.Sublist.refl _)
  · have : x = D.I := by omega
    subst this
    refine SC.exit ?_
    refine SE.thenE (SE.thenE (SE.inBlock ?_))
    rw [hfx] at h
    exact SE.weaken (by repeat' (first | exact trivial | refine ⟨rfl, ?_⟩)) (List.Sublist.refl _) h

/-- Where rank and the three wanted lists lie. -/
structure WL where
  (bn cn ba ca bs cs : Nat)
  (sn sa ss : List Value)
def WL.ok (L : WL) (s : S9m) : Prop := s.names.length + L.sn.length = L.cn ∧ L.cn ≤ maxLen ∧ s.al.length + L.sa.length = L.ca ∧ L.ca ≤ maxLen ∧ s.als.length + L.ss.length = L.cs ∧ L.cs ≤ maxLen
abbrev E9 (D : LB) (B : BK) (br : Nat) (L : WL) (s : S9m) : Env := (52, .slice (some ⟨br, 0, none⟩) (C D) (C D)) :: (53, .slice (some ⟨L.bn, 0, none⟩) s.names.length L.cn) :: (54, .slice (some ⟨L.ba, 0, none⟩) s.al.length L.ca) :: (55, .slice (some ⟨L.bs, 0, none⟩) s.als.length L.cs) :: EX D B
abbrev M9 (D : LB) (B : BK) (isN : Nat → Bool) (st : Nat → Int) (br : Nat) (L : WL) (s : S9m) : List Blk := MX D B isN st ++ [(br, irow 21 .i32 (C D) s.rank), (L.bn, lrow 3 .i64 s.names L.sn), (L.ba, lrow 3 .i64 s.al L.sa), (L.bs, lrow 61 .u32 s.als L.ss)]
abbrev txl (D : LB) (v : Nat) : Int := (txnsTo D.alive D.T).getD v 0


set_option maxHeartbeats 1000000 in
theorem loop9 (H : LH D w0) {isN : Nat → Bool} {st : Nat → Int} {br : Nat} {L0 : WL} (hL0 : L0.ok ⟨fun _ => 0, [], [], []⟩)
    (h : ∀ L : WL, L.ok (fold9m isN st (txl D) (C D)) → SE (Q .normal) Yba.f4.ntmps (E9 D B br L (fold9m isN st (txl D) (C D))) w0 [] (M9 D B isN st br L (fold9m isN st (txl D) (C D)))) :
    SC Yba.prog (sub [1, 1, 1, 1, 1, 1, 1, 1, 1, 1, 1, 1, 1, 1, 1, 1, 1, 1, 1, 1, 1, 1, 1, 1, 1, 1, 1, 1, 1, 1, 1, 1, 1, 0, 1] (Yba.f4.body.getD .skip)) Q Yba.f4.ntmps ((56, .int .i64 (0 : Nat)) :: E9 D B br L0 ⟨fun _ => 0, [], [], []⟩) w0 [] (M9 D B isN st br L0 ⟨fun _ => 0, [], [], []⟩) := by
  have hT := H.T6
  have hC : C D ≤ D.T := cntTo_le D.alive D.T
  have htl : (txnsTo D.alive D.T).length = C D := txnsTo_len D.alive D.T
  refine SC.block ?_
  refine SC.loopAB (fun (v : Nat) (L : WL) => (56, .int .i64 v) :: E9 D B br L (fold9m isN st (txl D) v)) (fun v L => M9 D B isN st br L (fold9m isN st (txl D) v)) (fun v L => v ≤ C D ∧ L.ok (fold9m isN st (txl D) v)) (fun v _ => C D - v) 0 L0 ⟨Nat.zero_le _, hL0⟩ (by repeat' (first | exact trivial | refine ⟨rfl, ?_⟩)) (List.Sublist.refl _) ?_
  rintro v L ⟨hv, hL⟩
  have hlen := fold9m_len isN st (txl D) v
  have hfs := fold9m_succ isN st (txl D) v
  refine SC.seq ?_
  refine SC.seq ?_
  refine SC.region ?_
  refine SL.y (OV.move rfl) rfl ?_
  refine SL.y (OV.move rfl) rfl ?_
  refine SL.y (OV.lss rfl rfl) rfl ?_
  refine SL.nil ?_
  refine SC.then ?_
  refine SC.condP rfl (fun hlt => ?_) (fun hge => ?_)
  · generalize hfv : fold9m isN st (txl D) v = s at *
    obtain ⟨L1, L2, L3, L4, L5, L6⟩ := hL
    have hlt' : v < C D := by omega
    refine SC.skip ?_
    refine SC.then ?_
    refine SC.seq ?_
    refine SC.block ?_
    refine SC.seq ?_
    refine SC.region ?_
    refine SL.y (OV.move rfl) rfl ?_
    refine SL.y (OV.move rfl) rfl ?_
    refine SL.y (OV.idx1 _ u23 se23 rfl rfl rfl (by omega)) rfl ?_
    refine SL.y (OV.loadB 15 sc4 rfl rfl (by omega)) rfl ?_
    refine SL.nil ?_
    refine SC.then ?_
    unfold step9m at hfs
    refine SC.cond (b := isN v) rfl (fun hi => ?_) (fun hi => ?_)
    · rw [if_pos hi] at hfs
      have e1 : (s.names ++ [txl D v]).length = s.names.length + 1 := by simp
      refine SC.seq ?_
      refine SC.region ?_
      refine SL.y (OV.move rfl) rfl ?_
      refine SL.y (OV.move rfl) rfl ?_
      refine SL.y (OV.move rfl) rfl ?_
      refine SL.y (OV.len u51 rfl) rfl ?_
      refine SL.y (OV.conv u3 u21 rfl (wrap_i32 (by omega) (by omega))) rfl ?_
      refine SL.y (OV.idx1 _ u47 se47 rfl rfl rfl (by omega)) rfl ?_
      refine SL.s (OS.storeI 17 sz21 rfl rfl rfl (by omega)) ?_
      refine SL.nil ?_
      refine SC.then ?_
      refine SC.region ?_
      refine SL.y (OV.move rfl) rfl ?_
      refine SL.y (OV.move rfl) rfl ?_
      refine SL.y (OV.move rfl) rfl ?_
      refine SL.y (OV.idx1 _ u51 se51 rfl rfl rfl (by omega)) rfl ?_
      refine SL.y (OV.loadL 8 sc3 rfl rfl (by omega)) rfl ?_
      refine SL.e (OE.bslice1I u51 in3 rfl) rfl ?_
      intro b1
      refine SL.e (OE.appendI 18 21 u51 in3 rfl rfl rfl rfl rfl L1 L2 (by unfold maxLen; omega) (by omega)) rfl ?_
      intro sa
      refine SL.y (OV.assign rfl) rfl ?_
      refine SL.nil ?_
      refine SE.nb ?_
      refine SC.then ?_
      refine SC.region ?_
      refine SL.y (OV.move rfl) rfl ?_
      refine SL.y (OV.add rfl rfl (wrap_i64 (by omega) (by omega))) rfl ?_
      refine SL.y (OV.assign rfl) rfl ?_
      refine SL.nil ?_
      refine SE.roundAB (v + 1) { L with bn := sa.1.1, cn := sa.1.2.1, sn := sa.1.2.2 } ⟨by omega, ?_⟩ (by omega) ?_ ?_
      · rw [hfs]
        exact ⟨by rw [e1]; exact sa.2.2, sa.2.1, L3, L4, L5, L6⟩
      · rw [hfs]
        unfold E9
        dsimp only
        rw [e1]
        exact (by repeat' (first | exact trivial | refine ⟨rfl, ?_⟩))
      · rw [hfs]
        exact (by repeat (first | exact List.nil_sublist _ | refine List.Sublist.cons_cons _ ?_ | refine List.Sublist.cons _ ?_))
    · have hi' : ¬ isN v = true := by simp [hi]
      rw [if_neg hi'] at hfs
      have e1 : (s.al ++ [txl D v]).length = s.al.length + 1 := by simp
      have e2 : (s.als ++ [st v]).length = s.als.length + 1 := by simp
      refine SC.seq ?_
      refine SC.region ?_
      refine SL.y (OV.move rfl) rfl ?_
      refine SL.y (OV.move rfl) rfl ?_
      refine SL.y (OV.idx1 _ u47 se47 rfl rfl rfl (by omega)) rfl ?_
      refine SL.s (OS.storeI 17 sz21 rfl rfl rfl (by omega)) ?_
      refine SL.nil ?_
      refine SC.then ?_
      refine SC.seq ?_
      refine SC.region ?_
      refine SL.y (OV.move rfl) rfl ?_
      refine SL.y (OV.move rfl) rfl ?_
      refine SL.y (OV.move rfl) rfl ?_
      refine SL.y (OV.idx1 _ u51 se51 rfl rfl rfl (by omega)) rfl ?_
      refine SL.y (OV.loadL 8 sc3 rfl rfl (by omega)) rfl ?_
      refine SL.e (OE.bslice1I u51 in3 rfl) rfl ?_
      intro b1
      refine SL.e (OE.appendI 19 21 u51 in3 rfl rfl rfl rfl rfl L3 L4 (by unfold maxLen; omega) (by omega)) rfl ?_
      intro sa
      refine SL.y (OV.assign rfl) rfl ?_
      refine SL.nil ?_
      refine SC.then ?_
      refine SC.region ?_
      refine SL.y (OV.move rfl) rfl ?_
      refine SL.y (OV.move rfl) rfl ?_
      refine SL.y (OV.move rfl) rfl ?_
      refine SL.y (OV.idx1 _ u60 se60 rfl rfl rfl (by omega)) rfl ?_
      refine SL.y (OV.loadI 16 sc61 rfl rfl (by omega)) rfl ?_
      refine SL.e (OE.bslice1I u60 in61 rfl) rfl ?_
      intro b2
      refine SL.e (OE.appendI 20 22 u60 in61 rfl rfl rfl rfl rfl L5 L6 (by unfold maxLen; omega) (by omega)) rfl ?_
      intro sb
      refine SL.y (OV.assign rfl) rfl ?_
      refine SL.nil ?_
      refine SE.nb ?_
      refine SC.then ?_
      refine SC.region ?_
      refine SL.y (OV.move rfl) rfl ?_
      refine SL.y (OV.add rfl rfl (wrap_i64 (by omega) (by omega))) rfl ?_
      refine SL.y (OV.assign rfl) rfl ?_
      refine SL.nil ?_
      refine SE.roundAB (v + 1) { L with ba := sa.1.1, ca := sa.1.2.1, sa := sa.1.2.2, bs := sb.1.1, cs := sb.1.2.1, ss := sb.1.2.2 } ⟨by omega, ?_⟩ (by omega) ?_ ?_
      · rw [hfs]
        exact ⟨L1, L2, by rw [e1]; exact sa.2.2, sa.2.1, by rw [e2]; exact sb.2.2, sb.2.1⟩
      · rw [hfs]
        unfold E9
        dsimp only
        rw [e1, e2]
        exact (by repeat' (first | exact trivial | refine ⟨rfl, ?_⟩))
      · rw [hfs]
        exact (by repeat (first | exact List.nil_sublist _ | refine List.Sublist.cons_cons _ ?_ | refine List.Sublist.cons _ ?_))
  · have hvC : v = C D := by omega
    refine SC.exit ?_
    refine SE.thenE (SE.thenE (SE.inBlock ?_))
    rw [hvC] at hL
    refine SE.weaken ?_ ?_ (h L hL)
    · rw [hvC]; exact (by repeat' (first | exact trivial | refine ⟨rfl, ?_⟩))
    · rw [hvC]; exact (List.Sublist.refl _)

set_option maxHeartbeats 1000000 in
theorem loop10 (H : LH D w0) {isN : Nat → Bool} {st : Nat → Int} {br bw : Nat} {L : WL} {s : S9m}
    (h : SE (Q .normal) Yba.f4.ntmps ((57, .slice (some ⟨bw, 0, none⟩) D.T D.T) :: E9 D B br L s) w0 [] (M9 D B isN st br L s ++ [(bw, irow 21 .i32 D.T (fold10m (nd D) s.rank D.T))])) :
    SC Yba.prog (sub [1, 1, 1, 1, 1, 1, 1, 1, 1, 1, 1, 1, 1, 1, 1, 1, 1, 1, 1, 1, 1, 1, 1, 1, 1, 1, 1, 1, 1, 1, 1, 1, 1, 1, 1, 0, 1] (Yba.f4.body.getD .skip)) Q Yba.f4.ntmps ((58, .int .i64 (0 : Nat)) :: (57, .slice (some ⟨bw, 0, none⟩) D.T D.T) :: E9 D B br L s) w0 [] (M9 D B isN st br L s ++ [(bw, irow 21 .i32 D.T fun _ => 0)]) := by
  have hT := H.T6
  have hC : C D ≤ D.T := cntTo_le D.alive D.T
  refine SC.block ?_
  refine SC.loop (fun t : Nat => (58, .int .i64 t) :: (57, .slice (some ⟨bw, 0, none⟩) D.T D.T) :: E9 D B br L s) (fun t => M9 D B isN st br L s ++ [(bw, irow 21 .i32 D.T (fold10m (nd D) s.rank t))]) (fun t => t ≤ D.T) (fun t => D.T - t) 0 (Nat.zero_le _) (by repeat' (first | exact trivial | refine ⟨rfl, ?_⟩)) (List.Sublist.refl _) ?_
  intro t ht
  have hfs := fold10m_succ (nd D) s.rank t
  generalize hft : fold10m (nd D) s.rank t = wn at *
  refine SC.seq ?_
  refine SC.seq ?_
  refine SC.region ?_
  refine SL.y (OV.move rfl) rfl ?_
  refine SL.y (OV.move rfl) rfl ?_
  refine SL.y (OV.lss rfl rfl) rfl ?_
  refine SL.nil ?_
  refine SC.then ?_
  refine SC.condP rfl (fun hlt => ?_) (fun hge => ?_)
  · have hr := ndOf_range D.alive (show t < D.T by omega)
    have hrC : nd D t < (C D : Int) := hr.2
    refine SC.skip ?_
    refine SC.then ?_
    refine SC.seq ?_
    refine SC.block ?_
    refine SC.seq ?_
    refine SC.region ?_
    refine SL.y (OV.move rfl) rfl ?_
    refine SL.y (OV.move rfl) rfl ?_
    refine SL.y (OV.idx1 _ u47 se47 rfl rfl rfl (by omega)) rfl ?_
    refine SL.s (OS.storeI 21 sz21 rfl rfl rfl (by omega)) ?_
    refine SL.nil ?_
    refine SC.then ?_
    refine SC.seq ?_
    refine SC.region ?_
    refine SL.y (OV.move rfl) rfl ?_
    refine SL.y (OV.move rfl) rfl ?_
    refine SL.y (OV.idx1 _ u47 se47 rfl rfl rfl (by omega)) rfl ?_
    refine SL.y (OV.loadA 14 sc21 rfl rfl (by omega)) rfl ?_
    refine SL.y (OV.geq rfl rfl) rfl ?_
    refine SL.nil ?_
    refine SC.then ?_
    unfold step10m at hfs
    refine SC.condP rfl (fun hv => ?_) (fun hv => ?_)
    · rw [if_pos hv] at hfs
      refine SC.region ?_
      refine SL.y (OV.move rfl) rfl ?_
      refine SL.y (OV.move rfl) rfl ?_
      refine SL.y (OV.move rfl) rfl ?_
      refine SL.y (OV.move rfl) rfl ?_
      refine SL.y (OV.move rfl) rfl ?_
      refine SL.y (OV.idx1 _ u47 se47 rfl rfl rfl (by omega)) rfl ?_
      refine SL.y (OV.loadA 14 sc21 rfl rfl (by omega)) rfl ?_
      refine SL.y (OV.idx1 (nd D t).toNat u47 se47 rfl rfl (show nd D t = ((nd D t).toNat : Int) by omega) (by omega)) rfl ?_
      refine SL.y (OV.loadI 17 sc21 rfl rfl (by omega)) rfl ?_
      refine SL.y (OV.idx1 _ u47 se47 rfl rfl rfl (by omega)) rfl ?_
      refine SL.s (OS.storeI 21 sz21 rfl rfl rfl (by omega)) ?_
      refine SL.nil ?_
      refine SE.nb ?_
      refine SC.then ?_
      refine SC.region ?_
      refine SL.y (OV.move rfl) rfl ?_
      refine SL.y (OV.add rfl rfl (wrap_i64 (by omega) (by omega))) rfl ?_
      refine SL.y (OV.assign rfl) rfl ?_
      refine SL.nil ?_
      refine SE.round (t + 1) (by omega) (by omega) (by repeat' (first | exact trivial | refine ⟨rfl, ?_⟩)) ?_
      rw [hfs]
      exact (List.Sublist.refl _)
    · rw [if_neg hv] at hfs
      refine SC.skip ?_
      refine SE.nb ?_
      refine SC.then ?_
      refine SC.region ?_
      refine SL.y (OV.move rfl) rfl ?_
      refine SL.y (OV.add rfl rfl (wrap_i64 (by omega) (by omega))) rfl ?_
      refine SL.y (OV.assign rfl) rfl ?_
      refine SL.nil ?_
      refine SE.round (t + 1) (by omega) (by omega) (by repeat' (first | exact trivial | refine ⟨rfl, ?_⟩)) ?_
      rw [hfs]
      exact (List.Sublist.refl _)
  · have : t = D.T := by omega
    subst this
    refine SC.exit ?_
    refine SE.thenE (SE.thenE (SE.inBlock ?_))
    rw [hft] at h
    exact SE.weaken (by repeat' (first | exact trivial | refine ⟨rfl, ?_⟩)) (List.Sublist.refl _) h
end
end Go.Proofs.Ybulkdrci.LawB
