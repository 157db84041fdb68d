import Derived.Test.YbulkdrciApart
namespace Go.Proofs.Ybulkdrci.Apart
open Go Go.RowKit Go.Proofs.Ybulkdrci Go.Proofs.Ybulkdrci.Sym Go.Proofs.Ybulkdrci.Pl
set_option linter.unusedVariables false
set_option linter.unusedSimpArgs false

structure L6 where
  (b12 c12 b5 c5 b6 c6 : Nat)
  (sp12 sp5 sp6 : List Value)
def L6.ok (L : L6) (s : S6) : Prop := s.names.length + L.sp12.length = L.c12 ∧ L.c12 ≤ maxLen ∧ s.al.length + L.sp5.length = L.c5 ∧ L.c5 ≤ maxLen ∧ s.als.length + L.sp6.length = L.c6 ∧ L.c6 ≤ maxLen
abbrev sbox (cs : List Value) (A B : Value) : Obj := row 74 ((cs.set 5 A).set 6 B)
theorem set_56 (cs : List Value) (A B A' B' : Value) : (((cs.set 5 A).set 6 B).set (0 + 5) A').set (0 + 6) B' = (cs.set 5 A').set 6 B' := by
  rw [List.set_comm (i := 6) (j := 0 + 5) _ _ (by decide)]
  simp
theorem get_5 (cs : List Value) (A B : Value) (h : cs.length = 32) : ((cs.set 5 A).set 6 B)[0 + 5]? = some A := by
  rw [List.getElem?_set_ne (by decide)]; simp [h]
theorem get_6 (cs : List Value) (A B : Value) (h : cs.length = 32) : ((cs.set 5 A).set 6 B)[0 + 6]? = some B := by
  simp [h]

abbrev E6 (D : AD) (b13 b14 b15 : Nat) (L : L6) (s : S6) : Env := (12, .slice (some ⟨L.b12, 0, none⟩) s.names.length L.c12) :: EA D b13 b14 b15
abbrev M6 (D : AD) (nd : Nat → Int) (b13 b14 b15 : Nat) (st se co : Nat → Int) (L : L6) (s : S6) : List Blk :=
  [(D.bn, irow 21 .i32 D.T nd), (D.bs, sbox D.cs (.slice (some ⟨L.b5, 0, none⟩) s.al.length L.c5) (.slice (some ⟨L.b6, 0, none⟩) s.als.length L.c6)), (b13, irow 61 .u32 D.C st), (b14, irow 21 .i32 D.C se), (b15, irow 21 .i32 D.C co),
    (L.b12, lrow 3 .i64 s.names L.sp12), (L.b5, lrow 3 .i64 s.al L.sp5), (L.b6, lrow 61 .u32 s.als L.sp6)]

theorem fold6_len (se st txl : Nat → Int) (k : Nat) : (fold6 se st txl k).names.length ≤ k ∧ (fold6 se st txl k).al.length ≤ k ∧ (fold6 se st txl k).als.length ≤ k := by
  induction k with
  | zero => simp [fold6]
  | succ k ih =>
    rw [fold6_succ]
    generalize fold6 se st txl k = s at *
    unfold step6
    split <;> simp <;> omega

section
variable {D : AD} {w0 : World} {Q : Exit → Act → World → Prop} {b13 b14 b15 : Nat}

set_option maxRecDepth 100000 in
set_option maxHeartbeats 2000000 in
/-- names, s.alone, s.aloneSteps are gathered -/
theorem loop6 (H : AH D w0) (hPQ : PanicOk Q) {st se co : Nat → Int} {L0 : L6} (hL0 : L0.ok ⟨[], [], []⟩)
    (h : ∀ L : L6, L.ok (fold6 se st D.txl D.C) → SE (Q .normal) Yba.f11.ntmps (E6 D b13 b14 b15 L (fold6 se st D.txl D.C)) w0 [D.bn, D.bs] (M6 D D.nd b13 b14 b15 st se co L (fold6 se st D.txl D.C))) :
    SC Yba.prog (sub [1, 1, 1, 1, 1, 1, 1, 1, 1, 1, 0, 1] (Yba.f11.body.getD .skip)) Q Yba.f11.ntmps ((224, .slice (some ⟨b14, 0, none⟩) D.C D.C) :: (225, .int .i64 D.C) :: (226, .int .i64 (0 : Nat)) :: E6 D b13 b14 b15 L0 ⟨[], [], []⟩) w0 [D.bn, D.bs] (M6 D D.nd b13 b14 b15 st se co L0 ⟨[], [], []⟩) := by
  have hC := H.Cle
  refine SC.block ?_
  refine SC.loop (fun ks : Nat × L6 => (224, .slice (some ⟨b14, 0, none⟩) D.C D.C) :: (225, .int .i64 D.C) :: (226, .int .i64 ks.1) :: E6 D b13 b14 b15 ks.2 (fold6 se st D.txl ks.1)) (fun ks => M6 D D.nd b13 b14 b15 st se co ks.2 (fold6 se st D.txl ks.1)) (fun ks => ks.1 ≤ D.C ∧ ks.2.ok (fold6 se st D.txl ks.1)) (fun ks => D.C - ks.1) (0, L0) ⟨Nat.zero_le _, hL0⟩ (by repeat' (first | exact trivial | refine ⟨rfl, ?_⟩)) (List.Sublist.refl _) ?_
  rintro ⟨k, L⟩ ⟨hk, hL⟩
  dsimp only at hk hL
  have hlen := fold6_len se st D.txl k
  have hs6 := fold6_succ se st D.txl k
  refine SC.seq ?_
  refine SC.region ?_
  refine SL.y (OV.lss rfl rfl) rfl ?_
  refine SL.nil ?_
  refine SC.then ?_
  refine SC.seq ?_
  refine SC.condP rfl (fun hlt => ?_) (fun hge => ?_)
  · generalize hfk : fold6 se st D.txl k = s at *
    obtain ⟨L1, L2, L3, L4, L5, L6'⟩ := hL
    have hlt' : k < D.C := by simp at hlt; omega
    refine SC.skip ?_
    refine SC.then ?_
    refine SC.seq ?_
    refine SC.block ?_
    refine SC.seq ?_
    refine SC.region ?_
    refine SL.y (OV.move rfl) rfl ?_
    refine SL.y (OV.idx1 _ u47 se47 rfl rfl rfl (by omega)) rfl ?_
    refine SL.y (OV.loadI 3 sc21 rfl rfl (by omega)) rfl ?_
    refine SL.y (OV.assign rfl) rfl ?_
    refine SL.y (OV.assign rfl) rfl ?_
    refine SL.nil ?_
    refine SC.then ?_
    refine SC.seq ?_
    refine SC.seq ?_
    refine SC.region ?_
    refine SL.y (OV.move rfl) rfl ?_
    refine SL.y (OV.geq rfl rfl) rfl ?_
    refine SL.nil ?_
    refine SC.then ?_
    refine SC.condP rfl (fun hv => ?_) (fun hv => ?_)
    · skip
      refine SC.seq ?_
      refine SC.region ?_
      refine SL.y (OV.move rfl) rfl ?_
      refine SL.y (OV.move rfl) rfl ?_
      refine SL.y (OV.move rfl) rfl ?_
      refine SL.y (OV.idx1 _ u51 se51 rfl rfl rfl (by omega)) rfl ?_
      refine SL.y (OV.loadOld sc3 rfl H.n4 (H.ht k hlt')) rfl ?_
      refine SL.e (OE.bslice1I u51 in3 rfl) rfl ?_
      intro bt
      refine SL.e (OE.appendI 5 8 u51 in3 rfl rfl rfl rfl rfl L1 L2 (by unfold maxLen; omega) (by omega)) rfl ?_
      intro sa
      refine SL.y (OV.assign rfl) rfl ?_
      refine SL.nil ?_
      refine SC.then ?_
      refine SC.exit ?_
      refine SE.thenE (SE.inBlock ?_)
      refine SC.then ?_
      refine SC.region ?_
      refine SL.y (OV.add rfl rfl (wrap_i64 (by omega) (by omega))) rfl ?_
      refine SL.y (OV.move rfl) rfl ?_
      refine SL.nil ?_
      unfold step6 at hs6
      rw [if_pos hv] at hs6
      have hlen' : (s.names ++ [D.txl k]).length = s.names.length + 1 := by simp
      refine SE.round (k + 1, { L with b12 := sa.1.1, c12 := sa.1.2.1, sp12 := sa.1.2.2 }) ⟨by simp; omega, ?_⟩ (by simp; omega) ?_ ?_
      · show L6.ok _ (fold6 se st D.txl (k + 1))
        rw [hs6]
        exact ⟨by rw [hlen']; exact sa.2.2, sa.2.1, L3, L4, L5, L6'⟩
      · show ESub (_ :: _ :: _ :: E6 D b13 b14 b15 _ (fold6 se st D.txl (k + 1))) _
        rw [hs6]
        unfold E6
        dsimp only
        rw [hlen']
        exact (by repeat' (first | exact trivial | refine ⟨rfl, ?_⟩))
      · show List.Sublist (M6 D D.nd b13 b14 b15 st se co _ (fold6 se st D.txl (k + 1))) _
        rw [hs6]
        exact (by repeat (first | exact List.nil_sublist _ | refine List.Sublist.cons_cons _ ?_ | refine List.Sublist.cons _ ?_))
    · refine SC.skip ?_
      refine SC.then ?_
      unfold step6 at hs6
      rw [if_neg hv] at hs6
      have hlen1 : (s.al ++ [D.txl k]).length = s.al.length + 1 := by simp
      have hlen2 : (s.als ++ [st k]).length = s.als.length + 1 := by simp
      refine SC.held 24 [(D.bs, sbox D.cs (.slice (some ⟨L.b5, 0, none⟩) s.al.length L.c5) (.slice (some ⟨L.b6, 0, none⟩) s.als.length L.c6)), (b13, irow 61 .u32 D.C st)] [] mixed ?_
      refine SA.takeC (i := 0) (by repeat (first | exact hPQ | refine PanicOk.then ?_ | refine PanicOk.block ?_ | exact PanicOk.body)) rfl (by kernel_rfl) (by kernel_rfl) (by kernel_rfl) rfl (by first | exact List.nil_sublist _ | exact List.Sublist.refl _ | (repeat (first | exact List.Sublist.refl _ | exact List.nil_sublist _ | refine List.Sublist.cons_cons _ ?_ | refine List.Sublist.cons _ ?_))) (OV.move rfl) rfl ?_
      refine SA.takeC (i := 1) (by repeat (first | exact hPQ | refine PanicOk.then ?_ | refine PanicOk.block ?_ | exact PanicOk.body)) rfl (by kernel_rfl) (by kernel_rfl) (by kernel_rfl) rfl (by first | exact List.nil_sublist _ | exact List.Sublist.refl _ | (repeat (first | exact List.Sublist.refl _ | exact List.nil_sublist _ | refine List.Sublist.cons_cons _ ?_ | refine List.Sublist.cons _ ?_))) (OV.move rfl) rfl ?_
      refine SA.takeC (i := 2) (by repeat (first | exact hPQ | refine PanicOk.then ?_ | refine PanicOk.block ?_ | exact PanicOk.body)) rfl (by kernel_rfl) (by kernel_rfl) (by kernel_rfl) rfl (by first | exact List.nil_sublist _ | exact List.Sublist.refl _ | (repeat (first | exact List.Sublist.refl _ | exact List.nil_sublist _ | refine List.Sublist.cons_cons _ ?_ | refine List.Sublist.cons _ ?_))) (OV.move rfl) rfl ?_
      refine SA.takeC (i := 3) (by repeat (first | exact hPQ | refine PanicOk.then ?_ | refine PanicOk.block ?_ | exact PanicOk.body)) rfl (by kernel_rfl) (by kernel_rfl) (by kernel_rfl) rfl (by first | exact List.nil_sublist _ | exact List.Sublist.refl _ | (repeat (first | exact List.Sublist.refl _ | exact List.nil_sublist _ | refine List.Sublist.cons_cons _ ?_ | refine List.Sublist.cons _ ?_))) (OV.nilCheck rfl) rfl ?_
      refine SA.takeC (i := 4) (by repeat (first | exact hPQ | refine PanicOk.then ?_ | refine PanicOk.block ?_ | exact PanicOk.body)) rfl (by kernel_rfl) (by kernel_rfl) (by kernel_rfl) rfl (by first | exact List.nil_sublist _ | exact List.Sublist.refl _ | (repeat (first | exact List.Sublist.refl _ | exact List.nil_sublist _ | refine List.Sublist.cons_cons _ ?_ | refine List.Sublist.cons _ ?_))) (OV.fld fo74_3 rfl) rfl ?_
      refine SA.takeA (i := 5) (by repeat (first | exact hPQ | refine PanicOk.then ?_ | refine PanicOk.block ?_ | exact PanicOk.body)) rfl (by kernel_rfl) (by kernel_rfl) (by kernel_rfl) rfl (by kernel_rfl) (by kernel_rfl) (by first | exact List.nil_sublist _ | exact List.Sublist.refl _ | (repeat (first | exact List.Sublist.refl _ | exact List.nil_sublist _ | refine List.Sublist.cons_cons _ ?_ | refine List.Sublist.cons _ ?_))) (OV.loadF 0 sc51 rfl rfl (get_5 _ _ _ H.csl)) rfl ?_
      refine SA.takeC (i := 6) (by repeat (first | exact hPQ | refine PanicOk.then ?_ | refine PanicOk.block ?_ | exact PanicOk.body)) rfl (by kernel_rfl) (by kernel_rfl) (by kernel_rfl) rfl (by first | exact List.nil_sublist _ | exact List.Sublist.refl _ | (repeat (first | exact List.Sublist.refl _ | exact List.nil_sublist _ | refine List.Sublist.cons_cons _ ?_ | refine List.Sublist.cons _ ?_))) (OV.move rfl) rfl ?_
      refine SA.takeC (i := 7) (by repeat (first | exact hPQ | refine PanicOk.then ?_ | refine PanicOk.block ?_ | exact PanicOk.body)) rfl (by kernel_rfl) (by kernel_rfl) (by kernel_rfl) rfl (by first | exact List.nil_sublist _ | exact List.Sublist.refl _ | (repeat (first | exact List.Sublist.refl _ | exact List.nil_sublist _ | refine List.Sublist.cons_cons _ ?_ | refine List.Sublist.cons _ ?_))) (OV.move rfl) rfl ?_
      refine SA.takeC (i := 8) (by repeat (first | exact hPQ | refine PanicOk.then ?_ | refine PanicOk.block ?_ | exact PanicOk.body)) rfl (by kernel_rfl) (by kernel_rfl) (by kernel_rfl) rfl (by first | exact List.nil_sublist _ | exact List.Sublist.refl _ | (repeat (first | exact List.Sublist.refl _ | exact List.nil_sublist _ | refine List.Sublist.cons_cons _ ?_ | refine List.Sublist.cons _ ?_))) (OV.idx1 _ u51 se51 rfl rfl rfl (by omega)) rfl ?_
      refine SA.takeC (i := 9) (by repeat (first | exact hPQ | refine PanicOk.then ?_ | refine PanicOk.block ?_ | exact PanicOk.body)) rfl (by kernel_rfl) (by kernel_rfl) (by kernel_rfl) rfl (by first | exact List.nil_sublist _ | exact List.Sublist.refl _ | (repeat (first | exact List.Sublist.refl _ | exact List.nil_sublist _ | refine List.Sublist.cons_cons _ ?_ | refine List.Sublist.cons _ ?_))) (OV.loadOld sc3 rfl H.n4 (H.ht k hlt')) rfl ?_
      refine SA.takeC (i := 12) (by repeat (first | exact hPQ | refine PanicOk.then ?_ | refine PanicOk.block ?_ | exact PanicOk.body)) rfl (by kernel_rfl) (by kernel_rfl) (by kernel_rfl) rfl (by first | exact List.nil_sublist _ | exact List.Sublist.refl _ | (repeat (first | exact List.Sublist.refl _ | exact List.nil_sublist _ | refine List.Sublist.cons_cons _ ?_ | refine List.Sublist.cons _ ?_))) (OV.move rfl) rfl ?_
      refine SA.takeC (i := 13) (by repeat (first | exact hPQ | refine PanicOk.then ?_ | refine PanicOk.block ?_ | exact PanicOk.body)) rfl (by kernel_rfl) (by kernel_rfl) (by kernel_rfl) rfl (by first | exact List.nil_sublist _ | exact List.Sublist.refl _ | (repeat (first | exact List.Sublist.refl _ | exact List.nil_sublist _ | refine List.Sublist.cons_cons _ ?_ | refine List.Sublist.cons _ ?_))) (OV.nilCheck rfl) rfl ?_
      refine SA.takeC (i := 14) (by repeat (first | exact hPQ | refine PanicOk.then ?_ | refine PanicOk.block ?_ | exact PanicOk.body)) rfl (by kernel_rfl) (by kernel_rfl) (by kernel_rfl) rfl (by first | exact List.nil_sublist _ | exact List.Sublist.refl _ | (repeat (first | exact List.Sublist.refl _ | exact List.nil_sublist _ | refine List.Sublist.cons_cons _ ?_ | refine List.Sublist.cons _ ?_))) (OV.fld fo74_4 rfl) rfl ?_
      refine SA.takeA (i := 15) (by repeat (first | exact hPQ | refine PanicOk.then ?_ | refine PanicOk.block ?_ | exact PanicOk.body)) rfl (by kernel_rfl) (by kernel_rfl) (by kernel_rfl) rfl (by kernel_rfl) (by kernel_rfl) (by first | exact List.nil_sublist _ | exact List.Sublist.refl _ | (repeat (first | exact List.Sublist.refl _ | exact List.nil_sublist _ | refine List.Sublist.cons_cons _ ?_ | refine List.Sublist.cons _ ?_))) (OV.loadF 0 sc60 rfl rfl (get_6 _ _ _ H.csl)) rfl ?_
      refine SA.takeC (i := 16) (by repeat (first | exact hPQ | refine PanicOk.then ?_ | refine PanicOk.block ?_ | exact PanicOk.body)) rfl (by kernel_rfl) (by kernel_rfl) (by kernel_rfl) rfl (by first | exact List.nil_sublist _ | exact List.Sublist.refl _ | (repeat (first | exact List.Sublist.refl _ | exact List.nil_sublist _ | refine List.Sublist.cons_cons _ ?_ | refine List.Sublist.cons _ ?_))) (OV.move rfl) rfl ?_
      refine SA.takeC (i := 17) (by repeat (first | exact hPQ | refine PanicOk.then ?_ | refine PanicOk.block ?_ | exact PanicOk.body)) rfl (by kernel_rfl) (by kernel_rfl) (by kernel_rfl) rfl (by first | exact List.nil_sublist _ | exact List.Sublist.refl _ | (repeat (first | exact List.Sublist.refl _ | exact List.nil_sublist _ | refine List.Sublist.cons_cons _ ?_ | refine List.Sublist.cons _ ?_))) (OV.move rfl) rfl ?_
      refine SA.takeC (i := 18) (by repeat (first | exact hPQ | refine PanicOk.then ?_ | refine PanicOk.block ?_ | exact PanicOk.body)) rfl (by kernel_rfl) (by kernel_rfl) (by kernel_rfl) rfl (by first | exact List.nil_sublist _ | exact List.Sublist.refl _ | (repeat (first | exact List.Sublist.refl _ | exact List.nil_sublist _ | refine List.Sublist.cons_cons _ ?_ | refine List.Sublist.cons _ ?_))) (OV.idx1 _ u60 se60 rfl rfl rfl (by omega)) rfl ?_
      refine SA.takeA (i := 19) (by repeat (first | exact hPQ | refine PanicOk.then ?_ | refine PanicOk.block ?_ | exact PanicOk.body)) rfl (by kernel_rfl) (by kernel_rfl) (by kernel_rfl) rfl (by kernel_rfl) (by kernel_rfl) (by first | exact List.nil_sublist _ | exact List.Sublist.refl _ | (repeat (first | exact List.Sublist.refl _ | exact List.nil_sublist _ | refine List.Sublist.cons_cons _ ?_ | refine List.Sublist.cons _ ?_))) (OV.loadI 1 sc61 rfl rfl (by omega)) rfl ?_
      refine SA.all (rs := [10, 20]) (by kernel_rfl) (by simp) (all_cons ?_ (all_cons ?_ (all_nil)))
      · skip
        refine SO.e rfl (OE.bslice1I u51 in3 rfl) rfl (fun _ => (by first | exact List.nil_sublist _ | exact List.Sublist.refl _ | (repeat (first | exact List.Sublist.refl _ | exact List.nil_sublist _ | refine List.Sublist.cons_cons _ ?_ | refine List.Sublist.cons _ ?_)))) ?_
        intro ba
        refine SA.all (rs := [11, 20]) (by kernel_rfl) (by simp) (all_cons ?_ (all_cons ?_ (all_nil)))
        · skip
          refine SO.e rfl (OE.appendI 6 8 u51 in3 rfl rfl rfl rfl rfl L3 L4 (by unfold maxLen; omega) (by omega)) rfl (fun _ => (by first | exact List.nil_sublist _ | exact List.Sublist.refl _ | (repeat (first | exact List.Sublist.refl _ | exact List.nil_sublist _ | refine List.Sublist.cons_cons _ ?_ | refine List.Sublist.cons _ ?_)))) ?_
          intro sa
          refine SA.all (rs := [20]) (by kernel_rfl) (by simp) (all_cons ?_ (all_nil))
          · skip
            refine SO.e rfl (OE.bslice1I u60 in61 rfl) rfl (fun _ => (by first | exact List.nil_sublist _ | exact List.Sublist.refl _ | (repeat (first | exact List.Sublist.refl _ | exact List.nil_sublist _ | refine List.Sublist.cons_cons _ ?_ | refine List.Sublist.cons _ ?_)))) ?_
            intro bb
            refine SA.all (rs := [21]) (by kernel_rfl) (by simp) (all_cons ?_ (all_nil))
            · skip
              refine SO.e rfl (OE.appendI 7 9 u60 in61 rfl rfl rfl rfl rfl L5 L6' (by unfold maxLen; omega) (by omega)) rfl (fun _ => (by first | exact List.nil_sublist _ | exact List.Sublist.refl _ | (repeat (first | exact List.Sublist.refl _ | exact List.nil_sublist _ | refine List.Sublist.cons_cons _ ?_ | refine List.Sublist.cons _ ?_)))) ?_
              intro sb
              refine SA.takeC (i := 22) (by repeat (first | exact hPQ | refine PanicOk.then ?_ | refine PanicOk.block ?_ | exact PanicOk.body)) rfl (by kernel_rfl) (by kernel_rfl) (by kernel_rfl) rfl (by first | exact List.nil_sublist _ | exact List.Sublist.refl _ | (repeat (first | exact List.Sublist.refl _ | exact List.nil_sublist _ | refine List.Sublist.cons_cons _ ?_ | refine List.Sublist.cons _ ?_))) (OV.nilCheck rfl) rfl ?_
              refine SA.takeC (i := 23) (by repeat (first | exact hPQ | refine PanicOk.then ?_ | refine PanicOk.block ?_ | exact PanicOk.body)) rfl (by kernel_rfl) (by kernel_rfl) (by kernel_rfl) rfl (by first | exact List.nil_sublist _ | exact List.Sublist.refl _ | (repeat (first | exact List.Sublist.refl _ | exact List.nil_sublist _ | refine List.Sublist.cons_cons _ ?_ | refine List.Sublist.cons _ ?_))) (OV.fld fo74_3 rfl) rfl ?_
              refine SA.all (rs := [24]) (by kernel_rfl) (by simp) (all_cons ?_ (all_nil))
              · skip
                refine SO.s rfl (OS.store1 1 sz51 rfl rfl rfl rfl (by simp [H.csl])) (by first | exact List.nil_sublist _ | exact List.Sublist.refl _ | (repeat (first | exact List.Sublist.refl _ | exact List.nil_sublist _ | refine List.Sublist.cons_cons _ ?_ | refine List.Sublist.cons _ ?_))) ?_
                refine SA.takeC (i := 25) (by repeat (first | exact hPQ | refine PanicOk.then ?_ | refine PanicOk.block ?_ | exact PanicOk.body)) rfl (by kernel_rfl) (by kernel_rfl) (by kernel_rfl) rfl (by first | exact List.nil_sublist _ | exact List.Sublist.refl _ | (repeat (first | exact List.Sublist.refl _ | exact List.nil_sublist _ | refine List.Sublist.cons_cons _ ?_ | refine List.Sublist.cons _ ?_))) (OV.nilCheck rfl) rfl ?_
                refine SA.takeC (i := 26) (by repeat (first | exact hPQ | refine PanicOk.then ?_ | refine PanicOk.block ?_ | exact PanicOk.body)) rfl (by kernel_rfl) (by kernel_rfl) (by kernel_rfl) rfl (by first | exact List.nil_sublist _ | exact List.Sublist.refl _ | (repeat (first | exact List.Sublist.refl _ | exact List.nil_sublist _ | refine List.Sublist.cons_cons _ ?_ | refine List.Sublist.cons _ ?_))) (OV.fld fo74_4 rfl) rfl ?_
                refine SA.all (rs := [27]) (by kernel_rfl) (by simp) (all_cons ?_ (all_nil))
                · skip
                  refine SO.s rfl (OS.store1 1 sz60 rfl rfl rfl rfl (by simp [H.csl])) (by first | exact List.nil_sublist _ | exact List.Sublist.refl _ | (repeat (first | exact List.Sublist.refl _ | exact List.nil_sublist _ | refine List.Sublist.cons_cons _ ?_ | refine List.Sublist.cons _ ?_))) ?_
                  refine SA.done (by kernel_rfl) ?_
                  refine SE.nb ?_
                  refine SC.then ?_
                  refine SC.region ?_
                  refine SL.y (OV.add rfl rfl (wrap_i64 (by omega) (by omega))) rfl ?_
                  refine SL.y (OV.move rfl) rfl ?_
                  refine SL.nil ?_
                  refine SE.round (k + 1, { L with b5 := sa.1.1, c5 := sa.1.2.1, sp5 := sa.1.2.2, b6 := sb.1.1, c6 := sb.1.2.1, sp6 := sb.1.2.2 }) ⟨by simp; omega, ?_⟩ (by simp; omega) ?_ ?_
                  · show L6.ok _ (fold6 se st D.txl (k + 1))
                    rw [hs6]
                    exact ⟨L1, L2, by rw [hlen1]; exact sa.2.2, sa.2.1, by rw [hlen2]; exact sb.2.2, sb.2.1⟩
                  · show ESub (_ :: _ :: _ :: E6 D b13 b14 b15 _ (fold6 se st D.txl (k + 1))) _
                    rw [hs6]
                    exact (by repeat' (first | exact trivial | refine ⟨rfl, ?_⟩))
                  · show List.Sublist (M6 D D.nd b13 b14 b15 st se co _ (fold6 se st D.txl (k + 1))) _
                    rw [hs6]
                    unfold M6 sbox
                    dsimp only
                    rw [hlen1, hlen2, set_56]
                    exact (by repeat (first | exact List.nil_sublist _ | refine List.Sublist.cons_cons _ ?_ | refine List.Sublist.cons _ ?_))
        · skip
          refine SO.e rfl (OE.bslice1I u60 in61 rfl) rfl (fun _ => (by first | exact List.nil_sublist _ | exact List.Sublist.refl _ | (repeat (first | exact List.Sublist.refl _ | exact List.nil_sublist _ | refine List.Sublist.cons_cons _ ?_ | refine List.Sublist.cons _ ?_)))) ?_
          intro bb
          refine SA.all (rs := [11]) (by kernel_rfl) (by simp) (all_cons ?_ (all_nil))
          · skip
            refine SO.e rfl (OE.appendI 6 8 u51 in3 rfl rfl rfl rfl rfl L3 L4 (by unfold maxLen; omega) (by omega)) rfl (fun _ => (by first | exact List.nil_sublist _ | exact List.Sublist.refl _ | (repeat (first | exact List.Sublist.refl _ | exact List.nil_sublist _ | refine List.Sublist.cons_cons _ ?_ | refine List.Sublist.cons _ ?_)))) ?_
            intro sa
            refine SA.all (rs := [21]) (by kernel_rfl) (by simp) (all_cons ?_ (all_nil))
            · skip
              refine SO.e rfl (OE.appendI 7 9 u60 in61 rfl rfl rfl rfl rfl L5 L6' (by unfold maxLen; omega) (by omega)) rfl (fun _ => (by first | exact List.nil_sublist _ | exact List.Sublist.refl _ | (repeat (first | exact List.Sublist.refl _ | exact List.nil_sublist _ | refine List.Sublist.cons_cons _ ?_ | refine List.Sublist.cons _ ?_)))) ?_
              intro sb
              refine SA.takeC (i := 22) (by repeat (first | exact hPQ | refine PanicOk.then ?_ | refine PanicOk.block ?_ | exact PanicOk.body)) rfl (by kernel_rfl) (by kernel_rfl) (by kernel_rfl) rfl (by first | exact List.nil_sublist _ | exact List.Sublist.refl _ | (repeat (first | exact List.Sublist.refl _ | exact List.nil_sublist _ | refine List.Sublist.cons_cons _ ?_ | refine List.Sublist.cons _ ?_))) (OV.nilCheck rfl) rfl ?_
              refine SA.takeC (i := 23) (by repeat (first | exact hPQ | refine PanicOk.then ?_ | refine PanicOk.block ?_ | exact PanicOk.body)) rfl (by kernel_rfl) (by kernel_rfl) (by kernel_rfl) rfl (by first | exact List.nil_sublist _ | exact List.Sublist.refl _ | (repeat (first | exact List.Sublist.refl _ | exact List.nil_sublist _ | refine List.Sublist.cons_cons _ ?_ | refine List.Sublist.cons _ ?_))) (OV.fld fo74_3 rfl) rfl ?_
              refine SA.all (rs := [24]) (by kernel_rfl) (by simp) (all_cons ?_ (all_nil))
              · skip
                refine SO.s rfl (OS.store1 1 sz51 rfl rfl rfl rfl (by simp [H.csl])) (by first | exact List.nil_sublist _ | exact List.Sublist.refl _ | (repeat (first | exact List.Sublist.refl _ | exact List.nil_sublist _ | refine List.Sublist.cons_cons _ ?_ | refine List.Sublist.cons _ ?_))) ?_
                refine SA.takeC (i := 25) (by repeat (first | exact hPQ | refine PanicOk.then ?_ | refine PanicOk.block ?_ | exact PanicOk.body)) rfl (by kernel_rfl) (by kernel_rfl) (by kernel_rfl) rfl (by first | exact List.nil_sublist _ | exact List.Sublist.refl _ | (repeat (first | exact List.Sublist.refl _ | exact List.nil_sublist _ | refine List.Sublist.cons_cons _ ?_ | refine List.Sublist.cons _ ?_))) (OV.nilCheck rfl) rfl ?_
                refine SA.takeC (i := 26) (by repeat (first | exact hPQ | refine PanicOk.then ?_ | refine PanicOk.block ?_ | exact PanicOk.body)) rfl (by kernel_rfl) (by kernel_rfl) (by kernel_rfl) rfl (by first | exact List.nil_sublist _ | exact List.Sublist.refl _ | (repeat (first | exact List.Sublist.refl _ | exact List.nil_sublist _ | refine List.Sublist.cons_cons _ ?_ | refine List.Sublist.cons _ ?_))) (OV.fld fo74_4 rfl) rfl ?_
                refine SA.all (rs := [27]) (by kernel_rfl) (by simp) (all_cons ?_ (all_nil))
                · skip
                  refine SO.s rfl (OS.store1 1 sz60 rfl rfl rfl rfl (by simp [H.csl])) (by first | exact List.nil_sublist _ | exact List.Sublist.refl _ | (repeat (first | exact List.Sublist.refl _ | exact List.nil_sublist _ | refine List.Sublist.cons_cons _ ?_ | refine List.Sublist.cons _ ?_))) ?_
                  refine SA.done (by kernel_rfl) ?_
                  refine SE.nb ?_
                  refine SC.then ?_
                  refine SC.region ?_
                  refine SL.y (OV.add rfl rfl (wrap_i64 (by omega) (by omega))) rfl ?_
                  refine SL.y (OV.move rfl) rfl ?_
                  refine SL.nil ?_
                  refine SE.round (k + 1, { L with b5 := sa.1.1, c5 := sa.1.2.1, sp5 := sa.1.2.2, b6 := sb.1.1, c6 := sb.1.2.1, sp6 := sb.1.2.2 }) ⟨by simp; omega, ?_⟩ (by simp; omega) ?_ ?_
                  · show L6.ok _ (fold6 se st D.txl (k + 1))
                    rw [hs6]
                    exact ⟨L1, L2, by rw [hlen1]; exact sa.2.2, sa.2.1, by rw [hlen2]; exact sb.2.2, sb.2.1⟩
                  · show ESub (_ :: _ :: _ :: E6 D b13 b14 b15 _ (fold6 se st D.txl (k + 1))) _
                    rw [hs6]
                    exact (by repeat' (first | exact trivial | refine ⟨rfl, ?_⟩))
                  · show List.Sublist (M6 D D.nd b13 b14 b15 st se co _ (fold6 se st D.txl (k + 1))) _
                    rw [hs6]
                    unfold M6 sbox
                    dsimp only
                    rw [hlen1, hlen2, set_56]
                    exact (by repeat (first | exact List.nil_sublist _ | refine List.Sublist.cons_cons _ ?_ | refine List.Sublist.cons _ ?_))
      · skip
        refine SO.e rfl (OE.bslice1I u60 in61 rfl) rfl (fun _ => (by first | exact List.nil_sublist _ | exact List.Sublist.refl _ | (repeat (first | exact List.Sublist.refl _ | exact List.nil_sublist _ | refine List.Sublist.cons_cons _ ?_ | refine List.Sublist.cons _ ?_)))) ?_
        intro bb
        refine SA.all (rs := [10]) (by kernel_rfl) (by simp) (all_cons ?_ (all_nil))
        · skip
          refine SO.e rfl (OE.bslice1I u51 in3 rfl) rfl (fun _ => (by first | exact List.nil_sublist _ | exact List.Sublist.refl _ | (repeat (first | exact List.Sublist.refl _ | exact List.nil_sublist _ | refine List.Sublist.cons_cons _ ?_ | refine List.Sublist.cons _ ?_)))) ?_
          intro ba
          refine SA.all (rs := [11]) (by kernel_rfl) (by simp) (all_cons ?_ (all_nil))
          · skip
            refine SO.e rfl (OE.appendI 6 9 u51 in3 rfl rfl rfl rfl rfl L3 L4 (by unfold maxLen; omega) (by omega)) rfl (fun _ => (by first | exact List.nil_sublist _ | exact List.Sublist.refl _ | (repeat (first | exact List.Sublist.refl _ | exact List.nil_sublist _ | refine List.Sublist.cons_cons _ ?_ | refine List.Sublist.cons _ ?_)))) ?_
            intro sa
            refine SA.all (rs := [21]) (by kernel_rfl) (by simp) (all_cons ?_ (all_nil))
            · skip
              refine SO.e rfl (OE.appendI 7 8 u60 in61 rfl rfl rfl rfl rfl L5 L6' (by unfold maxLen; omega) (by omega)) rfl (fun _ => (by first | exact List.nil_sublist _ | exact List.Sublist.refl _ | (repeat (first | exact List.Sublist.refl _ | exact List.nil_sublist _ | refine List.Sublist.cons_cons _ ?_ | refine List.Sublist.cons _ ?_)))) ?_
              intro sb
              refine SA.takeC (i := 22) (by repeat (first | exact hPQ | refine PanicOk.then ?_ | refine PanicOk.block ?_ | exact PanicOk.body)) rfl (by kernel_rfl) (by kernel_rfl) (by kernel_rfl) rfl (by first | exact List.nil_sublist _ | exact List.Sublist.refl _ | (repeat (first | exact List.Sublist.refl _ | exact List.nil_sublist _ | refine List.Sublist.cons_cons _ ?_ | refine List.Sublist.cons _ ?_))) (OV.nilCheck rfl) rfl ?_
              refine SA.takeC (i := 23) (by repeat (first | exact hPQ | refine PanicOk.then ?_ | refine PanicOk.block ?_ | exact PanicOk.body)) rfl (by kernel_rfl) (by kernel_rfl) (by kernel_rfl) rfl (by first | exact List.nil_sublist _ | exact List.Sublist.refl _ | (repeat (first | exact List.Sublist.refl _ | exact List.nil_sublist _ | refine List.Sublist.cons_cons _ ?_ | refine List.Sublist.cons _ ?_))) (OV.fld fo74_3 rfl) rfl ?_
              refine SA.all (rs := [24]) (by kernel_rfl) (by simp) (all_cons ?_ (all_nil))
              · skip
                refine SO.s rfl (OS.store1 1 sz51 rfl rfl rfl rfl (by simp [H.csl])) (by first | exact List.nil_sublist _ | exact List.Sublist.refl _ | (repeat (first | exact List.Sublist.refl _ | exact List.nil_sublist _ | refine List.Sublist.cons_cons _ ?_ | refine List.Sublist.cons _ ?_))) ?_
                refine SA.takeC (i := 25) (by repeat (first | exact hPQ | refine PanicOk.then ?_ | refine PanicOk.block ?_ | exact PanicOk.body)) rfl (by kernel_rfl) (by kernel_rfl) (by kernel_rfl) rfl (by first | exact List.nil_sublist _ | exact List.Sublist.refl _ | (repeat (first | exact List.Sublist.refl _ | exact List.nil_sublist _ | refine List.Sublist.cons_cons _ ?_ | refine List.Sublist.cons _ ?_))) (OV.nilCheck rfl) rfl ?_
                refine SA.takeC (i := 26) (by repeat (first | exact hPQ | refine PanicOk.then ?_ | refine PanicOk.block ?_ | exact PanicOk.body)) rfl (by kernel_rfl) (by kernel_rfl) (by kernel_rfl) rfl (by first | exact List.nil_sublist _ | exact List.Sublist.refl _ | (repeat (first | exact List.Sublist.refl _ | exact List.nil_sublist _ | refine List.Sublist.cons_cons _ ?_ | refine List.Sublist.cons _ ?_))) (OV.fld fo74_4 rfl) rfl ?_
                refine SA.all (rs := [27]) (by kernel_rfl) (by simp) (all_cons ?_ (all_nil))
                · skip
                  refine SO.s rfl (OS.store1 1 sz60 rfl rfl rfl rfl (by simp [H.csl])) (by first | exact List.nil_sublist _ | exact List.Sublist.refl _ | (repeat (first | exact List.Sublist.refl _ | exact List.nil_sublist _ | refine List.Sublist.cons_cons _ ?_ | refine List.Sublist.cons _ ?_))) ?_
                  refine SA.done (by kernel_rfl) ?_
                  refine SE.nb ?_
                  refine SC.then ?_
                  refine SC.region ?_
                  refine SL.y (OV.add rfl rfl (wrap_i64 (by omega) (by omega))) rfl ?_
                  refine SL.y (OV.move rfl) rfl ?_
                  refine SL.nil ?_
                  refine SE.round (k + 1, { L with b5 := sa.1.1, c5 := sa.1.2.1, sp5 := sa.1.2.2, b6 := sb.1.1, c6 := sb.1.2.1, sp6 := sb.1.2.2 }) ⟨by simp; omega, ?_⟩ (by simp; omega) ?_ ?_
                  · show L6.ok _ (fold6 se st D.txl (k + 1))
                    rw [hs6]
                    exact ⟨L1, L2, by rw [hlen1]; exact sa.2.2, sa.2.1, by rw [hlen2]; exact sb.2.2, sb.2.1⟩
                  · show ESub (_ :: _ :: _ :: E6 D b13 b14 b15 _ (fold6 se st D.txl (k + 1))) _
                    rw [hs6]
                    exact (by repeat' (first | exact trivial | refine ⟨rfl, ?_⟩))
                  · show List.Sublist (M6 D D.nd b13 b14 b15 st se co _ (fold6 se st D.txl (k + 1))) _
                    rw [hs6]
                    unfold M6 sbox
                    dsimp only
                    rw [hlen1, hlen2, set_56]
                    exact (by repeat (first | exact List.nil_sublist _ | refine List.Sublist.cons_cons _ ?_ | refine List.Sublist.cons _ ?_))
  · have hkC : k = D.C := by simp at hge; omega
    subst hkC
    refine SC.exit ?_
    refine SE.thenE (SE.thenE (SE.inBlock ?_))
    exact SE.weaken (by repeat' (first | exact trivial | refine ⟨rfl, ?_⟩)) (List.Sublist.refl _) (h L hL)

/-- node[t] = searched[node[t]] -/
theorem loop7 (H : AH D w0) {st se co : Nat → Int} {L : L6} {s : S6}
    (h : SE (Q .normal) Yba.f11.ntmps (E6 D b13 b14 b15 L s) w0 [D.bn, D.bs] (M6 D (fold7 se D.nd D.T) b13 b14 b15 st se co L s)) :
    SC Yba.prog (sub [1, 1, 1, 1, 1, 1, 1, 1, 1, 1, 1, 0, 1] (Yba.f11.body.getD .skip)) Q Yba.f11.ntmps ((267, .slice (some ⟨D.bn, 0, none⟩) D.T D.T) :: (268, .int .i64 D.T) :: (269, .int .i64 (0 : Nat)) :: E6 D b13 b14 b15 L s) w0 [D.bn, D.bs] (M6 D D.nd b13 b14 b15 st se co L s) := by
  have hT := H.Tle
  refine SC.block ?_
  refine SC.loop (fun t : Nat => (267, .slice (some ⟨D.bn, 0, none⟩) D.T D.T) :: (268, .int .i64 D.T) :: (269, .int .i64 t) :: E6 D b13 b14 b15 L s) (fun t => M6 D (fold7 se D.nd t) b13 b14 b15 st se co L s) (fun t => t ≤ D.T) (fun t => D.T - t) 0 (Nat.zero_le _) (by repeat' (first | exact trivial | refine ⟨rfl, ?_⟩)) (List.Sublist.refl _) ?_
  intro t ht
  have hlat := fold7_later se D.nd t t (Nat.le_refl _)
  have hs7 := fold7_succ se D.nd t
  generalize hft : fold7 se D.nd t = nt at *
  refine SC.seq ?_
  refine SC.region ?_
  refine SL.y (OV.lss rfl rfl) rfl ?_
  refine SL.nil ?_
  refine SC.then ?_
  refine SC.seq ?_
  refine SC.condP rfl (fun hlt => ?_) (fun hge => ?_)
  · have hlt' : t < D.T := by omega
    have hnd := H.ndC t hlt'
    rw [← hlat] at hnd
    refine SC.skip ?_
    refine SC.then ?_
    refine SC.seq ?_
    refine SC.block ?_
    refine SC.seq ?_
    refine SC.region ?_
    refine SL.y (OV.move rfl) rfl ?_
    refine SL.y (OV.idx1 _ u47 se47 rfl rfl rfl (by omega)) rfl ?_
    refine SL.y (OV.loadI 0 sc21 rfl rfl (by omega)) rfl ?_
    refine SL.y (OV.assign rfl) rfl ?_
    refine SL.y (OV.assign rfl) rfl ?_
    refine SL.nil ?_
    refine SC.then ?_
    refine SC.seq ?_
    refine SC.region ?_
    refine SL.y (OV.move rfl) rfl ?_
    refine SL.y (OV.geq rfl rfl) rfl ?_
    refine SL.nil ?_
    refine SC.then ?_
    unfold step7 at hs7
    refine SC.condP rfl (fun hv => ?_) (fun hv => ?_)
    · rw [if_pos hv] at hs7
      have hq : nt t = ((nt t).toNat : Int) := by omega
      refine SC.region ?_
      refine SL.y (OV.move rfl) rfl ?_
      refine SL.y (OV.move rfl) rfl ?_
      refine SL.y (OV.move rfl) rfl ?_
      refine SL.y (OV.move rfl) rfl ?_
      refine SL.y (OV.idx1 (nt t).toNat u47 se47 rfl rfl hq (by omega)) rfl ?_
      refine SL.y (OV.loadI 3 sc21 rfl rfl (by omega)) rfl ?_
      refine SL.y (OV.idx1 _ u47 se47 rfl rfl rfl (by omega)) rfl ?_
      refine SL.s (OS.storeI 0 sz21 rfl rfl rfl (by omega)) ?_
      refine SL.nil ?_
      refine SE.nb ?_
      refine SC.then ?_
      refine SC.region ?_
      refine SL.y (OV.add rfl rfl (wrap_i64 (by omega) (by omega))) rfl ?_
      refine SL.y (OV.move rfl) rfl ?_
      refine SL.nil ?_
      refine SE.round (t + 1) (by omega) (by omega) (by repeat' (first | exact trivial | refine ⟨rfl, ?_⟩)) ?_
      rw [hs7]
      exact (List.Sublist.refl _)
    · rw [if_neg hv] at hs7
      refine SC.skip ?_
      refine SE.nb ?_
      refine SC.then ?_
      refine SC.region ?_
      refine SL.y (OV.add rfl rfl (wrap_i64 (by omega) (by omega))) rfl ?_
      refine SL.y (OV.move rfl) rfl ?_
      refine SL.nil ?_
      refine SE.round (t + 1) (by omega) (by omega) (by repeat' (first | exact trivial | refine ⟨rfl, ?_⟩)) ?_
      rw [hs7]
      exact (List.Sublist.refl _)
  · have : t = D.T := by omega
    subst this
    refine SC.exit ?_
    refine SE.thenE (SE.thenE (SE.inBlock ?_))
    rw [hft] at h
    exact SE.weaken (by repeat' (first | exact trivial | refine ⟨rfl, ?_⟩)) (List.Sublist.refl _) h

/-- What setApart hands back and leaves. -/
abbrev AD.se (D : AD) : Nat → Int := (fold5 (D.f2 D.I).searched D.C).searched
abbrev AD.out (D : AD) : S6 := fold6 D.se (D.f2 D.I).steps D.txl D.C
abbrev AD.node (D : AD) : Nat → Int := fold7 D.se D.nd D.T

set_option maxRecDepth 100000 in
set_option maxHeartbeats 2000000 in
/-- setApart's contract. -/
theorem calls (H : AH D w0) (hbn : w0.heap[D.bn]? = some (irow 21 .i32 D.T D.nd)) (hbs : w0.heap[D.bs]? = some (row 74 D.cs)) :
    Calls Yba.prog 11 #[.pointer (some ⟨D.bs, 0, none⟩), .pointer (some ⟨D.bix, 0, none⟩), .slice (some ⟨D.bt, 0, none⟩) D.C D.ct, .slice (some ⟨D.bn, 0, none⟩) D.T D.T, .slice (some ⟨D.bp, 0, none⟩) D.np D.cp, .slice (some ⟨D.bst, 0, none⟩) (D.I + 1) (D.I + 1)] w0
      fun e w' => ∃ L : L6, e = .returned (.slice (some ⟨L.b12, 0, none⟩) D.out.names.length L.c12) ∧ Mm w0 [D.bn, D.bs]
        [(D.bn, irow 21 .i32 D.T D.node), (D.bs, sbox D.cs (.slice (some ⟨L.b5, 0, none⟩) D.out.al.length L.c5) (.slice (some ⟨L.b6, 0, none⟩) D.out.als.length L.c6)),
          (L.b12, lrow 3 .i64 D.out.names L.sp12), (L.b5, lrow 3 .i64 D.out.al L.sp5), (L.b6, lrow 61 .u32 D.out.als L.sp6)] w' := by
  have hC := H.Cle
  have hM0 : Mm w0 [D.bn, D.bs] [(D.bn, irow 21 .i32 D.T D.nd), (D.bs, row 74 D.cs)] w0 := Mm.start' (by
    intro p hp
    simp at hp
    rcases hp with rfl | rfl
    · exact hbn
    · exact hbs) rfl (by simpa using H.n7)
  refine Calls.of_SC (args := [.pointer (some ⟨D.bs, 0, none⟩), .pointer (some ⟨D.bix, 0, none⟩), .slice (some ⟨D.bt, 0, none⟩) D.C D.ct, .slice (some ⟨D.bn, 0, none⟩) D.T D.T, .slice (some ⟨D.bp, 0, none⟩) D.np D.cp, .slice (some ⟨D.bst, 0, none⟩) (D.I + 1) (D.I + 1)]) Yba.func11 rfl (by simp [Yba.f11]) hM0 ?_
  refine SC.seq ?_
  refine SC.region ?_
  refine SL.y (OV.assign rfl) rfl ?_
  refine SL.nil ?_
  refine SC.then ?_
  refine SC.seq ?_
  refine SC.region ?_
  refine SL.y (OV.move rfl) rfl ?_
  refine SL.y (OV.len u51 rfl) rfl ?_
  refine SL.e (OE.makeI D.C D.C u60 in61 rfl rfl rfl rfl (by omega) (by omega) (by omega)) rfl ?_
  intro b13
  refine SL.y (OV.assign rfl) rfl ?_
  refine SL.nil ?_
  refine SC.then ?_
  refine SC.seq ?_
  refine SC.region ?_
  refine SL.y (OV.move rfl) rfl ?_
  refine SL.y (OV.len u51 rfl) rfl ?_
  refine SL.e (OE.makeI D.C D.C u47 in21 rfl rfl rfl rfl (by omega) (by omega) (by omega)) rfl ?_
  intro b14
  refine SL.y (OV.assign rfl) rfl ?_
  refine SL.nil ?_
  refine SC.then ?_
  refine SC.seq ?_
  refine SC.region ?_
  refine SL.y (OV.move rfl) rfl ?_
  refine SL.y (OV.len u51 rfl) rfl ?_
  refine SL.e (OE.makeI D.C D.C u47 in21 rfl rfl rfl rfl (by omega) (by omega) (by omega)) rfl ?_
  intro b15
  refine SL.y (OV.assign rfl) rfl ?_
  refine SL.nil ?_
  refine SC.then ?_
  refine SC.seq ?_
  refine SC.seq ?_
  refine SC.region ?_
  refine SL.y (OV.move rfl) rfl ?_
  refine SL.y (OV.len u51 rfl) rfl ?_
  refine SL.y (OV.move rfl) rfl ?_
  refine SL.nil ?_
  refine SC.then ?_
  refine SC.weaken ?_ ?_ (loop1 (b13 := b13) (b14 := b14) (b15 := b15) H ?_)
  · exact (by repeat' (first | exact trivial | refine ⟨rfl, ?_⟩))
  · exact (List.Sublist.refl _)
  refine SC.then ?_
  refine SC.seq ?_
  refine SC.seq ?_
  refine SC.region ?_
  refine SL.y (OV.move rfl) rfl ?_
  refine SL.y (OV.nilCheck rfl) rfl ?_
  refine SL.y (OV.fld fo56_5 rfl) rfl ?_
  refine SL.y (OV.loadOld sc3 rfl H.n1 H.ix5) rfl ?_
  refine SL.y (OV.move rfl) rfl ?_
  refine SL.nil ?_
  refine SC.then ?_
  refine SC.weaken ?_ ?_ (loop2 (b13 := b13) (b14 := b14) (b15 := b15) H ?_)
  · exact (by repeat' (first | exact trivial | refine ⟨rfl, ?_⟩))
  · exact (List.Sublist.refl _)
  refine SC.then ?_
  refine SC.seq ?_
  refine SC.region ?_
  refine SL.y (OV.assign rfl) rfl ?_
  refine SL.nil ?_
  refine SC.then ?_
  refine SC.seq ?_
  refine SC.seq ?_
  refine SC.region ?_
  refine SL.y (OV.move rfl) rfl ?_
  refine SL.y (OV.len u47 rfl) rfl ?_
  refine SL.y (OV.move rfl) rfl ?_
  refine SL.nil ?_
  refine SC.then ?_
  refine SC.weaken ?_ ?_ (loop5 (b13 := b13) (b14 := b14) (b15 := b15) (st := (D.f2 D.I).steps) (se := (D.f2 D.I).searched) (co := (D.f2 D.I).counted) H ?_)
  · exact (by repeat' (first | exact trivial | refine ⟨rfl, ?_⟩))
  · exact (List.Sublist.refl _)
  refine SC.then ?_
  have hnodes := fold5_nodes (D.f2 D.I).searched D.C
  refine SC.seq ?_
  refine SC.region ?_
  refine SL.y (OV.move rfl) rfl ?_
  refine SL.e (OE.makeL (fold5 (D.f2 D.I).searched D.C).nodes u51 in3 rfl rfl rfl (by omega) (by omega)) rfl ?_
  intro b12
  refine SL.y (OV.assign rfl) rfl ?_
  refine SL.nil ?_
  refine SC.then ?_
  refine SC.cutG (σ := Nat × Nat) (fun b => E6 D b13 b14 b15 ⟨b12, (fold5 (D.f2 D.I).searched D.C).nodes, b.1, D.C - (fold5 (D.f2 D.I).searched D.C).nodes, b.2, D.C - (fold5 (D.f2 D.I).searched D.C).nodes, List.replicate (fold5 (D.f2 D.I).searched D.C).nodes (.int .i64 0), List.replicate (D.C - (fold5 (D.f2 D.I).searched D.C).nodes) (.int .i64 0), List.replicate (D.C - (fold5 (D.f2 D.I).searched D.C).nodes) (.int .u32 0)⟩ ⟨[], [], []⟩)
    (fun b => M6 D D.nd b13 b14 b15 (D.f2 D.I).steps D.se (D.f2 D.I).counted ⟨b12, (fold5 (D.f2 D.I).searched D.C).nodes, b.1, D.C - (fold5 (D.f2 D.I).searched D.C).nodes, b.2, D.C - (fold5 (D.f2 D.I).searched D.C).nodes, List.replicate (fold5 (D.f2 D.I).searched D.C).nodes (.int .i64 0), List.replicate (D.C - (fold5 (D.f2 D.I).searched D.C).nodes) (.int .i64 0), List.replicate (D.C - (fold5 (D.f2 D.I).searched D.C).nodes) (.int .u32 0)⟩ ⟨[], [], []⟩) (fun _ => True) ?_ ?_
  · have hPQ : PanicOk (bodyPost Yba.prog Yba.f11 fun e w' => ∃ L : L6, e = .returned (.slice (some ⟨L.b12, 0, none⟩) D.out.names.length L.c12) ∧ Mm w0 [D.bn, D.bs] [(D.bn, irow 21 .i32 D.T D.node), (D.bs, sbox D.cs (.slice (some ⟨L.b5, 0, none⟩) D.out.al.length L.c5) (.slice (some ⟨L.b6, 0, none⟩) D.out.als.length L.c6)), (L.b12, lrow 3 .i64 D.out.names L.sp12), (L.b5, lrow 3 .i64 D.out.al L.sp5), (L.b6, lrow 61 .u32 D.out.als L.sp6)] w') := PanicOk.body
    generalize (fold5 (D.f2 D.I).searched D.C).nodes = nodes at *
    refine SC.held 99 [] [] mixed ?_
    refine SA.takeC (i := 0) (by repeat (first | exact hPQ | refine PanicOk.then ?_ | refine PanicOk.block ?_ | exact PanicOk.body)) rfl (by kernel_rfl) (by kernel_rfl) (by kernel_rfl) rfl (by first | exact List.nil_sublist _ | exact List.Sublist.refl _ | (repeat (first | exact List.Sublist.refl _ | exact List.nil_sublist _ | refine List.Sublist.cons_cons _ ?_ | refine List.Sublist.cons _ ?_))) (OV.move rfl) rfl ?_
    refine SA.takeC (i := 1) (by repeat (first | exact hPQ | refine PanicOk.then ?_ | refine PanicOk.block ?_ | exact PanicOk.body)) rfl (by kernel_rfl) (by kernel_rfl) (by kernel_rfl) rfl (by first | exact List.nil_sublist _ | exact List.Sublist.refl _ | (repeat (first | exact List.Sublist.refl _ | exact List.nil_sublist _ | refine List.Sublist.cons_cons _ ?_ | refine List.Sublist.cons _ ?_))) (OV.move rfl) rfl ?_
    refine SA.takeC (i := 2) (by repeat (first | exact hPQ | refine PanicOk.then ?_ | refine PanicOk.block ?_ | exact PanicOk.body)) rfl (by kernel_rfl) (by kernel_rfl) (by kernel_rfl) rfl (by first | exact List.nil_sublist _ | exact List.Sublist.refl _ | (repeat (first | exact List.Sublist.refl _ | exact List.nil_sublist _ | refine List.Sublist.cons_cons _ ?_ | refine List.Sublist.cons _ ?_))) (OV.move rfl) rfl ?_
    refine SA.takeC (i := 3) (by repeat (first | exact hPQ | refine PanicOk.then ?_ | refine PanicOk.block ?_ | exact PanicOk.body)) rfl (by kernel_rfl) (by kernel_rfl) (by kernel_rfl) rfl (by first | exact List.nil_sublist _ | exact List.Sublist.refl _ | (repeat (first | exact List.Sublist.refl _ | exact List.nil_sublist _ | refine List.Sublist.cons_cons _ ?_ | refine List.Sublist.cons _ ?_))) (OV.len u51 rfl) rfl ?_
    refine SA.takeC (i := 4) (by repeat (first | exact hPQ | refine PanicOk.then ?_ | refine PanicOk.block ?_ | exact PanicOk.body)) rfl (by kernel_rfl) (by kernel_rfl) (by kernel_rfl) rfl (by first | exact List.nil_sublist _ | exact List.Sublist.refl _ | (repeat (first | exact List.Sublist.refl _ | exact List.nil_sublist _ | refine List.Sublist.cons_cons _ ?_ | refine List.Sublist.cons _ ?_))) (OV.move rfl) rfl ?_
    refine SA.takeC (i := 5) (by repeat (first | exact hPQ | refine PanicOk.then ?_ | refine PanicOk.block ?_ | exact PanicOk.body)) rfl (by kernel_rfl) (by kernel_rfl) (by kernel_rfl) rfl (by first | exact List.nil_sublist _ | exact List.Sublist.refl _ | (repeat (first | exact List.Sublist.refl _ | exact List.nil_sublist _ | refine List.Sublist.cons_cons _ ?_ | refine List.Sublist.cons _ ?_))) (OV.sub rfl rfl (wrap_i64 (by omega) (by omega))) rfl ?_
    refine SA.takeC (i := 7) (by repeat (first | exact hPQ | refine PanicOk.then ?_ | refine PanicOk.block ?_ | exact PanicOk.body)) rfl (by kernel_rfl) (by kernel_rfl) (by kernel_rfl) rfl (by first | exact List.nil_sublist _ | exact List.Sublist.refl _ | (repeat (first | exact List.Sublist.refl _ | exact List.nil_sublist _ | refine List.Sublist.cons_cons _ ?_ | refine List.Sublist.cons _ ?_))) (OV.move rfl) rfl ?_
    refine SA.takeC (i := 8) (by repeat (first | exact hPQ | refine PanicOk.then ?_ | refine PanicOk.block ?_ | exact PanicOk.body)) rfl (by kernel_rfl) (by kernel_rfl) (by kernel_rfl) rfl (by first | exact List.nil_sublist _ | exact List.Sublist.refl _ | (repeat (first | exact List.Sublist.refl _ | exact List.nil_sublist _ | refine List.Sublist.cons_cons _ ?_ | refine List.Sublist.cons _ ?_))) (OV.len u51 rfl) rfl ?_
    refine SA.takeC (i := 9) (by repeat (first | exact hPQ | refine PanicOk.then ?_ | refine PanicOk.block ?_ | exact PanicOk.body)) rfl (by kernel_rfl) (by kernel_rfl) (by kernel_rfl) rfl (by first | exact List.nil_sublist _ | exact List.Sublist.refl _ | (repeat (first | exact List.Sublist.refl _ | exact List.nil_sublist _ | refine List.Sublist.cons_cons _ ?_ | refine List.Sublist.cons _ ?_))) (OV.move rfl) rfl ?_
    refine SA.takeC (i := 10) (by repeat (first | exact hPQ | refine PanicOk.then ?_ | refine PanicOk.block ?_ | exact PanicOk.body)) rfl (by kernel_rfl) (by kernel_rfl) (by kernel_rfl) rfl (by first | exact List.nil_sublist _ | exact List.Sublist.refl _ | (repeat (first | exact List.Sublist.refl _ | exact List.nil_sublist _ | refine List.Sublist.cons_cons _ ?_ | refine List.Sublist.cons _ ?_))) (OV.sub rfl rfl (wrap_i64 (by omega) (by omega))) rfl ?_
    refine SA.all (rs := [6, 11]) (by kernel_rfl) (by simp) (all_cons ?_ (all_cons ?_ (all_nil)))
    · skip
      refine SO.e rfl (OE.makeL (D.C - nodes) u51 in3 rfl rfl (by omega) (by omega) (by omega)) rfl (fun _ => (by first | exact List.nil_sublist _ | exact List.Sublist.refl _ | (repeat (first | exact List.Sublist.refl _ | exact List.nil_sublist _ | refine List.Sublist.cons_cons _ ?_ | refine List.Sublist.cons _ ?_)))) ?_
      intro b6
      refine SA.takeC (i := 12) (by repeat (first | exact hPQ | refine PanicOk.then ?_ | refine PanicOk.block ?_ | exact PanicOk.body)) rfl (by kernel_rfl) (by kernel_rfl) (by kernel_rfl) rfl (by first | exact List.nil_sublist _ | exact List.Sublist.refl _ | (repeat (first | exact List.Sublist.refl _ | exact List.nil_sublist _ | refine List.Sublist.cons_cons _ ?_ | refine List.Sublist.cons _ ?_))) (OV.nilCheck rfl) rfl ?_
      refine SA.takeC (i := 13) (by repeat (first | exact hPQ | refine PanicOk.then ?_ | refine PanicOk.block ?_ | exact PanicOk.body)) rfl (by kernel_rfl) (by kernel_rfl) (by kernel_rfl) rfl (by first | exact List.nil_sublist _ | exact List.Sublist.refl _ | (repeat (first | exact List.Sublist.refl _ | exact List.nil_sublist _ | refine List.Sublist.cons_cons _ ?_ | refine List.Sublist.cons _ ?_))) (OV.fld fo74_3 rfl) rfl ?_
      refine SA.all (rs := [11, 14]) (by kernel_rfl) (by simp) (all_cons ?_ (all_cons ?_ (all_nil)))
      · skip
        refine SO.e rfl (OE.makeL (D.C - nodes) u60 in61 rfl rfl (by omega) (by omega) (by omega)) rfl (fun _ => (by first | exact List.nil_sublist _ | exact List.Sublist.refl _ | (repeat (first | exact List.Sublist.refl _ | exact List.nil_sublist _ | refine List.Sublist.cons_cons _ ?_ | refine List.Sublist.cons _ ?_)))) ?_
        intro b11
        refine SA.all (rs := [14]) (by kernel_rfl) (by simp) (all_cons ?_ (all_nil))
        · skip
          refine SO.s rfl (OS.store1 1 sz51 rfl rfl rfl rfl (by simp [H.csl])) (by first | exact List.nil_sublist _ | exact List.Sublist.refl _ | (repeat (first | exact List.Sublist.refl _ | exact List.nil_sublist _ | refine List.Sublist.cons_cons _ ?_ | refine List.Sublist.cons _ ?_))) ?_
          refine SA.takeC (i := 15) (by repeat (first | exact hPQ | refine PanicOk.then ?_ | refine PanicOk.block ?_ | exact PanicOk.body)) rfl (by kernel_rfl) (by kernel_rfl) (by kernel_rfl) rfl (by first | exact List.nil_sublist _ | exact List.Sublist.refl _ | (repeat (first | exact List.Sublist.refl _ | exact List.nil_sublist _ | refine List.Sublist.cons_cons _ ?_ | refine List.Sublist.cons _ ?_))) (OV.nilCheck rfl) rfl ?_
          refine SA.takeC (i := 16) (by repeat (first | exact hPQ | refine PanicOk.then ?_ | refine PanicOk.block ?_ | exact PanicOk.body)) rfl (by kernel_rfl) (by kernel_rfl) (by kernel_rfl) rfl (by first | exact List.nil_sublist _ | exact List.Sublist.refl _ | (repeat (first | exact List.Sublist.refl _ | exact List.nil_sublist _ | refine List.Sublist.cons_cons _ ?_ | refine List.Sublist.cons _ ?_))) (OV.fld fo74_4 rfl) rfl ?_
          refine SA.all (rs := [17]) (by kernel_rfl) (by simp) (all_cons ?_ (all_nil))
          · skip
            refine SO.s rfl (OS.store1 1 sz60 rfl rfl rfl rfl (by simp [H.csl])) (by first | exact List.nil_sublist _ | exact List.Sublist.refl _ | (repeat (first | exact List.Sublist.refl _ | exact List.nil_sublist _ | refine List.Sublist.cons_cons _ ?_ | refine List.Sublist.cons _ ?_))) ?_
            refine SA.done (by kernel_rfl) ?_
            first | exact SE.toG (b6, b11) trivial (by repeat' (first | exact trivial | refine ⟨rfl, ?_⟩)) (List.Sublist.refl _) | exact SE.perm (m' := M6 D D.nd b13 b14 b15 (D.f2 D.I).steps D.se (D.f2 D.I).counted ⟨b12, nodes, b6, D.C - nodes, b11, D.C - nodes, List.replicate nodes (.int .i64 0), List.replicate (D.C - nodes) (.int .i64 0), List.replicate (D.C - nodes) (.int .u32 0)⟩ ⟨[], [], []⟩) (by repeat (first | exact List.Perm.refl _ | exact List.Perm.swap _ _ _ | refine List.Perm.cons _ ?_)) (SE.toG (b6, b11) trivial (by repeat' (first | exact trivial | refine ⟨rfl, ?_⟩)) (List.Sublist.refl _))
      · skip
        refine SO.s rfl (OS.store1 1 sz51 rfl rfl rfl rfl (by simp [H.csl])) (by first | exact List.nil_sublist _ | exact List.Sublist.refl _ | (repeat (first | exact List.Sublist.refl _ | exact List.nil_sublist _ | refine List.Sublist.cons_cons _ ?_ | refine List.Sublist.cons _ ?_))) ?_
        refine SA.all (rs := [11]) (by kernel_rfl) (by simp) (all_cons ?_ (all_nil))
        · skip
          refine SO.e rfl (OE.makeL (D.C - nodes) u60 in61 rfl rfl (by omega) (by omega) (by omega)) rfl (fun _ => (by first | exact List.nil_sublist _ | exact List.Sublist.refl _ | (repeat (first | exact List.Sublist.refl _ | exact List.nil_sublist _ | refine List.Sublist.cons_cons _ ?_ | refine List.Sublist.cons _ ?_)))) ?_
          intro b11
          refine SA.takeC (i := 15) (by repeat (first | exact hPQ | refine PanicOk.then ?_ | refine PanicOk.block ?_ | exact PanicOk.body)) rfl (by kernel_rfl) (by kernel_rfl) (by kernel_rfl) rfl (by first | exact List.nil_sublist _ | exact List.Sublist.refl _ | (repeat (first | exact List.Sublist.refl _ | exact List.nil_sublist _ | refine List.Sublist.cons_cons _ ?_ | refine List.Sublist.cons _ ?_))) (OV.nilCheck rfl) rfl ?_
          refine SA.takeC (i := 16) (by repeat (first | exact hPQ | refine PanicOk.then ?_ | refine PanicOk.block ?_ | exact PanicOk.body)) rfl (by kernel_rfl) (by kernel_rfl) (by kernel_rfl) rfl (by first | exact List.nil_sublist _ | exact List.Sublist.refl _ | (repeat (first | exact List.Sublist.refl _ | exact List.nil_sublist _ | refine List.Sublist.cons_cons _ ?_ | refine List.Sublist.cons _ ?_))) (OV.fld fo74_4 rfl) rfl ?_
          refine SA.all (rs := [17]) (by kernel_rfl) (by simp) (all_cons ?_ (all_nil))
          · skip
            refine SO.s rfl (OS.store1 1 sz60 rfl rfl rfl rfl (by simp [H.csl])) (by first | exact List.nil_sublist _ | exact List.Sublist.refl _ | (repeat (first | exact List.Sublist.refl _ | exact List.nil_sublist _ | refine List.Sublist.cons_cons _ ?_ | refine List.Sublist.cons _ ?_))) ?_
            refine SA.done (by kernel_rfl) ?_
            first | exact SE.toG (b6, b11) trivial (by repeat' (first | exact trivial | refine ⟨rfl, ?_⟩)) (List.Sublist.refl _) | exact SE.perm (m' := M6 D D.nd b13 b14 b15 (D.f2 D.I).steps D.se (D.f2 D.I).counted ⟨b12, nodes, b6, D.C - nodes, b11, D.C - nodes, List.replicate nodes (.int .i64 0), List.replicate (D.C - nodes) (.int .i64 0), List.replicate (D.C - nodes) (.int .u32 0)⟩ ⟨[], [], []⟩) (by repeat (first | exact List.Perm.refl _ | exact List.Perm.swap _ _ _ | refine List.Perm.cons _ ?_)) (SE.toG (b6, b11) trivial (by repeat' (first | exact trivial | refine ⟨rfl, ?_⟩)) (List.Sublist.refl _))
    · skip
      refine SO.e rfl (OE.makeL (D.C - nodes) u60 in61 rfl rfl (by omega) (by omega) (by omega)) rfl (fun _ => (by first | exact List.nil_sublist _ | exact List.Sublist.refl _ | (repeat (first | exact List.Sublist.refl _ | exact List.nil_sublist _ | refine List.Sublist.cons_cons _ ?_ | refine List.Sublist.cons _ ?_)))) ?_
      intro b11
      refine SA.all (rs := [6]) (by kernel_rfl) (by simp) (all_cons ?_ (all_nil))
      · skip
        refine SO.e rfl (OE.makeL (D.C - nodes) u51 in3 rfl rfl (by omega) (by omega) (by omega)) rfl (fun _ => (by first | exact List.nil_sublist _ | exact List.Sublist.refl _ | (repeat (first | exact List.Sublist.refl _ | exact List.nil_sublist _ | refine List.Sublist.cons_cons _ ?_ | refine List.Sublist.cons _ ?_)))) ?_
        intro b6
        refine SA.takeC (i := 12) (by repeat (first | exact hPQ | refine PanicOk.then ?_ | refine PanicOk.block ?_ | exact PanicOk.body)) rfl (by kernel_rfl) (by kernel_rfl) (by kernel_rfl) rfl (by first | exact List.nil_sublist _ | exact List.Sublist.refl _ | (repeat (first | exact List.Sublist.refl _ | exact List.nil_sublist _ | refine List.Sublist.cons_cons _ ?_ | refine List.Sublist.cons _ ?_))) (OV.nilCheck rfl) rfl ?_
        refine SA.takeC (i := 13) (by repeat (first | exact hPQ | refine PanicOk.then ?_ | refine PanicOk.block ?_ | exact PanicOk.body)) rfl (by kernel_rfl) (by kernel_rfl) (by kernel_rfl) rfl (by first | exact List.nil_sublist _ | exact List.Sublist.refl _ | (repeat (first | exact List.Sublist.refl _ | exact List.nil_sublist _ | refine List.Sublist.cons_cons _ ?_ | refine List.Sublist.cons _ ?_))) (OV.fld fo74_3 rfl) rfl ?_
        refine SA.all (rs := [14]) (by kernel_rfl) (by simp) (all_cons ?_ (all_nil))
        · skip
          refine SO.s rfl (OS.store1 1 sz51 rfl rfl rfl rfl (by simp [H.csl])) (by first | exact List.nil_sublist _ | exact List.Sublist.refl _ | (repeat (first | exact List.Sublist.refl _ | exact List.nil_sublist _ | refine List.Sublist.cons_cons _ ?_ | refine List.Sublist.cons _ ?_))) ?_
          refine SA.takeC (i := 15) (by repeat (first | exact hPQ | refine PanicOk.then ?_ | refine PanicOk.block ?_ | exact PanicOk.body)) rfl (by kernel_rfl) (by kernel_rfl) (by kernel_rfl) rfl (by first | exact List.nil_sublist _ | exact List.Sublist.refl _ | (repeat (first | exact List.Sublist.refl _ | exact List.nil_sublist _ | refine List.Sublist.cons_cons _ ?_ | refine List.Sublist.cons _ ?_))) (OV.nilCheck rfl) rfl ?_
          refine SA.takeC (i := 16) (by repeat (first | exact hPQ | refine PanicOk.then ?_ | refine PanicOk.block ?_ | exact PanicOk.body)) rfl (by kernel_rfl) (by kernel_rfl) (by kernel_rfl) rfl (by first | exact List.nil_sublist _ | exact List.Sublist.refl _ | (repeat (first | exact List.Sublist.refl _ | exact List.nil_sublist _ | refine List.Sublist.cons_cons _ ?_ | refine List.Sublist.cons _ ?_))) (OV.fld fo74_4 rfl) rfl ?_
          refine SA.all (rs := [17]) (by kernel_rfl) (by simp) (all_cons ?_ (all_nil))
          · skip
            refine SO.s rfl (OS.store1 1 sz60 rfl rfl rfl rfl (by simp [H.csl])) (by first | exact List.nil_sublist _ | exact List.Sublist.refl _ | (repeat (first | exact List.Sublist.refl _ | exact List.nil_sublist _ | refine List.Sublist.cons_cons _ ?_ | refine List.Sublist.cons _ ?_))) ?_
            refine SA.done (by kernel_rfl) ?_
            first | exact SE.toG (b6, b11) trivial (by repeat' (first | exact trivial | refine ⟨rfl, ?_⟩)) (List.Sublist.refl _) | exact SE.perm (m' := M6 D D.nd b13 b14 b15 (D.f2 D.I).steps D.se (D.f2 D.I).counted ⟨b12, nodes, b6, D.C - nodes, b11, D.C - nodes, List.replicate nodes (.int .i64 0), List.replicate (D.C - nodes) (.int .i64 0), List.replicate (D.C - nodes) (.int .u32 0)⟩ ⟨[], [], []⟩) (by repeat (first | exact List.Perm.refl _ | exact List.Perm.swap _ _ _ | refine List.Perm.cons _ ?_)) (SE.toG (b6, b11) trivial (by repeat' (first | exact trivial | refine ⟨rfl, ?_⟩)) (List.Sublist.refl _))
  intro b _
  refine SC.seq ?_
  refine SC.seq ?_
  refine SC.region ?_
  refine SL.y (OV.move rfl) rfl ?_
  refine SL.y (OV.len u47 rfl) rfl ?_
  refine SL.y (OV.move rfl) rfl ?_
  refine SL.nil ?_
  refine SC.then ?_
  refine SC.weaken ?_ ?_ (loop6 (b13 := b13) (b14 := b14) (b15 := b15) (st := (D.f2 D.I).steps) (se := D.se) (co := (D.f2 D.I).counted) (L0 := ⟨b12, (fold5 (D.f2 D.I).searched D.C).nodes, b.1, D.C - (fold5 (D.f2 D.I).searched D.C).nodes, b.2, D.C - (fold5 (D.f2 D.I).searched D.C).nodes, List.replicate (fold5 (D.f2 D.I).searched D.C).nodes (.int .i64 0), List.replicate (D.C - (fold5 (D.f2 D.I).searched D.C).nodes) (.int .i64 0), List.replicate (D.C - (fold5 (D.f2 D.I).searched D.C).nodes) (.int .u32 0)⟩) H (PanicOk.then PanicOk.body) ?_ ?_)
  · exact (by repeat' (first | exact trivial | refine ⟨rfl, ?_⟩))
  · exact (List.Sublist.refl _)
  · exact ⟨by simp, by dsimp only; unfold maxLen; omega, by simp, by dsimp only; unfold maxLen; omega, by simp, by dsimp only; unfold maxLen; omega⟩
  intro L hL
  refine SC.then ?_
  refine SC.seq ?_
  refine SC.seq ?_
  refine SC.region ?_
  refine SL.y (OV.move rfl) rfl ?_
  refine SL.y (OV.len u47 rfl) rfl ?_
  refine SL.y (OV.move rfl) rfl ?_
  refine SL.nil ?_
  refine SC.then ?_
  refine SC.weaken ?_ ?_ (loop7 (b13 := b13) (b14 := b14) (b15 := b15) (st := (D.f2 D.I).steps) (se := D.se) (co := (D.f2 D.I).counted) (L := L) (s := D.out) H ?_)
  · exact (by repeat' (first | exact trivial | refine ⟨rfl, ?_⟩))
  · exact (List.Sublist.refl _)
  refine SC.then ?_
  refine SC.seq ?_
  refine SC.region ?_
  refine SL.y (OV.move rfl) rfl ?_
  refine SL.y (OV.assign rfl) rfl ?_
  refine SL.nil ?_
  refine SC.then ?_
  refine SC.ret ?_
  exact SE.ret1 Yba.results11 rfl (fun w' hM => ⟨L, rfl, hM.weaken (by repeat (first | exact List.nil_sublist _ | refine List.Sublist.cons_cons _ ?_ | refine List.Sublist.cons _ ?_))⟩)
end
end Go.Proofs.Ybulkdrci.Apart
