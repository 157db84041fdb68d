import Derived.Test.YbulkdrciASweep
namespace Go.Proofs.Ybulkdrci.A
open Go Go.RowKit Go.Proofs.Ybulkdrci.A.Sym
set_option linter.unusedVariables false
set_option linter.unusedSimpArgs false
set_option maxRecDepth 100000

theorem info42 : (Yba.prog.info? 42).map (fun i => (i.zero, i.size, i.bytes)) = some (some (.int .u8 0), 1, 1) := by kernel_rfl
/-- All that is got. -/
def gAll (U P Q : Nat → Int) (n : Nat) : List (Nat → Int) := swl P U n n ++ [cm10 P U n n] ++ swl Q P n n
theorem count_one {U : Nat → Int} {i j : Nat} (hj : U i = (j : Int)) : irow 40 .i64 10 (upd (fun q => cnt U i q) j (cnt U i j + 1)) = irow 40 .i64 10 (fun q => cnt U (i + 1) q) := irow_congr fun q hq => by
  unfold upd
  show _ = cnt U i q + (if U i = (q : Int) then 1 else 0)
  rw [hj]
  by_cases e : q = j
  · subst e; simp
  · have : ¬ ((j : Int) = (q : Int)) := by omega
    simp [e, this]
theorem mix0 {a b : Nat → Int} {n : Nat} : irow 40 .i64 10 (fun q => cnt b n q) = irow 40 .i64 10 (cm10 a b n 0) := irow_congr fun q hq => cnt_congr (fun i hi => by unfold mix; rw [if_neg (by omega)]) _
theorem mixn {a b c : Nat → Int} {n : Nat} : irow 40 .i64 10 (cm10 a b n n) = irow 40 .i64 10 (cm10 c a n 0) := irow_congr fun q hq => cnt_congr (fun i hi => by unfold mix; rw [if_pos hi, if_neg (by omega)]) _
theorem apartL {w0 w : World} {F : List Nat} {A rest : List Blk} (h : Mm w0 F (rest ++ A) w) {j b : Nat} {o : Obj} (hj : rest[j]? = some (b, o)) : b ∉ A.map (·.1) := by
  have hn := h.nodup
  rw [List.map_append, List.nodup_append] at hn
  intro hin
  exact hn.2.2 _ (List.mem_map_of_mem (List.mem_of_getElem? hj)) _ hin rfl
theorem startA {w0 w : World} {F : List Nat} {A rest : List Blk} (h : Mm w0 F (rest ++ A) w) : Mm w (A.map (·.1)) A w :=
  Mm.start' (fun p hp => (h.own p (List.mem_append_right _ hp)).1) rfl (by have hn := h.nodup; rw [List.map_append, List.nodup_append] at hn; exact hn.2.1)
theorem backA {w0 w w' : World} {F : List Nat} {A A' rest : List Blk} (h : Mm w0 F (rest ++ A) w) (h' : Mm w (A.map (·.1)) A' w') : Mm w0 F (rest ++ A') w' :=
  (Mm.calleeA (h.perm List.perm_append_comm) h').perm List.perm_append_comm
/-- What stands when the counting begins. -/
structure Tl (n : Nat) (D0 : RD) (fU fP fD U P Q : Nat → Int) : Prop where
  hn : n ≤ 1500
  hD : D0.n = n
  eU : ∀ i, i < n → fU (i + 1) = U i
  eP : ∀ i, i < n → fP (i + 1) = P i
  eD : ∀ i, i < n → fD (i + 1) = Q i
  rU : ∀ i, i < n → 0 ≤ U i ∧ U i < 10
  rP : ∀ i, i < n → 0 ≤ P i ∧ P i < 10
  rD : ∀ i, i < n → 0 ≤ Q i ∧ Q i < 10
def rest7 (b3 b5 b6 bN0 bU bP bD bg n : Nat) (D0 : RD) (fU fP fD : Nat → Int) : List Blk := [(b3, row 41 [.func (.func 7) #[] #[pt bg]]), (b5, row 86 [.slice (some ⟨bN0, 0, none⟩) (n + 1) (n + 1)]), (b6, row 3 [.int .i64 ((n + 1 : Nat) : Int)]), (bN0, nrow D0 s0), (bU, irow 42 .u8 (n + 1) fU), (bP, irow 42 .u8 (n + 1) fP), (bD, irow 42 .u8 (n + 1) fD)]
theorem tail6 {w : World} {b3 b5 b6 bN0 bU bP bD bg n : Nat} {D0 : RD} {fU fP fD U P Q : Nat → Int} (hT : Tl n D0 fU fP fD U P Q) :
    SC Yba.prog (sub [1, 1, 1, 1, 1, 1, 1, 1, 1, 1, 1, 1, 1, 1, 1] (Yba.f6.body.getD .skip)) (bodyPost Yba.prog Yba.f6 (fun e w' => ∃ gs : Option GB, e = .returned (.tuple #[]) ∧ GOk gs (gAll U P Q n) ∧ Mm w [bg] (GA bg gs (gAll U P Q n)) w')) Yba.f6.ntmps [(3, pt b3), (5, pt b5), (6, pt b6), (10, .slice (some ⟨bU, 0, none⟩) (n + 1) (n + 1)), (11, .slice (some ⟨bP, 0, none⟩) (n + 1) (n + 1)), (12, .slice (some ⟨bD, 0, none⟩) (n + 1) (n + 1))] w [bg] (rest7 b3 b5 b6 bN0 bU bP bD bg n D0 fU fP fD ++ [(bg, row 37 [.slice none 0 0])]) := by
  obtain ⟨i40, hi, hz, hs, hb⟩ := info_parts info40
  obtain ⟨i42, hi42, hz42, hs42, hb42⟩ := info_parts info42
  have hn := hT.hn
  refine SC.seq ?_
  refine SC.region ?_
  refine SL.e (OE.alloc hi hz) rfl ?_
  intro b13
  refine SL.nil ?_
  refine SC.then ?_
  refine SC.weaken (env' := [(3, pt b3), (5, pt b5), (6, pt b6), (10, .slice (some ⟨bU, 0, none⟩) (n + 1) (n + 1)), (11, .slice (some ⟨bP, 0, none⟩) (n + 1) (n + 1)), (12, .slice (some ⟨bD, 0, none⟩) (n + 1) (n + 1)), (13, pt b13)]) (m' := rest7 b3 b5 b6 bN0 bU bP bD bg n D0 fU fP fD ++ [(bg, row 37 [.slice none 0 0]), (b13, irow 40 .i64 10 (fun q => cnt U 0 q))]) (by repeat' (first | exact trivial | refine ⟨rfl, ?_⟩)) (List.Sublist.refl _) ?_
  refine SC.perm (m' := rest7 b3 b5 b6 bN0 bU bP bD bg n D0 fU fP fD ++ [(b13, irow 40 .i64 10 (fun q => cnt U 0 q)), (bg, row 37 [.slice none 0 0])]) (List.Perm.append_left _ (List.Perm.swap _ _ _)) ?_
  obtain ⟨off, hoff⟩ : ∃ off, off = (if n + 1 = 1 then 0 else 0 + 1 * 1) := ⟨_, rfl⟩
  have hoff' : 1 ≤ n → off = 1 := fun h => by rw [hoff, if_neg (by omega)]
  refine SC.cutSt [(3, pt b3), (5, pt b5), (6, pt b6), (10, .slice (some ⟨bU, 0, none⟩) (n + 1) (n + 1)), (11, .slice (some ⟨bP, 0, none⟩) (n + 1) (n + 1)), (12, .slice (some ⟨bD, 0, none⟩) (n + 1) (n + 1)), (13, pt b13)] (rest7 b3 b5 b6 bN0 bU bP bD bg n D0 fU fP fD ++ ((b13, irow 40 .i64 10 (cm10 P U n 0)) :: GA bg none [])) ?_ ?_
  · skip
    refine SC.seq ?_
    refine SC.region ?_
    refine SL.y (OV.move rfl) rfl ?_
    refine SL.y (OV.sliceFrom 1 u43 hi42 hs42 rfl rfl rfl (by omega) hoff.symm) rfl ?_
    refine SL.y (OV.len u43 rfl) rfl ?_
    refine SL.y (OV.move rfl) rfl ?_
    refine SL.nil ?_
    refine SC.then ?_
    refine SC.block ?_
    refine SC.loop (fun i : Nat => [(50, .int .i64 i), (49, .int .i64 ((n + 1 - 1 : Nat) : Int)), (48, .slice (some ⟨bU, off, none⟩) (n + 1 - 1) (n + 1 - 1)), (3, pt b3), (5, pt b5), (6, pt b6), (10, .slice (some ⟨bU, 0, none⟩) (n + 1) (n + 1)), (11, .slice (some ⟨bP, 0, none⟩) (n + 1) (n + 1)), (12, .slice (some ⟨bD, 0, none⟩) (n + 1) (n + 1)), (13, pt b13)]) (fun i => rest7 b3 b5 b6 bN0 bU bP bD bg n D0 fU fP fD ++ [(b13, irow 40 .i64 10 (fun q => cnt U i q)), (bg, row 37 [.slice none 0 0])]) (fun i => i ≤ n) (fun i => n - i) 0 (by omega) (by repeat' (first | exact trivial | refine ⟨rfl, ?_⟩)) (List.Sublist.refl _) ?_
    intro i hin
    refine SC.seq ?_
    refine SC.region ?_
    refine SL.y (OV.lss rfl rfl) rfl ?_
    refine SL.nil ?_
    refine SC.then ?_
    refine SC.seq ?_
    refine SC.condP rfl (fun hlt => ?_) (fun hge => ?_)
    · have hlt' : i < n := by omega
      have hof := hoff' (by omega)
      obtain ⟨r1, r2⟩ := hT.rU i hlt'
      obtain ⟨iu, hiu⟩ : ∃ iu : Nat, U i = iu := ⟨(U i).toNat, by omega⟩
      have hc := cnt_nonneg U i iu
      refine SC.skip ?_
      refine SC.then ?_
      refine SC.cutSt [(50, .int .i64 i), (49, .int .i64 ((n + 1 - 1 : Nat) : Int)), (48, .slice (some ⟨bU, off, none⟩) (n + 1 - 1) (n + 1 - 1)), (3, pt b3), (5, pt b5), (6, pt b6), (10, .slice (some ⟨bU, 0, none⟩) (n + 1) (n + 1)), (11, .slice (some ⟨bP, 0, none⟩) (n + 1) (n + 1)), (12, .slice (some ⟨bD, 0, none⟩) (n + 1) (n + 1)), (13, pt b13)] (rest7 b3 b5 b6 bN0 bU bP bD bg n D0 fU fP fD ++ [(b13, irow 40 .i64 10 (fun q => cnt U (i + 1) q)), (bg, row 37 [.slice none 0 0])]) ?_ ?_
      · refine SC.block ?_
        refine SC.seq ?_
        refine SC.region ?_
        refine SL.y (OV.idxOff i u43 se43 rfl rfl rfl (by omega)) rfl ?_
        refine SL.y ((OV.loadI 4 sc42 rfl rfl (by omega)).is (v' := .int .u8 (U i)) (by rw [hof, Nat.add_comm, hT.eU i hlt'])) rfl ?_
        refine SL.y (OV.assign rfl) rfl ?_
        refine SL.nil ?_
        refine SC.then ?_
        refine SC.region ?_
        refine SL.y (OV.move rfl) rfl ?_
        refine SL.y (OV.idxArr1 iu u40 sz3 rfl rfl hiu (by omega)) rfl ?_
        refine SL.y (OV.loadI 7 sc3 rfl rfl (by omega)) rfl ?_
        refine SL.y (OV.add (r := cnt U i iu + 1) rfl rfl (wrap_i64 (by omega) (by omega))) rfl ?_
        refine SL.y (OV.idxArr1 iu u40 sz3 rfl rfl hiu (by omega)) rfl ?_
        refine SL.s (OS.storeI 7 sz3 rfl rfl rfl (by omega)) ?_
        refine SL.nil ?_
        refine SE.nb (SE.toSt (by repeat' (first | exact trivial | refine ⟨rfl, ?_⟩)) ?_)
        rw [← count_one hiu]
        exact List.Sublist.refl _
      refine SC.region ?_
      refine SL.y (OV.add rfl rfl (wrap_i64 (by omega) (by omega))) rfl ?_
      refine SL.y (OV.move rfl) rfl ?_
      refine SL.nil ?_
      exact SE.round (i + 1) (by omega) (by omega) (by repeat' (first | exact trivial | refine ⟨rfl, ?_⟩)) (List.Sublist.refl _)
    · have hpn : i = n := by omega
      subst hpn
      refine SC.exit ?_
      refine SE.thenE (SE.thenE (SE.inBlock ?_))
      rw [← mix0]
      exact SE.toSt (by repeat' (first | exact trivial | refine ⟨rfl, ?_⟩)) (List.Sublist.refl _)
  refine SC.seq ?_
  refine SC.region ?_
  refine SL.y (OV.mkF args0' (args4 rfl rfl rfl rfl)) rfl ?_
  refine SL.y (OV.assign rfl) rfl ?_
  refine SL.nil ?_
  refine SC.then ?_
  refine SC.seq ?_
  refine SC.region ?_
  refine SL.y (OV.move rfl) rfl ?_
  refine SL.y (OV.move rfl) rfl ?_
  refine SL.y (OV.move rfl) rfl ?_
  refine SL.callV (vs := #[.slice (some ⟨bU, 0, none⟩) (n + 1) (n + 1), .slice (some ⟨bP, 0, none⟩) (n + 1) (n + 1), pt b6, pt b5, pt b13, pt b3]) (σ := Option GB) (V := fun _ => .tuple #[]) (M := fun gs => rest7 b3 b5 b6 bN0 bU bP bD bg n D0 fU fP fD ++ ((b13, irow 40 .i64 10 (cm10 P U n n)) :: GA bg gs (swl P U n n))) (G := fun gs => GOk gs (swl P U n n)) pf22 rfl (fun ρ hρ => by rw [args2 rfl rfl ρ hρ]; rfl) (fun w' hM => (call22 (B := U) (A := P) (gs := none) (gl := []) (by omega) (by simp) (show GOk none [] from rfl) ⟨hT.hD, hM.cell (j := 2) rfl rfl, hM.cell (j := 1) rfl rfl, hM.cell (j := 0) rfl rfl, hM.block (j := 3) rfl, hM.block (j := 4) rfl, hM.block (j := 5) rfl, apartL hM (j := 2) rfl, apartL hM (j := 1) rfl, apartL hM (j := 0) rfl, apartL hM (j := 3) rfl, apartL hM (j := 4) rfl, apartL hM (j := 5) rfl, hT.eU, hT.eP, hT.rU, hT.rP⟩ (startA hM)).mono fun e w'' ⟨gs, he, hg, hM'⟩ => ⟨gs, he, hg, backA hM hM'⟩) rfl ?_
  intro gs hgs
  refine SL.nil ?_
  refine SC.then ?_
  refine SC.seq ?_
  refine SC.region ?_
  refine SL.y (OV.loadF 0 sc41 rfl rfl rfl) rfl ?_
  refine SL.y (OV.loadAgg (vs := c10 (cm10 P U n n)) 7 ag40 us40 hi rfl rfl (by rw [hs]; rfl) (fun q v h => by rw [Nat.zero_add]; exact h)) rfl ?_
  refine SL.perm (m' := (rest7 b3 b5 b6 bN0 bU bP bD bg n D0 fU fP fD ++ [(b13, irow 40 .i64 10 (cm10 P U n n))]) ++ GA bg gs (swl P U n n)) (by rw [List.append_assoc]; exact List.Perm.refl _) ?_
  refine SL.callV (vs := #[.agg (c10 (cm10 P U n n)).toArray, pt bg]) (σ := GB) (V := fun _ => .tuple #[]) (M := fun g' => (rest7 b3 b5 b6 bN0 bU bP bD bg n D0 fU fP fD ++ [(b13, irow 40 .i64 10 (cm10 P U n n))]) ++ GA bg (some g') (swl P U n n ++ [cm10 P U n n])) (G := fun g' => GOk (some g') (swl P U n n ++ [cm10 P U n n])) pf7 rfl (fun ρ hρ => by rw [args1 rfl ρ hρ]; rfl) (fun w' hM => (call7 (c := cm10 P U n n) hgs (by rw [swl_len]; omega) (startA hM)).mono fun e w'' ⟨g', he, hg, hM'⟩ => ⟨g', he, hg, backA hM hM'⟩) rfl ?_
  intro g' hg'
  refine SL.nil ?_
  refine SC.then ?_
  refine SC.perm (m' := rest7 b3 b5 b6 bN0 bU bP bD bg n D0 fU fP fD ++ ((b13, irow 40 .i64 10 (cm10 Q P n 0)) :: GA bg (some g') (swl P U n n ++ [cm10 P U n n]))) (by rw [List.append_assoc, mixn (c := Q)]; exact List.Perm.refl _) ?_
  refine SC.region ?_
  refine SL.y (OV.move rfl) rfl ?_
  refine SL.y (OV.move rfl) rfl ?_
  refine SL.y (OV.move rfl) rfl ?_
  refine SL.callV (vs := #[.slice (some ⟨bP, 0, none⟩) (n + 1) (n + 1), .slice (some ⟨bD, 0, none⟩) (n + 1) (n + 1), pt b6, pt b5, pt b13, pt b3]) (σ := Option GB) (V := fun _ => .tuple #[]) (M := fun gs => rest7 b3 b5 b6 bN0 bU bP bD bg n D0 fU fP fD ++ ((b13, irow 40 .i64 10 (cm10 Q P n n)) :: GA bg gs (gAll U P Q n))) (G := fun gs => GOk gs (gAll U P Q n)) pf22 rfl (fun ρ hρ => by rw [args2 rfl rfl ρ hρ]; rfl) (fun w' hM => (call22 (B := P) (A := Q) (gl := swl P U n n ++ [cm10 P U n n]) (by omega) (by rw [List.length_append, swl_len]; show n + 1 ≤ 5000; omega) hg' ⟨hT.hD, hM.cell (j := 2) rfl rfl, hM.cell (j := 1) rfl rfl, hM.cell (j := 0) rfl rfl, hM.block (j := 3) rfl, hM.block (j := 5) rfl, hM.block (j := 6) rfl, apartL hM (j := 2) rfl, apartL hM (j := 1) rfl, apartL hM (j := 0) rfl, apartL hM (j := 3) rfl, apartL hM (j := 5) rfl, apartL hM (j := 6) rfl, hT.eP, hT.eD, hT.rP, hT.rD⟩ (startA hM)).mono fun e w'' ⟨gs, he, hg, hM'⟩ => ⟨gs, he, hg, backA hM hM'⟩) rfl ?_
  intro gs2 hgs2
  refine SL.nil ?_
  refine SE.end0 Yba.results6 (fun w' hM => ⟨gs2, rfl, hgs2, ?_⟩)
  exact hM.weaken (by rw [show rest7 b3 b5 b6 bN0 bU bP bD bg n D0 fU fP fD ++ ((b13, irow 40 .i64 10 (cm10 Q P n n)) :: GA bg gs2 (gAll U P Q n)) = (rest7 b3 b5 b6 bN0 bU bP bD bg n D0 fU fP fD ++ [(b13, irow 40 .i64 10 (cm10 Q P n n))]) ++ GA bg gs2 (gAll U P Q n) from by rw [List.append_assoc]; rfl]; exact List.sublist_append_right _ _)
end Go.Proofs.Ybulkdrci.A
