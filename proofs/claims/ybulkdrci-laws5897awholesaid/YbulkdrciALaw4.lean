import Derived.Test.YbulkdrciALaw3
namespace Go.Proofs.Ybulkdrci.A
open Go Go.RowKit Go.Proofs.Ybulkdrci.A.Sym
set_option linter.unusedVariables false
set_option linter.unusedSimpArgs false
set_option maxRecDepth 100000


/-- The model's answer of participant i at the k-th call. -/
def wM (U P Q : Nat → Int) (n k i : Nat) : Int := if k < n then (if i ≤ k then P i else U i) else if k = n then P i else if i + n + 1 ≤ k then Q i else P i
theorem wM_lo {U P Q : Nat → Int} {n k i : Nat} (h : k < n) (h2 : i ≤ k) : wM U P Q n k i = P i := by unfold wM; rw [if_pos h, if_pos h2]
theorem wM_lo' {U P Q : Nat → Int} {n k i : Nat} (h : k < n) (h2 : ¬ i ≤ k) : wM U P Q n k i = U i := by unfold wM; rw [if_pos h, if_neg h2]
theorem wM_mid {U P Q : Nat → Int} {n k i : Nat} (h : ¬ k < n) (h2 : k = n) : wM U P Q n k i = P i := by unfold wM; rw [if_neg h, if_pos h2]
theorem wM_hi {U P Q : Nat → Int} {n k i : Nat} (h : ¬ k < n) (h2 : ¬ k = n) (h3 : i + n + 1 ≤ k) : wM U P Q n k i = Q i := by unfold wM; rw [if_neg h, if_neg h2, if_pos h3]
theorem wM_hi' {U P Q : Nat → Int} {n k i : Nat} (h : ¬ k < n) (h2 : ¬ k = n) (h3 : ¬ i + n + 1 ≤ k) : wM U P Q n k i = P i := by unfold wM; rw [if_neg h, if_neg h2, if_neg h3]
theorem gAll_len (U P Q : Nat → Int) (n : Nat) : (gAll U P Q n).length = 2 * n + 1 := by
  unfold gAll
  simp [swl_len]
  omega
theorem swl_get {a b : Nat → Int} {n p k : Nat} (h : k < p) : (swl a b n p)[k]? = some (cm10 a b n (k + 1)) := by simp [swl, h]
theorem gAll_get {U P Q : Nat → Int} {n k : Nat} (h : k < 2 * n + 1) : ∃ c, (gAll U P Q n)[k]? = some c ∧ ∀ q : Nat, c q = cnt (wM U P Q n k) n q := by
  unfold gAll
  by_cases h1 : k < n
  · refine ⟨cm10 P U n (k + 1), ?_, fun q => ?_⟩
    · rw [List.append_assoc, List.getElem?_append_left (by rw [swl_len]; exact h1)]
      exact swl_get h1
    · refine cnt_congr (fun i hi => ?_) _
      unfold mix
      by_cases e : i ≤ k
      · rw [if_pos (by omega), wM_lo h1 e]
      · rw [if_neg (by omega), wM_lo' h1 e]
  · by_cases h2 : k = n
    · subst h2
      refine ⟨cm10 P U k k, ?_, fun q => ?_⟩
      · rw [List.append_assoc, List.getElem?_append_right (by rw [swl_len]; exact Nat.le_refl _), swl_len, Nat.sub_self]
        rfl
      · refine cnt_congr (fun i hi => ?_) _
        unfold mix
        rw [if_pos hi, wM_mid h1 rfl]
    · refine ⟨cm10 Q P n (k - n - 1 + 1), ?_, fun q => ?_⟩
      · rw [List.getElem?_append_right (by simp [swl_len]; omega)]
        have e : k - (swl P U n n ++ [cm10 P U n n]).length = k - n - 1 := by simp [swl_len]; omega
        rw [e]
        exact swl_get (by omega)
      · refine cnt_congr (fun i hi => ?_) _
        unfold mix
        by_cases e : i + n + 1 ≤ k
        · rw [if_pos (by omega), wM_hi h1 h2 e]
        · rw [if_neg (by omega), wM_hi' h1 h2 e]
theorem gcs_get {gl : List (Nat → Int)} {k : Nat} {c : Nat → Int} (h : gl[k]? = some c) : ∀ q v, (c10 c)[q]? = some v → (gcs gl)[k * 10 + q]? = some v := by
  induction gl generalizing k with
  | nil => simp at h
  | cons d r ih =>
    intro q v hv
    have hq : q < 10 := by have := (List.getElem?_eq_some_iff.1 hv).1; rwa [c10_len] at this
    show (c10 d ++ gcs r)[k * 10 + q]? = some v
    cases k with
    | zero =>
      simp at h
      subst h
      rw [List.getElem?_append_left (by rw [c10_len]; omega), Nat.zero_mul, Nat.zero_add]
      exact hv
    | succ k =>
      rw [List.getElem?_append_right (by rw [c10_len]; omega), c10_len]
      have e : (k + 1) * 10 + q - 10 = k * 10 + q := by omega
      rw [e]
      exact ih (by simpa using h) q v hv
theorem c10_congr {c d : Nat → Int} (h : ∀ q : Nat, c q = d q) : c10 c = c10 d := by unfold c10; exact tab_congr fun q _ => by rw [h q]
section
variable {w : World} {Q : Exit → Act → World → Prop} {co ct : ByteArray} {cf calls term : Int} {sA rA : Option Addr} {n cF nr cR : Nat} {Fl : Nat → Int} {Rf : Nat → Bool}
/-- The counts are compared. -/
theorem stage6 {bp bk1 bk2 bk3 b22 b23 bu bq bd : Nat} {g : GB} (hPQ : PanicOk Q) (hn : n ≤ 1024)
    (h : SE (Q .normal) Yba.f3.ntmps [(27, .slice (some ⟨bu, 0, none⟩) n n), (28, .slice (some ⟨bq, 0, none⟩) n n), (29, .slice (some ⟨bd, 0, none⟩) n n), (15, .int .i64 n), (23, pt b23), (22, pt b22), (18, .slice (some ⟨bk1, 0, none⟩) n n), (19, .slice (some ⟨bk2, 0, none⟩) n n), (20, .slice (some ⟨bk3, 0, none⟩) n n), (16, .slice (some ⟨bp, 0, none⟩) n n), (0, .string co), (1, .int .u8 cf), (2, .string ct), (3, .int .i64 calls), (4, .int .u8 term), (5, .slice sA n cF), (6, .slice rA nr cR)] w [] [(bu, irow 42 .u8 n (fK (uF (flL cf Fl)) n)), (bq, irow 42 .u8 n (fK (pF (flL cf Fl)) n)), (bd, irow 42 .u8 n (fK (dF (flL cf Fl) n) n)), (bp, row 28 (tab (n * 4) (ppc Fl (rF nr Rf) n))), (bk1, row 9 (tab n (kN n))), (bk2, irow 26 .u8 n (kI Fl n)), (bk3, brow 4 n (kB (rF nr Rf) n)), (b22, row 36 (scnCells co cf ct bp n calls term)), (b23, row 37 [.slice (some ⟨g.b, 0, none⟩) (2 * n + 1) g.C]), (g.b, row 40 (gcs (gAll (uF (flL cf Fl)) (pF (flL cf Fl)) (dF (flL cf Fl) n) n) ++ g.sp))]) :
    SC Yba.prog (sub [1, 1, 1, 1, 1, 1, 1, 1, 1, 1, 1, 1, 1, 1, 1, 1, 1, 1, 1, 1, 1, 0] (Yba.f3.body.getD .skip)) Q Yba.f3.ntmps [(27, .slice (some ⟨bu, 0, none⟩) n n), (28, .slice (some ⟨bq, 0, none⟩) n n), (29, .slice (some ⟨bd, 0, none⟩) n n), (15, .int .i64 n), (23, pt b23), (22, pt b22), (18, .slice (some ⟨bk1, 0, none⟩) n n), (19, .slice (some ⟨bk2, 0, none⟩) n n), (20, .slice (some ⟨bk3, 0, none⟩) n n), (16, .slice (some ⟨bp, 0, none⟩) n n), (0, .string co), (1, .int .u8 cf), (2, .string ct), (3, .int .i64 calls), (4, .int .u8 term), (5, .slice sA n cF), (6, .slice rA nr cR)] w [] [(bu, irow 42 .u8 n (fK (uF (flL cf Fl)) n)), (bq, irow 42 .u8 n (fK (pF (flL cf Fl)) n)), (bd, irow 42 .u8 n (fK (dF (flL cf Fl) n) n)), (bp, row 28 (tab (n * 4) (ppc Fl (rF nr Rf) n))), (bk1, row 9 (tab n (kN n))), (bk2, irow 26 .u8 n (kI Fl n)), (bk3, brow 4 n (kB (rF nr Rf) n)), (b22, row 36 (scnCells co cf ct bp n calls term)), (b23, row 37 [.slice (some ⟨g.b, 0, none⟩) (2 * n + 1) g.C]), (g.b, row 40 (gcs (gAll (uF (flL cf Fl)) (pF (flL cf Fl)) (dF (flL cf Fl) n) n) ++ g.sp))] := by
  obtain ⟨i40, hi, hz, hs, hb⟩ := info_parts info40
  refine SC.seq ?_
  refine SC.region ?_
  refine SL.y (OV.assign rfl) rfl ?_
  refine SL.nil ?_
  refine SC.then ?_
  refine SC.block ?_
  refine SC.loop (fun k : Nat => [(31, .int .i64 k), (27, .slice (some ⟨bu, 0, none⟩) n n), (28, .slice (some ⟨bq, 0, none⟩) n n), (29, .slice (some ⟨bd, 0, none⟩) n n), (15, .int .i64 n), (23, pt b23), (22, pt b22), (18, .slice (some ⟨bk1, 0, none⟩) n n), (19, .slice (some ⟨bk2, 0, none⟩) n n), (20, .slice (some ⟨bk3, 0, none⟩) n n), (16, .slice (some ⟨bp, 0, none⟩) n n), (0, .string co), (1, .int .u8 cf), (2, .string ct), (3, .int .i64 calls), (4, .int .u8 term), (5, .slice sA n cF), (6, .slice rA nr cR)]) (fun k => [(bu, irow 42 .u8 n (fK (uF (flL cf Fl)) n)), (bq, irow 42 .u8 n (fK (pF (flL cf Fl)) n)), (bd, irow 42 .u8 n (fK (dF (flL cf Fl) n) n)), (bp, row 28 (tab (n * 4) (ppc Fl (rF nr Rf) n))), (bk1, row 9 (tab n (kN n))), (bk2, irow 26 .u8 n (kI Fl n)), (bk3, brow 4 n (kB (rF nr Rf) n)), (b22, row 36 (scnCells co cf ct bp n calls term)), (b23, row 37 [.slice (some ⟨g.b, 0, none⟩) (2 * n + 1) g.C]), (g.b, row 40 (gcs (gAll (uF (flL cf Fl)) (pF (flL cf Fl)) (dF (flL cf Fl) n) n) ++ g.sp))]) (fun k => k ≤ 2 * n + 1) (fun k => 2 * n + 1 - k) 0 (by omega) (by repeat' (first | exact trivial | refine ⟨rfl, ?_⟩)) (List.Sublist.refl _) ?_
  intro k hkn
  refine SC.seq ?_
  refine SC.seq ?_
  refine SC.region ?_
  refine SL.y (OV.move rfl) rfl ?_
  refine SL.y (OV.move rfl) rfl ?_
  refine SL.y (OV.mul rfl rfl (wrap_i64 (by omega) (by omega))) rfl ?_
  refine SL.y (OV.leq rfl rfl) rfl ?_
  refine SL.nil ?_
  refine SC.then ?_
  refine SC.condP rfl (fun hle => ?_) (fun hgt => ?_)
  · have hk : k < 2 * n + 1 := by omega
    refine SC.skip ?_
    refine SC.then ?_
    refine SC.cutSt [(31, .int .i64 k), (27, .slice (some ⟨bu, 0, none⟩) n n), (28, .slice (some ⟨bq, 0, none⟩) n n), (29, .slice (some ⟨bd, 0, none⟩) n n), (15, .int .i64 n), (23, pt b23), (22, pt b22), (18, .slice (some ⟨bk1, 0, none⟩) n n), (19, .slice (some ⟨bk2, 0, none⟩) n n), (20, .slice (some ⟨bk3, 0, none⟩) n n), (16, .slice (some ⟨bp, 0, none⟩) n n), (0, .string co), (1, .int .u8 cf), (2, .string ct), (3, .int .i64 calls), (4, .int .u8 term), (5, .slice sA n cF), (6, .slice rA nr cR)] [(bu, irow 42 .u8 n (fK (uF (flL cf Fl)) n)), (bq, irow 42 .u8 n (fK (pF (flL cf Fl)) n)), (bd, irow 42 .u8 n (fK (dF (flL cf Fl) n) n)), (bp, row 28 (tab (n * 4) (ppc Fl (rF nr Rf) n))), (bk1, row 9 (tab n (kN n))), (bk2, irow 26 .u8 n (kI Fl n)), (bk3, brow 4 n (kB (rF nr Rf) n)), (b22, row 36 (scnCells co cf ct bp n calls term)), (b23, row 37 [.slice (some ⟨g.b, 0, none⟩) (2 * n + 1) g.C]), (g.b, row 40 (gcs (gAll (uF (flL cf Fl)) (pF (flL cf Fl)) (dF (flL cf Fl) n) n) ++ g.sp))] ?_ ?_
    · refine SC.block ?_
      refine SC.seq ?_
      refine SC.region ?_
      refine SL.e (OE.alloc hi hz) rfl ?_
      intro bw
      refine SL.nil ?_
      refine SC.then ?_
      refine SC.cutSt [(32, pt bw), (31, .int .i64 k), (27, .slice (some ⟨bu, 0, none⟩) n n), (28, .slice (some ⟨bq, 0, none⟩) n n), (29, .slice (some ⟨bd, 0, none⟩) n n), (15, .int .i64 n), (23, pt b23), (22, pt b22), (18, .slice (some ⟨bk1, 0, none⟩) n n), (19, .slice (some ⟨bk2, 0, none⟩) n n), (20, .slice (some ⟨bk3, 0, none⟩) n n), (16, .slice (some ⟨bp, 0, none⟩) n n), (0, .string co), (1, .int .u8 cf), (2, .string ct), (3, .int .i64 calls), (4, .int .u8 term), (5, .slice sA n cF), (6, .slice rA nr cR)] ([(bu, irow 42 .u8 n (fK (uF (flL cf Fl)) n)), (bq, irow 42 .u8 n (fK (pF (flL cf Fl)) n)), (bd, irow 42 .u8 n (fK (dF (flL cf Fl) n) n)), (bp, row 28 (tab (n * 4) (ppc Fl (rF nr Rf) n))), (bk1, row 9 (tab n (kN n))), (bk2, irow 26 .u8 n (kI Fl n)), (bk3, brow 4 n (kB (rF nr Rf) n)), (b22, row 36 (scnCells co cf ct bp n calls term)), (b23, row 37 [.slice (some ⟨g.b, 0, none⟩) (2 * n + 1) g.C]), (g.b, row 40 (gcs (gAll (uF (flL cf Fl)) (pF (flL cf Fl)) (dF (flL cf Fl) n) n) ++ g.sp))] ++ [(bw, irow 40 .i64 10 (fun q => cnt (wM (uF (flL cf Fl)) (pF (flL cf Fl)) (dF (flL cf Fl) n) n k) n q))]) ?_ ?_
      · skip
        refine SC.seq ?_
        refine SC.region ?_
        refine SL.y (OV.assign rfl) rfl ?_
        refine SL.nil ?_
        refine SC.then ?_
        refine SC.block ?_
        refine SC.loop (fun i : Nat => [(33, .int .i64 i), (32, pt bw), (31, .int .i64 k), (27, .slice (some ⟨bu, 0, none⟩) n n), (28, .slice (some ⟨bq, 0, none⟩) n n), (29, .slice (some ⟨bd, 0, none⟩) n n), (15, .int .i64 n), (23, pt b23), (22, pt b22), (18, .slice (some ⟨bk1, 0, none⟩) n n), (19, .slice (some ⟨bk2, 0, none⟩) n n), (20, .slice (some ⟨bk3, 0, none⟩) n n), (16, .slice (some ⟨bp, 0, none⟩) n n), (0, .string co), (1, .int .u8 cf), (2, .string ct), (3, .int .i64 calls), (4, .int .u8 term), (5, .slice sA n cF), (6, .slice rA nr cR)]) (fun i => ([(bu, irow 42 .u8 n (fK (uF (flL cf Fl)) n)), (bq, irow 42 .u8 n (fK (pF (flL cf Fl)) n)), (bd, irow 42 .u8 n (fK (dF (flL cf Fl) n) n)), (bp, row 28 (tab (n * 4) (ppc Fl (rF nr Rf) n))), (bk1, row 9 (tab n (kN n))), (bk2, irow 26 .u8 n (kI Fl n)), (bk3, brow 4 n (kB (rF nr Rf) n)), (b22, row 36 (scnCells co cf ct bp n calls term)), (b23, row 37 [.slice (some ⟨g.b, 0, none⟩) (2 * n + 1) g.C]), (g.b, row 40 (gcs (gAll (uF (flL cf Fl)) (pF (flL cf Fl)) (dF (flL cf Fl) n) n) ++ g.sp))] ++ [(bw, irow 40 .i64 10 (fun q => cnt (wM (uF (flL cf Fl)) (pF (flL cf Fl)) (dF (flL cf Fl) n) n k) i q))])) (fun i => i ≤ n) (fun i => n - i) 0 (by omega) (by repeat' (first | exact trivial | refine ⟨rfl, ?_⟩)) (List.Sublist.refl _) ?_
        intro i hin
        refine SC.seq ?_
        refine SC.seq ?_
        refine SC.region ?_
        refine SL.y (OV.move rfl) rfl ?_
        refine SL.y (OV.move rfl) rfl ?_
        refine SL.y (OV.lss rfl rfl) rfl ?_
        refine SL.nil ?_
        refine SC.then ?_
        refine SC.condP rfl (fun hlt => ?_) (fun hge => ?_)
        · have hlt' : i < n := by omega
          refine SC.skip ?_
          refine SC.then ?_
          refine SC.cutSt [(33, .int .i64 i), (32, pt bw), (31, .int .i64 k), (27, .slice (some ⟨bu, 0, none⟩) n n), (28, .slice (some ⟨bq, 0, none⟩) n n), (29, .slice (some ⟨bd, 0, none⟩) n n), (15, .int .i64 n), (23, pt b23), (22, pt b22), (18, .slice (some ⟨bk1, 0, none⟩) n n), (19, .slice (some ⟨bk2, 0, none⟩) n n), (20, .slice (some ⟨bk3, 0, none⟩) n n), (16, .slice (some ⟨bp, 0, none⟩) n n), (0, .string co), (1, .int .u8 cf), (2, .string ct), (3, .int .i64 calls), (4, .int .u8 term), (5, .slice sA n cF), (6, .slice rA nr cR)] ([(bu, irow 42 .u8 n (fK (uF (flL cf Fl)) n)), (bq, irow 42 .u8 n (fK (pF (flL cf Fl)) n)), (bd, irow 42 .u8 n (fK (dF (flL cf Fl) n) n)), (bp, row 28 (tab (n * 4) (ppc Fl (rF nr Rf) n))), (bk1, row 9 (tab n (kN n))), (bk2, irow 26 .u8 n (kI Fl n)), (bk3, brow 4 n (kB (rF nr Rf) n)), (b22, row 36 (scnCells co cf ct bp n calls term)), (b23, row 37 [.slice (some ⟨g.b, 0, none⟩) (2 * n + 1) g.C]), (g.b, row 40 (gcs (gAll (uF (flL cf Fl)) (pF (flL cf Fl)) (dF (flL cf Fl) n) n) ++ g.sp))] ++ [(bw, irow 40 .i64 10 (fun q => cnt (wM (uF (flL cf Fl)) (pF (flL cf Fl)) (dF (flL cf Fl) n) n k) (i + 1) q))]) ?_ ?_
          · refine SC.block ?_
            refine SC.seq ?_
            refine SC.region ?_
            refine SL.y (OV.assign rfl) rfl ?_
            refine SL.nil ?_
            refine SC.then ?_
            refine SC.cutSt [(34, .int .u8 ((wM (uF (flL cf Fl)) (pF (flL cf Fl)) (dF (flL cf Fl) n) n k) i)), (33, .int .i64 i), (32, pt bw), (31, .int .i64 k), (27, .slice (some ⟨bu, 0, none⟩) n n), (28, .slice (some ⟨bq, 0, none⟩) n n), (29, .slice (some ⟨bd, 0, none⟩) n n), (15, .int .i64 n), (23, pt b23), (22, pt b22), (18, .slice (some ⟨bk1, 0, none⟩) n n), (19, .slice (some ⟨bk2, 0, none⟩) n n), (20, .slice (some ⟨bk3, 0, none⟩) n n), (16, .slice (some ⟨bp, 0, none⟩) n n), (0, .string co), (1, .int .u8 cf), (2, .string ct), (3, .int .i64 calls), (4, .int .u8 term), (5, .slice sA n cF), (6, .slice rA nr cR)] ([(bu, irow 42 .u8 n (fK (uF (flL cf Fl)) n)), (bq, irow 42 .u8 n (fK (pF (flL cf Fl)) n)), (bd, irow 42 .u8 n (fK (dF (flL cf Fl) n) n)), (bp, row 28 (tab (n * 4) (ppc Fl (rF nr Rf) n))), (bk1, row 9 (tab n (kN n))), (bk2, irow 26 .u8 n (kI Fl n)), (bk3, brow 4 n (kB (rF nr Rf) n)), (b22, row 36 (scnCells co cf ct bp n calls term)), (b23, row 37 [.slice (some ⟨g.b, 0, none⟩) (2 * n + 1) g.C]), (g.b, row 40 (gcs (gAll (uF (flL cf Fl)) (pF (flL cf Fl)) (dF (flL cf Fl) n) n) ++ g.sp))] ++ [(bw, irow 40 .i64 10 (fun q => cnt (wM (uF (flL cf Fl)) (pF (flL cf Fl)) (dF (flL cf Fl) n) n k) i q))]) ?_ ?_
            · skip
              refine SC.seq ?_
              refine SC.region ?_
              refine SL.y (OV.move rfl) rfl ?_
              refine SL.y (OV.move rfl) rfl ?_
              refine SL.y (OV.lss rfl rfl) rfl ?_
              refine SL.nil ?_
              refine SC.then ?_
              refine SC.condP rfl (fun hkn2 => ?_) (fun hkn2 => ?_)
              · have h1 : k < n := by omega
                refine SC.seq ?_
                refine SC.region ?_
                refine SL.y (OV.move rfl) rfl ?_
                refine SL.y (OV.move rfl) rfl ?_
                refine SL.y (OV.leq rfl rfl) rfl ?_
                refine SL.nil ?_
                refine SC.then ?_
                refine SC.condP rfl (fun hik => ?_) (fun hik => ?_)
                · skip
                  refine SC.region ?_
                  refine SL.y (OV.move rfl) rfl ?_
                  refine SL.y (OV.move rfl) rfl ?_
                  refine SL.y (OV.idx1 i u43 se43 rfl rfl rfl (by omega)) rfl ?_
                  refine SL.y ((OV.loadI 1 sc42 rfl rfl (by omega)).is (v' := .int .u8 ((wM (uF (flL cf Fl)) (pF (flL cf Fl)) (dF (flL cf Fl) n) n k) i)) (by unfold fK; rw [if_pos hlt', wM_lo h1 (by omega)])) rfl ?_
                  refine SL.y (OV.assign rfl) rfl ?_
                  refine SL.nil ?_
                  exact SE.toSt (by repeat' (first | exact trivial | refine ⟨rfl, ?_⟩)) (List.Sublist.refl _)
                · skip
                  refine SC.region ?_
                  refine SL.y (OV.move rfl) rfl ?_
                  refine SL.y (OV.move rfl) rfl ?_
                  refine SL.y (OV.idx1 i u43 se43 rfl rfl rfl (by omega)) rfl ?_
                  refine SL.y ((OV.loadI 0 sc42 rfl rfl (by omega)).is (v' := .int .u8 ((wM (uF (flL cf Fl)) (pF (flL cf Fl)) (dF (flL cf Fl) n) n k) i)) (by unfold fK; rw [if_pos hlt', wM_lo' h1 (by omega)])) rfl ?_
                  refine SL.y (OV.assign rfl) rfl ?_
                  refine SL.nil ?_
                  exact SE.toSt (by repeat' (first | exact trivial | refine ⟨rfl, ?_⟩)) (List.Sublist.refl _)
              · have h1 : ¬ k < n := by omega
                refine SC.seq ?_
                refine SC.region ?_
                refine SL.y (OV.move rfl) rfl ?_
                refine SL.y (OV.move rfl) rfl ?_
                refine SL.y (OV.eql rfl rfl) rfl ?_
                refine SL.nil ?_
                refine SC.then ?_
                refine SC.condP rfl (fun hke => ?_) (fun hke => ?_)
                · skip
                  refine SC.region ?_
                  refine SL.y (OV.move rfl) rfl ?_
                  refine SL.y (OV.move rfl) rfl ?_
                  refine SL.y (OV.idx1 i u43 se43 rfl rfl rfl (by omega)) rfl ?_
                  refine SL.y ((OV.loadI 1 sc42 rfl rfl (by omega)).is (v' := .int .u8 ((wM (uF (flL cf Fl)) (pF (flL cf Fl)) (dF (flL cf Fl) n) n k) i)) (by unfold fK; rw [if_pos hlt', wM_mid h1 (by omega)])) rfl ?_
                  refine SL.y (OV.assign rfl) rfl ?_
                  refine SL.nil ?_
                  exact SE.toSt (by repeat' (first | exact trivial | refine ⟨rfl, ?_⟩)) (List.Sublist.refl _)
                · skip
                  refine SC.seq ?_
                  refine SC.region ?_
                  refine SL.y (OV.move rfl) rfl ?_
                  refine SL.y (OV.move rfl) rfl ?_
                  refine SL.y (OV.move rfl) rfl ?_
                  refine SL.y (OV.sub rfl rfl (wrap_i64 (by omega) (by omega))) rfl ?_
                  refine SL.y (OV.sub rfl rfl (wrap_i64 (by omega) (by omega))) rfl ?_
                  refine SL.y (OV.leq rfl rfl) rfl ?_
                  refine SL.nil ?_
                  refine SC.then ?_
                  refine SC.condP rfl (fun hik => ?_) (fun hik => ?_)
                  · skip
                    refine SC.region ?_
                    refine SL.y (OV.move rfl) rfl ?_
                    refine SL.y (OV.move rfl) rfl ?_
                    refine SL.y (OV.idx1 i u43 se43 rfl rfl rfl (by omega)) rfl ?_
                    refine SL.y ((OV.loadI 2 sc42 rfl rfl (by omega)).is (v' := .int .u8 ((wM (uF (flL cf Fl)) (pF (flL cf Fl)) (dF (flL cf Fl) n) n k) i)) (by unfold fK; rw [if_pos hlt', wM_hi h1 (by omega) (by omega)])) rfl ?_
                    refine SL.y (OV.assign rfl) rfl ?_
                    refine SL.nil ?_
                    exact SE.toSt (by repeat' (first | exact trivial | refine ⟨rfl, ?_⟩)) (List.Sublist.refl _)
                  · skip
                    refine SC.region ?_
                    refine SL.y (OV.move rfl) rfl ?_
                    refine SL.y (OV.move rfl) rfl ?_
                    refine SL.y (OV.idx1 i u43 se43 rfl rfl rfl (by omega)) rfl ?_
                    refine SL.y ((OV.loadI 1 sc42 rfl rfl (by omega)).is (v' := .int .u8 ((wM (uF (flL cf Fl)) (pF (flL cf Fl)) (dF (flL cf Fl) n) n k) i)) (by unfold fK; rw [if_pos hlt', wM_hi' h1 (by omega) (by omega)])) rfl ?_
                    refine SL.y (OV.assign rfl) rfl ?_
                    refine SL.nil ?_
                    exact SE.toSt (by repeat' (first | exact trivial | refine ⟨rfl, ?_⟩)) (List.Sublist.refl _)
            have hr : 0 ≤ (wM (uF (flL cf Fl)) (pF (flL cf Fl)) (dF (flL cf Fl) n) n k) i ∧ (wM (uF (flL cf Fl)) (pF (flL cf Fl)) (dF (flL cf Fl) n) n k) i < 10 := by
              have u1 := uF_r (flL cf Fl) i
              have p1 := pF_r (flL cf Fl) i
              have d1 := dF_r (flL cf Fl) n i
              unfold wM
              split
              · split
                · exact p1
                · exact u1
              · split
                · exact p1
                · split
                  · exact d1
                  · exact p1
            obtain ⟨r1, r2⟩ := hr
            obtain ⟨iu, hiu⟩ : ∃ iu : Nat, (wM (uF (flL cf Fl)) (pF (flL cf Fl)) (dF (flL cf Fl) n) n k) i = iu := ⟨((wM (uF (flL cf Fl)) (pF (flL cf Fl)) (dF (flL cf Fl) n) n k) i).toNat, by omega⟩
            have hc := cnt_nonneg (wM (uF (flL cf Fl)) (pF (flL cf Fl)) (dF (flL cf Fl) n) n k) i iu
            refine SC.region ?_
            refine SL.y (OV.move rfl) rfl ?_
            refine SL.y (OV.idxArr1 iu u40 sz3 rfl rfl hiu (by omega)) rfl ?_
            refine SL.y (OV.loadI 10 sc3 rfl rfl (by omega)) rfl ?_
            refine SL.y (OV.add (r := cnt (wM (uF (flL cf Fl)) (pF (flL cf Fl)) (dF (flL cf Fl) n) n k) i iu + 1) rfl rfl (wrap_i64 (by omega) (by omega))) rfl ?_
            refine SL.y (OV.idxArr1 iu u40 sz3 rfl rfl hiu (by omega)) rfl ?_
            refine SL.s (OS.storeI 10 sz3 rfl rfl rfl (by omega)) ?_
            refine SL.nil ?_
            refine SE.nb (SE.toSt (by repeat' (first | exact trivial | refine ⟨rfl, ?_⟩)) ?_)
            rw [← count_one hiu]
            exact List.Sublist.refl _
          refine SC.region ?_
          refine SL.y (OV.move rfl) rfl ?_
          refine SL.y (OV.add rfl rfl (wrap_i64 (by omega) (by omega))) rfl ?_
          refine SL.y (OV.assign rfl) rfl ?_
          refine SL.nil ?_
          exact SE.round (i + 1) (by omega) (by omega) (by repeat' (first | exact trivial | refine ⟨rfl, ?_⟩)) (List.Sublist.refl _)
        · have hpn : i = n := by omega
          subst hpn
          refine SC.exit ?_
          refine SE.thenE (SE.thenE (SE.inBlock ?_))
          exact SE.toSt (by repeat' (first | exact trivial | refine ⟨rfl, ?_⟩)) (List.Sublist.refl _)
      obtain ⟨c, hc1, hc2⟩ := gAll_get (U := (uF (flL cf Fl))) (P := (pF (flL cf Fl))) (Q := (dF (flL cf Fl) n)) hk
      have hcc : c10 c = c10 (fun q => cnt (wM (uF (flL cf Fl)) (pF (flL cf Fl)) (dF (flL cf Fl) n) n k) n q) := c10_congr hc2
      have hget : ∀ q v, (c10 (fun q => cnt (wM (uF (flL cf Fl)) (pF (flL cf Fl)) (dF (flL cf Fl) n) n k) n q))[q]? = some v → (gcs (gAll (uF (flL cf Fl)) (pF (flL cf Fl)) (dF (flL cf Fl) n) n) ++ g.sp)[0 + k * 10 + q]? = some v := fun q v hv => by
        rw [← hcc] at hv
        have h1 := gcs_get hc1 q v hv
        rw [Nat.zero_add, List.getElem?_append_left (List.getElem?_eq_some_iff.1 h1).1]
        exact h1
      refine SC.seq ?_
      refine SC.quiet mixed (by kernel_rfl) ?_
      refine SQ.y (OV.loadF 8 sc37 rfl rfl rfl) rfl ?_
      refine SQ.y (OV.move rfl) rfl ?_
      refine SQ.y (OV.idx k u37 hi hs rfl rfl rfl (by omega)) rfl ?_
      refine SQ.y (OV.loadAgg (vs := c10 (fun q => cnt (wM (uF (flL cf Fl)) (pF (flL cf Fl)) (dF (flL cf Fl) n) n k) n q)) 9 ag40 us40 hi rfl rfl (by rw [hs]; rfl) hget) rfl ?_
      refine SQ.y (OV.loadAgg (vs := c10 (fun q => cnt (wM (uF (flL cf Fl)) (pF (flL cf Fl)) (dF (flL cf Fl) n) n k) n q)) 10 ag40 us40 hi rfl rfl (by rw [hs]; rfl) (fun q v h => by rw [Nat.zero_add]; exact h)) rfl ?_
      refine SQ.y (OV.neqAgg (r := true) eg40 rfl rfl (opEq40 _)) rfl ?_
      refine SQ.nil ?_
      refine SC.then ?_
      refine SC.cond rfl (fun e => absurd e (by decide)) (fun _ => ?_)
      refine SC.skip ?_
      refine SE.nb (SE.toSt (by repeat' (first | exact trivial | refine ⟨rfl, ?_⟩)) ?_)
      exact List.sublist_append_left _ _
    refine SC.region ?_
    refine SL.y (OV.move rfl) rfl ?_
    refine SL.y (OV.add rfl rfl (wrap_i64 (by omega) (by omega))) rfl ?_
    refine SL.y (OV.assign rfl) rfl ?_
    refine SL.nil ?_
    exact SE.round (k + 1) (by omega) (by omega) (by repeat' (first | exact trivial | refine ⟨rfl, ?_⟩)) (List.Sublist.refl _)
  · refine SC.exit ?_
    refine SE.thenE (SE.thenE (SE.inBlock ?_))
    exact SE.weaken (by repeat' (first | exact trivial | refine ⟨rfl, ?_⟩)) (List.Sublist.refl _) h
end
end Go.Proofs.Ybulkdrci.A
