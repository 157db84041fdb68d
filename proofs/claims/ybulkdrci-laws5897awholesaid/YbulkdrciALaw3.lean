import Derived.Test.YbulkdrciALaw2
namespace Go.Proofs.Ybulkdrci.A
open Go Go.RowKit Go.Proofs.Ybulkdrci.A.Sym
set_option linter.unusedVariables false
set_option linter.unusedSimpArgs false
set_option maxRecDepth 100000


def flL (cf : Int) (Fl : Nat → Int) (k : Nat) : Int := if k = 0 then cf else Fl (k - 1)
theorem flL_succ (cf : Int) (Fl : Nat → Int) (i : Nat) : flL cf Fl (i + 1) = Fl i := by unfold flL; rw [if_neg (by omega)]; rfl
theorem allOk_succ (cf : Int) (Fl : Nat → Int) (i : Nat) : allOk (flL cf Fl) (i + 1) = (allOk (flL cf Fl) i && !(decide (Fl i = 1) || decide (Fl i = 3))) := by
  show (allOk (flL cf Fl) i && !(decide (flL cf Fl (i + 1) = 1) || decide (flL cf Fl (i + 1) = 3))) = _
  rw [flL_succ]
def fK (f : Nat → Int) (i q : Nat) : Int := if q < i then f q else 0
theorem fK_set {f : Nat → Int} {n i : Nat} {v : Int} (hv : f i = v) : irow 42 .u8 n (upd (fK f i) i v) = irow 42 .u8 n (fK f (i + 1)) := irow_congr fun q hq => by
  unfold upd fK
  by_cases e : q = i
  · subst e; simp [hv]
  · rw [if_neg e]
    have : (q < i + 1) ↔ (q < i) := by omega
    simp only [this]
theorem fK_zero (f : Nat → Int) (n : Nat) : irow 42 .u8 n (fun _ => 0) = irow 42 .u8 n (fK f 0) := irow_congr fun q hq => by
  unfold fK
  rw [if_neg (by omega)]
section
variable {w : World} {Q : Exit → Act → World → Prop} {co ct : ByteArray} {cf calls term : Int} {sA rA : Option Addr} {n cF nr cR : Nat} {Fl : Nat → Int} {Rf : Nat → Bool} {m0 : List Blk}
/-- Whether the model commits. -/
theorem stage4 {bp bk1 bk2 bk3 b22 b23 : Nat} (hn : n ≤ 1024) (hL : LIn w sA n Fl rA nr Rf)
    (h : SE (Q .normal) Yba.f3.ntmps [(24, .bool (allOk (flL cf Fl) n)), (23, pt b23), (22, pt b22), (18, .slice (some ⟨bk1, 0, none⟩) n n), (19, .slice (some ⟨bk2, 0, none⟩) n n), (20, .slice (some ⟨bk3, 0, none⟩) n n), (15, .int .i64 n), (16, .slice (some ⟨bp, 0, none⟩) n n), (0, .string co), (1, .int .u8 cf), (2, .string ct), (3, .int .i64 calls), (4, .int .u8 term), (5, .slice sA n cF), (6, .slice rA nr cR)] w [] m0) :
    SC Yba.prog (sub [1, 1, 1, 1, 1, 1, 1, 1, 1, 1, 1, 1, 1, 0] (Yba.f3.body.getD .skip)) Q Yba.f3.ntmps [(24, .bool true), (23, pt b23), (22, pt b22), (18, .slice (some ⟨bk1, 0, none⟩) n n), (19, .slice (some ⟨bk2, 0, none⟩) n n), (20, .slice (some ⟨bk3, 0, none⟩) n n), (15, .int .i64 n), (16, .slice (some ⟨bp, 0, none⟩) n n), (0, .string co), (1, .int .u8 cf), (2, .string ct), (3, .int .i64 calls), (4, .int .u8 term), (5, .slice sA n cF), (6, .slice rA nr cR)] w [] m0 := by
  refine SC.seq ?_
  refine SC.region ?_
  refine SL.y (OV.assign rfl) rfl ?_
  refine SL.nil ?_
  refine SC.then ?_
  refine SC.block ?_
  refine SC.loop (fun i : Nat => [(25, .int .i64 i), (24, .bool (allOk (flL cf Fl) i)), (23, pt b23), (22, pt b22), (18, .slice (some ⟨bk1, 0, none⟩) n n), (19, .slice (some ⟨bk2, 0, none⟩) n n), (20, .slice (some ⟨bk3, 0, none⟩) n n), (15, .int .i64 n), (16, .slice (some ⟨bp, 0, none⟩) n n), (0, .string co), (1, .int .u8 cf), (2, .string ct), (3, .int .i64 calls), (4, .int .u8 term), (5, .slice sA n cF), (6, .slice rA nr cR)]) (fun i => m0) (fun i => i ≤ n) (fun i => n - i) 0 (by omega) (by repeat' (first | exact trivial | refine ⟨rfl, ?_⟩)) (List.Sublist.refl _) ?_
  intro i hin
  refine SC.seq ?_
  refine SC.seq ?_
  refine SC.region ?_
  refine SL.y (OV.move rfl) rfl ?_
  refine SL.y (OV.move rfl) rfl ?_
  refine SL.y (OV.lss rfl rfl) rfl ?_
  refine SL.nil ?_
  refine SC.then ?_
  refine SC.condP rfl (fun hlt => ?_) (fun hge => ?_)
  · have hlt' : i < n := by omega
    obtain ⟨A, hA, hAc⟩ := hL.f i hlt'
    refine SC.skip ?_
    refine SC.then ?_
    refine SC.cutSt [(25, .int .i64 i), (24, .bool (allOk (flL cf Fl) (i + 1))), (23, pt b23), (22, pt b22), (18, .slice (some ⟨bk1, 0, none⟩) n n), (19, .slice (some ⟨bk2, 0, none⟩) n n), (20, .slice (some ⟨bk3, 0, none⟩) n n), (15, .int .i64 n), (16, .slice (some ⟨bp, 0, none⟩) n n), (0, .string co), (1, .int .u8 cf), (2, .string ct), (3, .int .i64 calls), (4, .int .u8 term), (5, .slice sA n cF), (6, .slice rA nr cR)] m0 ?_ ?_
    · refine SC.block ?_
      by_cases h1 : Fl i = 1
      · have e : allOk (flL cf Fl) (i + 1) = false := by rw [allOk_succ]; simp [h1]
        rw [e]
        refine SC.seq ?_
        refine SC.region ?_
        refine SL.y (OV.move rfl) rfl ?_
        refine SL.y (OV.move rfl) rfl ?_
        refine SL.y (OV.idxO i u22 se22 rfl hA rfl rfl (by omega)) rfl ?_
        refine SL.y (OV.loadOldA sc5 rfl (by simp) hAc) rfl ?_
        refine SL.y ((OV.eql rfl rfl).yes h1) rfl ?_
        refine SL.y (OV.move rfl) rfl ?_
        refine SL.skip rfl rfl rfl ?_
        refine SL.skip rfl rfl rfl ?_
        refine SL.skip rfl rfl rfl ?_
        refine SL.skip rfl rfl rfl ?_
        refine SL.skip rfl rfl rfl ?_
        refine SL.y (OV.pickT rfl rfl) rfl ?_
        refine SL.nil ?_
        refine SC.then ?_
        refine SC.cond rfl (fun _ => ?_) (fun e => by cases e)
        refine SC.region ?_
        refine SL.y (OV.assign rfl) rfl ?_
        refine SL.nil ?_
        exact SE.nb (SE.toSt (by repeat' (first | exact trivial | refine ⟨rfl, ?_⟩)) (List.Sublist.refl _))
      · skip
        refine SC.seq ?_
        refine SC.region ?_
        refine SL.y (OV.move rfl) rfl ?_
        refine SL.y (OV.move rfl) rfl ?_
        refine SL.y (OV.idxO i u22 se22 rfl hA rfl rfl (by omega)) rfl ?_
        refine SL.y (OV.loadOldA sc5 rfl (by simp) hAc) rfl ?_
        refine SL.y ((OV.eql rfl rfl).no h1) rfl ?_
        refine SL.y (OV.move rfl) rfl ?_
        refine SL.yg rfl rfl (OV.move rfl) rfl ?_
        refine SL.yg rfl rfl (OV.move rfl) rfl ?_
        refine SL.yg rfl rfl (OV.idxO i u22 se22 rfl hA rfl rfl (by omega)) rfl ?_
        refine SL.yg rfl rfl (OV.loadOldA sc5 rfl (by simp) hAc) rfl ?_
        refine SL.yg rfl rfl (OV.eql rfl rfl) rfl ?_
        refine SL.y (OV.pickF rfl rfl) rfl ?_
        refine SL.nil ?_
        refine SC.then ?_
        refine SC.condP rfl (fun h3 => ?_) (fun h3 => ?_)
        · have e : allOk (flL cf Fl) (i + 1) = false := by rw [allOk_succ]; simp [h3]
          rw [e]
          refine SC.region ?_
          refine SL.y (OV.assign rfl) rfl ?_
          refine SL.nil ?_
          exact SE.nb (SE.toSt (by repeat' (first | exact trivial | refine ⟨rfl, ?_⟩)) (List.Sublist.refl _))
        · have e : allOk (flL cf Fl) (i + 1) = allOk (flL cf Fl) i := by rw [allOk_succ]; simp [h1, h3]
          rw [e]
          refine SC.skip ?_
          exact SE.nb (SE.toSt (by repeat' (first | exact trivial | refine ⟨rfl, ?_⟩)) (List.Sublist.refl _))
    refine SC.region ?_
    refine SL.y (OV.move rfl) rfl ?_
    refine SL.y (OV.add rfl rfl (wrap_i64 (by omega) (by omega))) rfl ?_
    refine SL.y (OV.assign rfl) rfl ?_
    refine SL.nil ?_
    exact SE.round (i + 1) (by omega) (by omega) (by repeat' (first | exact trivial | refine ⟨rfl, ?_⟩)) (List.Sublist.refl _)
  · have hi' : i = n := by omega
    subst hi'
    refine SC.exit ?_
    refine SE.thenE (SE.thenE (SE.inBlock ?_))
    exact SE.weaken (by repeat' (first | exact trivial | refine ⟨rfl, ?_⟩)) (List.Sublist.refl _) h
/-- The table of the three answers. -/
theorem stage5 {bp bk1 bk2 bk3 b22 b23 bu bq bd : Nat} (hn : n ≤ 1024) (hL : LIn w sA n Fl rA nr Rf)
    (h : SE (Q .normal) Yba.f3.ntmps [(27, .slice (some ⟨bu, 0, none⟩) n n), (28, .slice (some ⟨bq, 0, none⟩) n n), (29, .slice (some ⟨bd, 0, none⟩) n n), (23, pt b23), (22, pt b22), (18, .slice (some ⟨bk1, 0, none⟩) n n), (19, .slice (some ⟨bk2, 0, none⟩) n n), (20, .slice (some ⟨bk3, 0, none⟩) n n), (15, .int .i64 n), (16, .slice (some ⟨bp, 0, none⟩) n n), (0, .string co), (1, .int .u8 cf), (2, .string ct), (3, .int .i64 calls), (4, .int .u8 term), (5, .slice sA n cF), (6, .slice rA nr cR)] w [] ((bu, irow 42 .u8 n (fK (uF (flL cf Fl)) n)) :: (bq, irow 42 .u8 n (fK (pF (flL cf Fl)) n)) :: (bd, irow 42 .u8 n (fK (dF (flL cf Fl) n) n)) :: m0)) :
    SC Yba.prog (sub [1, 1, 1, 1, 1, 1, 1, 1, 1, 1, 1, 1, 1, 1, 1, 1, 1, 1, 1, 0] (Yba.f3.body.getD .skip)) Q Yba.f3.ntmps [(26, .int .u8 (msgOf (recOf (allOk (flL cf Fl) n)))), (27, .slice (some ⟨bu, 0, none⟩) n n), (28, .slice (some ⟨bq, 0, none⟩) n n), (29, .slice (some ⟨bd, 0, none⟩) n n), (23, pt b23), (22, pt b22), (18, .slice (some ⟨bk1, 0, none⟩) n n), (19, .slice (some ⟨bk2, 0, none⟩) n n), (20, .slice (some ⟨bk3, 0, none⟩) n n), (15, .int .i64 n), (16, .slice (some ⟨bp, 0, none⟩) n n), (0, .string co), (1, .int .u8 cf), (2, .string ct), (3, .int .i64 calls), (4, .int .u8 term), (5, .slice sA n cF), (6, .slice rA nr cR)] w [] ((bu, irow 42 .u8 n (fK (uF (flL cf Fl)) 0)) :: (bq, irow 42 .u8 n (fK (pF (flL cf Fl)) 0)) :: (bd, irow 42 .u8 n (fK (dF (flL cf Fl) n) 0)) :: m0) := by
  refine SC.seq ?_
  refine SC.region ?_
  refine SL.y (OV.assign rfl) rfl ?_
  refine SL.nil ?_
  refine SC.then ?_
  refine SC.block ?_
  refine SC.loop (fun i : Nat => [(30, .int .i64 i), (26, .int .u8 (msgOf (recOf (allOk (flL cf Fl) n)))), (27, .slice (some ⟨bu, 0, none⟩) n n), (28, .slice (some ⟨bq, 0, none⟩) n n), (29, .slice (some ⟨bd, 0, none⟩) n n), (23, pt b23), (22, pt b22), (18, .slice (some ⟨bk1, 0, none⟩) n n), (19, .slice (some ⟨bk2, 0, none⟩) n n), (20, .slice (some ⟨bk3, 0, none⟩) n n), (15, .int .i64 n), (16, .slice (some ⟨bp, 0, none⟩) n n), (0, .string co), (1, .int .u8 cf), (2, .string ct), (3, .int .i64 calls), (4, .int .u8 term), (5, .slice sA n cF), (6, .slice rA nr cR)]) (fun i => ((bu, irow 42 .u8 n (fK (uF (flL cf Fl)) i)) :: (bq, irow 42 .u8 n (fK (pF (flL cf Fl)) i)) :: (bd, irow 42 .u8 n (fK (dF (flL cf Fl) n) i)) :: m0)) (fun i => i ≤ n) (fun i => n - i) 0 (by omega) (by repeat' (first | exact trivial | refine ⟨rfl, ?_⟩)) (List.Sublist.refl _) ?_
  intro i hin
  refine SC.seq ?_
  refine SC.seq ?_
  refine SC.region ?_
  refine SL.y (OV.move rfl) rfl ?_
  refine SL.y (OV.move rfl) rfl ?_
  refine SL.y (OV.lss rfl rfl) rfl ?_
  refine SL.nil ?_
  refine SC.then ?_
  refine SC.condP rfl (fun hlt => ?_) (fun hge => ?_)
  · have hlt' : i < n := by omega
    obtain ⟨A, hA, hAc⟩ := hL.f i hlt'
    refine SC.skip ?_
    refine SC.then ?_
    refine SC.cutSt [(30, .int .i64 i), (26, .int .u8 (msgOf (recOf (allOk (flL cf Fl) n)))), (27, .slice (some ⟨bu, 0, none⟩) n n), (28, .slice (some ⟨bq, 0, none⟩) n n), (29, .slice (some ⟨bd, 0, none⟩) n n), (23, pt b23), (22, pt b22), (18, .slice (some ⟨bk1, 0, none⟩) n n), (19, .slice (some ⟨bk2, 0, none⟩) n n), (20, .slice (some ⟨bk3, 0, none⟩) n n), (15, .int .i64 n), (16, .slice (some ⟨bp, 0, none⟩) n n), (0, .string co), (1, .int .u8 cf), (2, .string ct), (3, .int .i64 calls), (4, .int .u8 term), (5, .slice sA n cF), (6, .slice rA nr cR)] ((bu, irow 42 .u8 n (fK (uF (flL cf Fl)) (i + 1))) :: (bq, irow 42 .u8 n (fK (pF (flL cf Fl)) (i + 1))) :: (bd, irow 42 .u8 n (fK (dF (flL cf Fl) n) (i + 1))) :: m0) ?_ ?_
    · refine SC.block ?_
      refine SC.seq ?_
      refine SC.region ?_
      refine SL.y (OV.move rfl) rfl ?_
      refine SL.y (OV.move rfl) rfl ?_
      refine SL.y (OV.idxO i u22 se22 rfl hA rfl rfl (by omega)) rfl ?_
      refine SL.y (OV.loadOldA sc5 rfl (by simp) hAc) rfl ?_
      refine SL.nil ?_
      refine SC.then ?_
      refine SC.block ?_
      refine SC.seq ?_
      refine SC.region ?_
      refine SL.y (OV.eql rfl rfl) rfl ?_
      refine SL.y (OV.assign rfl) rfl ?_
      refine SL.nil ?_
      refine SC.then ?_
      refine SC.condP rfl (fun h3 => ?_) (fun h3 => ?_)
      · skip
        refine SC.region ?_
        refine SL.y (OV.move rfl) rfl ?_
        refine SL.y (OV.move rfl) rfl ?_
        refine SL.y (OV.move rfl) rfl ?_
        refine SL.y (OV.move rfl) rfl ?_
        refine SL.y (OV.move rfl) rfl ?_
        refine SL.y (OV.move rfl) rfl ?_
        refine SL.y (OV.idx1 i u43 se43 rfl rfl rfl (by omega)) rfl ?_
        refine SL.s (OS.storeI 0 sz42 rfl rfl rfl (by omega)) ?_
        refine SL.y (OV.idx1 i u43 se43 rfl rfl rfl (by omega)) rfl ?_
        refine SL.s (OS.storeI 1 sz42 rfl rfl rfl (by omega)) ?_
        refine SL.y (OV.idx1 i u43 se43 rfl rfl rfl (by omega)) rfl ?_
        refine SL.s (OS.storeI 2 sz42 rfl rfl rfl (by omega)) ?_
        refine SL.nil ?_
        refine SE.nb (SE.nb (SE.toSt (by repeat' (first | exact trivial | refine ⟨rfl, ?_⟩)) ?_))
        rw [← fK_set (f := uF (flL cf Fl)) (v := 0) (by unfold uF uM; rw [flL_succ, if_pos h3]), ← fK_set (f := pF (flL cf Fl)) (v := 0) (by unfold pF pM; rw [flL_succ, if_pos h3]), ← fK_set (f := dF (flL cf Fl) n) (v := 0) (by unfold dF dM; rw [flL_succ, if_pos h3])]
        exact List.Sublist.refl _
      · skip
        refine SC.seq ?_
        refine SC.region ?_
        refine SL.y (OV.eql rfl rfl) rfl ?_
        refine SL.y (OV.assign rfl) rfl ?_
        refine SL.nil ?_
        refine SC.then ?_
        refine SC.condP rfl (fun h1 => ?_) (fun h1 => ?_)
        · skip
          refine SC.region ?_
          refine SL.y (OV.move rfl) rfl ?_
          refine SL.y (OV.move rfl) rfl ?_
          refine SL.y (OV.move rfl) rfl ?_
          refine SL.y (OV.move rfl) rfl ?_
          refine SL.y (OV.move rfl) rfl ?_
          refine SL.y (OV.move rfl) rfl ?_
          refine SL.y (OV.move rfl) rfl ?_
          refine SL.y (OV.idx1 i u43 se43 rfl rfl rfl (by omega)) rfl ?_
          refine SL.s (OS.storeI 0 sz42 rfl rfl rfl (by omega)) ?_
          refine SL.y (OV.idx1 i u43 se43 rfl rfl rfl (by omega)) rfl ?_
          refine SL.s (OS.storeI 1 sz42 rfl rfl rfl (by omega)) ?_
          refine SL.y (OV.idx1 i u43 se43 rfl rfl rfl (by omega)) rfl ?_
          refine SL.s (OS.storeI 2 sz42 rfl rfl rfl (by omega)) ?_
          refine SL.nil ?_
          refine SE.nb (SE.nb (SE.toSt (by repeat' (first | exact trivial | refine ⟨rfl, ?_⟩)) ?_))
          rw [← fK_set (f := uF (flL cf Fl)) (v := 9) (by unfold uF uM; rw [flL_succ, if_neg h3]), ← fK_set (f := pF (flL cf Fl)) (v := 5) (by unfold pF pM; rw [flL_succ, if_neg h3, if_pos h1]), ← fK_set (f := dF (flL cf Fl) n) (v := msgOf (recOf (allOk (flL cf Fl) n))) (by unfold dF dM; rw [flL_succ, if_neg h3, if_neg (by rw [h1]; decide)])]
          exact List.Sublist.refl _
        · skip
          refine SC.seq ?_
          refine SC.region ?_
          refine SL.y (OV.eql rfl rfl) rfl ?_
          refine SL.y (OV.assign rfl) rfl ?_
          refine SL.nil ?_
          refine SC.then ?_
          refine SC.condP rfl (fun h2 => ?_) (fun h2 => ?_)
          · skip
            refine SC.region ?_
            refine SL.y (OV.move rfl) rfl ?_
            refine SL.y (OV.move rfl) rfl ?_
            refine SL.y (OV.move rfl) rfl ?_
            refine SL.y (OV.move rfl) rfl ?_
            refine SL.y (OV.move rfl) rfl ?_
            refine SL.y (OV.move rfl) rfl ?_
            refine SL.y (OV.idx1 i u43 se43 rfl rfl rfl (by omega)) rfl ?_
            refine SL.s (OS.storeI 0 sz42 rfl rfl rfl (by omega)) ?_
            refine SL.y (OV.idx1 i u43 se43 rfl rfl rfl (by omega)) rfl ?_
            refine SL.s (OS.storeI 1 sz42 rfl rfl rfl (by omega)) ?_
            refine SL.y (OV.idx1 i u43 se43 rfl rfl rfl (by omega)) rfl ?_
            refine SL.s (OS.storeI 2 sz42 rfl rfl rfl (by omega)) ?_
            refine SL.nil ?_
            refine SE.nb (SE.nb (SE.toSt (by repeat' (first | exact trivial | refine ⟨rfl, ?_⟩)) ?_))
            rw [← fK_set (f := uF (flL cf Fl)) (v := 9) (by unfold uF uM; rw [flL_succ, if_neg h3]), ← fK_set (f := pF (flL cf Fl)) (v := 0) (by unfold pF pM; rw [flL_succ, if_neg h3, if_neg h1, if_pos h2]), ← fK_set (f := dF (flL cf Fl) n) (v := 0) (by unfold dF dM; rw [flL_succ, if_neg h3, if_pos h2])]
            exact List.Sublist.refl _
          · skip
            refine SC.region ?_
            refine SL.y (OV.move rfl) rfl ?_
            refine SL.y (OV.move rfl) rfl ?_
            refine SL.y (OV.move rfl) rfl ?_
            refine SL.y (OV.move rfl) rfl ?_
            refine SL.y (OV.move rfl) rfl ?_
            refine SL.y (OV.move rfl) rfl ?_
            refine SL.y (OV.move rfl) rfl ?_
            refine SL.y (OV.idx1 i u43 se43 rfl rfl rfl (by omega)) rfl ?_
            refine SL.s (OS.storeI 0 sz42 rfl rfl rfl (by omega)) ?_
            refine SL.y (OV.idx1 i u43 se43 rfl rfl rfl (by omega)) rfl ?_
            refine SL.s (OS.storeI 1 sz42 rfl rfl rfl (by omega)) ?_
            refine SL.y (OV.idx1 i u43 se43 rfl rfl rfl (by omega)) rfl ?_
            refine SL.s (OS.storeI 2 sz42 rfl rfl rfl (by omega)) ?_
            refine SL.nil ?_
            refine SE.nb (SE.nb (SE.toSt (by repeat' (first | exact trivial | refine ⟨rfl, ?_⟩)) ?_))
            rw [← fK_set (f := uF (flL cf Fl)) (v := 9) (by unfold uF uM; rw [flL_succ, if_neg h3]), ← fK_set (f := pF (flL cf Fl)) (v := 2) (by unfold pF pM; rw [flL_succ, if_neg h3, if_neg h1, if_neg h2]), ← fK_set (f := dF (flL cf Fl) n) (v := msgOf (recOf (allOk (flL cf Fl) n))) (by unfold dF dM; rw [flL_succ, if_neg h3, if_neg h2])]
            exact List.Sublist.refl _
    refine SC.region ?_
    refine SL.y (OV.move rfl) rfl ?_
    refine SL.y (OV.add rfl rfl (wrap_i64 (by omega) (by omega))) rfl ?_
    refine SL.y (OV.assign rfl) rfl ?_
    refine SL.nil ?_
    exact SE.round (i + 1) (by omega) (by omega) (by repeat' (first | exact trivial | refine ⟨rfl, ?_⟩)) (List.Sublist.refl _)
  · have hi' : i = n := by omega
    subst hi'
    refine SC.exit ?_
    refine SE.thenE (SE.thenE (SE.inBlock ?_))
    exact SE.weaken (by repeat' (first | exact trivial | refine ⟨rfl, ?_⟩)) (List.Sublist.refl _) h
end
end Go.Proofs.Ybulkdrci.A
