import Derived.Test.YbulkdrciALaw4
namespace Go.Proofs.Ybulkdrci.A
open Go Go.RowKit Go.Proofs.Ybulkdrci.A.Sym
set_option linter.unusedVariables false
set_option linter.unusedSimpArgs false
set_option maxRecDepth 100000


theorem info37 : (Yba.prog.info? 37).map (fun i => (i.zero, i.size, i.bytes)) = some (some (.slice none 0 0), 1, 24) := by kernel_rfl
theorem bld36 (co : ByteArray) (cf : Int) (ct : ByteArray) (A : Option Addr) (l c : Nat) (calls term : Int) (w : World) : (Instr.build 36 #[(0, .string co), (1, .int .u8 cf), (2, .string ct), (3, .slice A l c), (4, .int .i64 calls), (6, .int .u8 term)]).run Yba.prog w = .ok (.agg #[.string co, .int .u8 cf, .string ct, .slice A l c, .int .i64 calls, .bool false, .int .u8 0, .bool false, .int .u8 term]) w := by kernel_rfl
theorem scn_one (co : ByteArray) (cf : Int) (ct : ByteArray) (bp n : Nat) (calls term : Int) : ∀ u ∈ (scn co cf ct bp n calls term).cells.toList, u.oneCell' = true := by
  intro u hu
  simp [Value.cells] at hu
  rcases hu with rfl | rfl | rfl | rfl | rfl | rfl | rfl | rfl | rfl <;> rfl
theorem parts6 {env : Env} {i0 i1 i2 i3 i4 i5 : Nat} {x0 x1 x2 x3 x4 x5 : Operand} {v0 v1 v2 v3 v4 v5 : Value} (h0 : ev env x0 = some v0) (h1 : ev env x1 = some v1) (h2 : ev env x2 = some v2) (h3 : ev env x3 = some v3) (h4 : ev env x4 = some v4) (h5 : ev env x5 = some v5) (ρ : Operand → Value) (hρ : ∀ x u, ev env x = some u → ρ x = u) :
    (#[(i0, x0), (i1, x1), (i2, x2), (i3, x3), (i4, x4), (i5, x5)] : Array (Nat × Operand)).map (fun p => (p.1, ρ p.2)) = #[(i0, v0), (i1, v1), (i2, v2), (i3, v3), (i4, v4), (i5, v5)] := by simp [hρ x0 _ h0, hρ x1 _ h1, hρ x2 _ h2, hρ x3 _ h3, hρ x4 _ h4, hρ x5 _ h5]
def nmL (co : ByteArray) (k : Nat) : ByteArray := if k = 0 then co else nmf (k - 1)
def roL (r : Nat → Bool) (k : Nat) : Bool := if k = 0 then false else r (k - 1)
theorem nmL_succ (co : ByteArray) (i : Nat) : nmL co (i + 1) = nmf i := by unfold nmL; rw [if_neg (by omega), Nat.add_sub_cancel]
theorem roL_succ (r : Nat → Bool) (i : Nat) : roL r (i + 1) = r i := by unfold roL; rw [if_neg (by omega), Nat.add_sub_cancel]
theorem pin_of {w0 w : World} {m : List Blk} {bp n j : Nat} {co : ByteArray} {cf : Int} {Fl : Nat → Int} {r : Nat → Bool} (hM : Mm w0 [] m w) (hj : m[j]? = some (bp, row 28 (tab (n * 4) (ppc Fl r n)))) : PIn w bp n (nmL co) (flL cf Fl) (roL r) := by
  have key : ∀ i q, i < n → q < 4 → w.cell? ⟨bp, i * 4 + q, none⟩ = some (pcl Fl r i q) := fun i q hi hq => by
    have h1 := hM.cell (o := i * 4 + q) hj (tab_get (by omega))
    have h2 := pp_at (Fl := Fl) (r := r) (n := n) hi hq
    rw [Nat.zero_add] at h2
    rw [h1, h2]
  refine ⟨fun i hi => ?_, fun i hi => ?_, fun i hi => ?_, fun i hi => ?_⟩
  · rw [key i 0 hi (by decide), nmL_succ]; rfl
  · rw [key i 1 hi (by decide), flL_succ]; rfl
  · rw [key i 2 hi (by decide), roL_succ]; rfl
  · rw [key i 3 hi (by decide)]; rfl
section
variable {w : World} {co ct : ByteArray} {cf calls term : Int} {sA rA : Option Addr} {n cF nr cR : Nat} {Fl : Nat → Int} {Rf : Nat → Bool}
theorem walkSmall (hn : n ≤ 1024) (hL : LIn w sA n Fl rA nr Rf) :
    Calls Yba.prog 3 #[.string co, .int .u8 cf, .string ct, .int .i64 calls, .int .u8 term, .slice sA n cF, .slice rA nr cR] w fun e w' => e = .returned (.bool true) ∧ Below w.heap.size w w' := by
  obtain ⟨i28, hi28, hz28, hs28, hb28⟩ := info_parts info28
  obtain ⟨i9, hi9, hz9, hs9, hb9⟩ := info_parts info9
  obtain ⟨i36, hi36, hz36, hs36, hb36⟩ := info_parts info36
  obtain ⟨i37, hi37, hz37, hs37, hb37⟩ := info_parts info37
  refine Calls.of_SC (args := [.string co, .int .u8 cf, .string ct, .int .i64 calls, .int .u8 term, .slice sA n cF, .slice rA nr cR]) Yba.func3 rfl (by simp [Yba.f3]) (Mm.start w) ?_
  refine SC.seq ?_
  refine SC.region ?_
  refine SL.y (OV.assign rfl) rfl ?_
  refine SL.nil ?_
  refine SC.then ?_
  refine SC.seq ?_
  refine SC.seq ?_
  refine SC.region ?_
  refine SL.y (OV.move rfl) rfl ?_
  refine SL.y (OV.len u22 rfl) rfl ?_
  refine SL.y ((OV.gtr rfl rfl).no (by omega)) rfl ?_
  refine SL.nil ?_
  refine SC.then ?_
  refine SC.cond rfl (fun e => by cases e) (fun _ => ?_)
  refine SC.skip ?_
  refine SC.then ?_
  refine SC.seq ?_
  refine SC.region ?_
  refine SL.y (OV.move rfl) rfl ?_
  refine SL.y (OV.len u22 rfl) rfl ?_
  refine SL.y (OV.assign rfl) rfl ?_
  refine SL.nil ?_
  refine SC.then ?_
  refine SC.seq ?_
  refine SC.region ?_
  refine SL.y (OV.move rfl) rfl ?_
  refine SL.e (OE.makeS n n u24 hi28 hz28 hs28 rfl rfl rfl rfl (Nat.le_refl _) (by rw [hb28]; omega) (by omega)) rfl ?_
  intro bp
  refine SL.y (OV.assign rfl) rfl ?_
  refine SL.nil ?_
  refine SC.then ?_
  refine SC.weaken (env' := [(15, .int .i64 n), (16, .slice (some ⟨bp, 0, none⟩) n n), (0, .string co), (1, .int .u8 cf), (2, .string ct), (3, .int .i64 calls), (4, .int .u8 term), (5, .slice sA n cF), (6, .slice rA nr cR)]) (m' := [(bp, row 28 (tab (n * 4) (ppc Fl (rF nr Rf) 0)))]) (by repeat' (first | exact trivial | refine ⟨rfl, ?_⟩)) (by rw [← pp_made]; exact List.Sublist.refl _) ?_
  refine SC.cutSt [(15, .int .i64 n), (16, .slice (some ⟨bp, 0, none⟩) n n), (0, .string co), (1, .int .u8 cf), (2, .string ct), (3, .int .i64 calls), (4, .int .u8 term), (5, .slice sA n cF), (6, .slice rA nr cR)] [(bp, row 28 (tab (n * 4) (ppc Fl (rF nr Rf) n)))] (stage1 (by repeat (first | exact PanicOk.body | refine PanicOk.then ?_ | refine PanicOk.block ?_)) hn hL (SE.toSt (by repeat' (first | exact trivial | refine ⟨rfl, ?_⟩)) (List.Sublist.refl _))) ?_
  refine SC.seq ?_
  refine SC.region ?_
  refine SL.y (OV.move rfl) rfl ?_
  refine SL.e (OE.makeS n n u29 hi9 hz9 hs9 rfl rfl rfl rfl (Nat.le_refl _) (by rw [hb9]; omega) (by omega)) rfl ?_
  intro bk1
  refine SL.y (OV.assign rfl) rfl ?_
  refine SL.nil ?_
  refine SC.then ?_
  refine SC.seq ?_
  refine SC.region ?_
  refine SL.y (OV.move rfl) rfl ?_
  refine SL.e (OE.makeI n n u30 in26 rfl rfl rfl rfl (Nat.le_refl _) (by omega) (by omega)) rfl ?_
  intro bk2
  refine SL.y (OV.assign rfl) rfl ?_
  refine SL.nil ?_
  refine SC.then ?_
  refine SC.seq ?_
  refine SC.region ?_
  refine SL.y (OV.move rfl) rfl ?_
  refine SL.e (OE.makeB n n u23 in4 rfl rfl rfl rfl (Nat.le_refl _) (by omega) (by omega)) rfl ?_
  intro bk3
  refine SL.y (OV.assign rfl) rfl ?_
  refine SL.nil ?_
  refine SC.then ?_
  refine SC.weaken (env' := [(18, .slice (some ⟨bk1, 0, none⟩) n n), (19, .slice (some ⟨bk2, 0, none⟩) n n), (20, .slice (some ⟨bk3, 0, none⟩) n n), (15, .int .i64 n), (16, .slice (some ⟨bp, 0, none⟩) n n), (0, .string co), (1, .int .u8 cf), (2, .string ct), (3, .int .i64 calls), (4, .int .u8 term), (5, .slice sA n cF), (6, .slice rA nr cR)]) (m' := [(bp, row 28 (tab (n * 4) (ppc Fl (rF nr Rf) n))), (bk1, row 9 (tab n (kN 0))), (bk2, irow 26 .u8 n (kI Fl 0)), (bk3, brow 4 n (kB (rF nr Rf) 0))]) (by repeat' (first | exact trivial | refine ⟨rfl, ?_⟩)) (by
    have e1 : irow 26 .u8 n (kI Fl 0) = irow 26 .u8 n (fun _ => 0) := irow_congr fun q _ => by unfold kI; rw [if_neg (by omega)]
    have e2 : brow 4 n (kB (rF nr Rf) 0) = brow 4 n (fun _ => false) := brow_congr fun q _ => by unfold kB; rw [if_neg (by omega)]
    rw [← kN_made, e1, e2]
    exact List.Sublist.refl _) ?_
  refine SC.cutSt [(18, .slice (some ⟨bk1, 0, none⟩) n n), (19, .slice (some ⟨bk2, 0, none⟩) n n), (20, .slice (some ⟨bk3, 0, none⟩) n n), (15, .int .i64 n), (16, .slice (some ⟨bp, 0, none⟩) n n), (0, .string co), (1, .int .u8 cf), (2, .string ct), (3, .int .i64 calls), (4, .int .u8 term), (5, .slice sA n cF), (6, .slice rA nr cR)] [(bp, row 28 (tab (n * 4) (ppc Fl (rF nr Rf) n))), (bk1, row 9 (tab n (kN n))), (bk2, irow 26 .u8 n (kI Fl n)), (bk3, brow 4 n (kB (rF nr Rf) n))] (stage2 hn (SE.toSt (by repeat' (first | exact trivial | refine ⟨rfl, ?_⟩)) (List.Sublist.refl _))) ?_
  refine SC.seq ?_
  refine SC.region ?_
  refine SL.y (OV.move rfl) rfl ?_
  refine SL.y (OV.move rfl) rfl ?_
  refine SL.y (OV.move rfl) rfl ?_
  refine SL.y (OV.move rfl) rfl ?_
  refine SL.y (OV.move rfl) rfl ?_
  refine SL.y (OV.move rfl) rfl ?_
  refine SL.y (OV.build (parts6 rfl rfl rfl rfl rfl rfl) (bld36 _ _ _ _ _ _ _ _)) rfl ?_
  refine SL.e (OE.alloc hi36 hz36) rfl ?_
  intro b22
  refine SL.s (OS.storeAll 4 hi36 rfl rfl rfl (by rw [hs36]; rfl) (scn_one co cf ct bp n calls term) (by rw [hs36]; rfl)) ?_
  refine SL.nil ?_
  refine SC.then ?_
  refine SC.seq ?_
  refine SC.region ?_
  refine SL.e (OE.alloc hi37 hz37) rfl ?_
  intro b23
  refine SL.nil ?_
  refine SC.then ?_
  refine SC.weaken (env' := [(23, pt b23), (22, pt b22), (18, .slice (some ⟨bk1, 0, none⟩) n n), (19, .slice (some ⟨bk2, 0, none⟩) n n), (20, .slice (some ⟨bk3, 0, none⟩) n n), (15, .int .i64 n), (16, .slice (some ⟨bp, 0, none⟩) n n), (0, .string co), (1, .int .u8 cf), (2, .string ct), (3, .int .i64 calls), (4, .int .u8 term), (5, .slice sA n cF), (6, .slice rA nr cR)]) (m' := [(bp, row 28 (tab (n * 4) (ppc Fl (rF nr Rf) n))), (bk1, row 9 (tab n (kN n))), (bk2, irow 26 .u8 n (kI Fl n)), (bk3, brow 4 n (kB (rF nr Rf) n)), (b22, row 36 (scnCells co cf ct bp n calls term))] ++ GA b23 none []) (by repeat' (first | exact trivial | refine ⟨rfl, ?_⟩)) (List.Sublist.refl _) ?_
  refine SC.seq ?_
  refine SC.region ?_
  refine SL.y (OV.loadAgg (vs := scnCells co cf ct bp n calls term) 4 ag36 us36 hi36 rfl rfl (by rw [hs36]; rfl) (fun q v h => by rw [Nat.zero_add]; exact h)) rfl ?_
  refine SL.y (OV.mkF args0' (args1 rfl)) rfl ?_
  refine SL.call (σ := Option GB) (V := fun _ => .tuple #[]) (M := fun gs => [(bp, row 28 (tab (n * 4) (ppc Fl (rF nr Rf) n))), (bk1, row 9 (tab n (kN n))), (bk2, irow 26 .u8 n (kI Fl n)), (bk3, brow 4 n (kB (rF nr Rf) n)), (b22, row 36 (scnCells co cf ct bp n calls term))] ++ GA b23 gs (gAll (uF (flL cf Fl)) (pF (flL cf Fl)) (dF (flL cf Fl) n) n)) (G := fun gs => GOk gs (gAll (uF (flL cf Fl)) (pF (flL cf Fl)) (dF (flL cf Fl) n) n)) pf6 (args2 rfl rfl) (fun w' hM => (call6 (fl := flL cf Fl) (nm := nmL co) (ro := roL (rF nr Rf)) (by omega) (pin_of hM (j := 0) rfl) rfl rfl rfl (fun _ => hM.ne (i := 0) (j := 5) rfl rfl (by decide)) (hM.block (j := 5) rfl)).mono fun e w'' ⟨gs, he, hg, hM'⟩ => ⟨gs, he, hg, backA (A := GA b23 none []) hM hM'⟩) rfl ?_
  intro gs hgs
  refine SL.nil ?_
  refine SC.then ?_
  cases gs with
  | none =>
    exfalso
    have h0 : (gAll (uF (flL cf Fl)) (pF (flL cf Fl)) (dF (flL cf Fl) n) n) = [] := hgs
    have h1 := gAll_len (uF (flL cf Fl)) (pF (flL cf Fl)) (dF (flL cf Fl) n) n
    rw [h0] at h1
    simp at h1
  | some g =>
    have hgl := gAll_len (uF (flL cf Fl)) (pF (flL cf Fl)) (dF (flL cf Fl) n) n
    refine SC.weaken (env' := [(23, pt b23), (22, pt b22), (18, .slice (some ⟨bk1, 0, none⟩) n n), (19, .slice (some ⟨bk2, 0, none⟩) n n), (20, .slice (some ⟨bk3, 0, none⟩) n n), (15, .int .i64 n), (16, .slice (some ⟨bp, 0, none⟩) n n), (0, .string co), (1, .int .u8 cf), (2, .string ct), (3, .int .i64 calls), (4, .int .u8 term), (5, .slice sA n cF), (6, .slice rA nr cR)]) (m' := [(bp, row 28 (tab (n * 4) (ppc Fl (rF nr Rf) n))), (bk1, row 9 (tab n (kN n))), (bk2, irow 26 .u8 n (kI Fl n)), (bk3, brow 4 n (kB (rF nr Rf) n)), (b22, row 36 (scnCells co cf ct bp n calls term)), (b23, row 37 [.slice (some ⟨g.b, 0, none⟩) (2 * n + 1) g.C]), (g.b, row 40 (gcs (gAll (uF (flL cf Fl)) (pF (flL cf Fl)) (dF (flL cf Fl) n) n) ++ g.sp))]) (by repeat' (first | exact trivial | refine ⟨rfl, ?_⟩)) (by rw [← hgl]; exact List.Sublist.refl _) ?_
    refine SC.seq ?_
    refine SC.region ?_
    refine SL.y (OV.assign rfl) rfl ?_
    refine SL.nil ?_
    refine SC.then ?_
    refine SC.cutSt [(24, .bool (allOk (flL cf Fl) n)), (23, pt b23), (22, pt b22), (18, .slice (some ⟨bk1, 0, none⟩) n n), (19, .slice (some ⟨bk2, 0, none⟩) n n), (20, .slice (some ⟨bk3, 0, none⟩) n n), (15, .int .i64 n), (16, .slice (some ⟨bp, 0, none⟩) n n), (0, .string co), (1, .int .u8 cf), (2, .string ct), (3, .int .i64 calls), (4, .int .u8 term), (5, .slice sA n cF), (6, .slice rA nr cR)] [(bp, row 28 (tab (n * 4) (ppc Fl (rF nr Rf) n))), (bk1, row 9 (tab n (kN n))), (bk2, irow 26 .u8 n (kI Fl n)), (bk3, brow 4 n (kB (rF nr Rf) n)), (b22, row 36 (scnCells co cf ct bp n calls term)), (b23, row 37 [.slice (some ⟨g.b, 0, none⟩) (2 * n + 1) g.C]), (g.b, row 40 (gcs (gAll (uF (flL cf Fl)) (pF (flL cf Fl)) (dF (flL cf Fl) n) n) ++ g.sp))] (SC.weaken (by repeat' (first | exact trivial | refine ⟨rfl, ?_⟩)) (List.Sublist.refl _) (stage4 (bp := bp) (bk1 := bk1) (bk2 := bk2) (bk3 := bk3) (b22 := b22) (b23 := b23) (co := co) (ct := ct) (cf := cf) (calls := calls) (term := term) (cF := cF) (cR := cR) hn hL (SE.toSt (by repeat' (first | exact trivial | refine ⟨rfl, ?_⟩)) (List.Sublist.refl _)))) ?_
    refine SC.seq ?_
    refine SC.region ?_
    refine SL.y (OV.assign rfl) rfl ?_
    refine SL.nil ?_
    refine SC.then ?_
    refine SC.cutSt [(26, .int .u8 (msgOf (recOf (allOk (flL cf Fl) n)))), (23, pt b23), (22, pt b22), (18, .slice (some ⟨bk1, 0, none⟩) n n), (19, .slice (some ⟨bk2, 0, none⟩) n n), (20, .slice (some ⟨bk3, 0, none⟩) n n), (15, .int .i64 n), (16, .slice (some ⟨bp, 0, none⟩) n n), (0, .string co), (1, .int .u8 cf), (2, .string ct), (3, .int .i64 calls), (4, .int .u8 term), (5, .slice sA n cF), (6, .slice rA nr cR)] [(bp, row 28 (tab (n * 4) (ppc Fl (rF nr Rf) n))), (bk1, row 9 (tab n (kN n))), (bk2, irow 26 .u8 n (kI Fl n)), (bk3, brow 4 n (kB (rF nr Rf) n)), (b22, row 36 (scnCells co cf ct bp n calls term)), (b23, row 37 [.slice (some ⟨g.b, 0, none⟩) (2 * n + 1) g.C]), (g.b, row 40 (gcs (gAll (uF (flL cf Fl)) (pF (flL cf Fl)) (dF (flL cf Fl) n) n) ++ g.sp))] ?_ ?_
    · skip
      refine SC.seq ?_
      refine SC.region ?_
      refine SL.y (OV.move rfl) rfl ?_
      refine SL.nil ?_
      refine SC.then ?_
      cases allOk (flL cf Fl) n with
      | true =>
        refine SC.cond rfl (fun _ => ?_) (fun e => by cases e)
        refine SC.region ?_
        refine SL.y (OV.assign rfl) rfl ?_
        refine SL.nil ?_
        exact SE.toSt (by repeat' (first | exact trivial | refine ⟨rfl, ?_⟩)) (List.Sublist.refl _)
      | false =>
        refine SC.cond rfl (fun e => by cases e) (fun _ => ?_)
        refine SC.skip ?_
        exact SE.toSt (by repeat' (first | exact trivial | refine ⟨rfl, ?_⟩)) (List.Sublist.refl _)
    refine SC.seq ?_
    refine SC.region ?_
    refine SL.y (OV.move rfl) rfl ?_
    refine SL.e (OE.makeI n n u43 in42 rfl rfl rfl rfl (Nat.le_refl _) (by omega) (by omega)) rfl ?_
    intro bu
    refine SL.y (OV.assign rfl) rfl ?_
    refine SL.nil ?_
    refine SC.then ?_
    refine SC.seq ?_
    refine SC.region ?_
    refine SL.y (OV.move rfl) rfl ?_
    refine SL.e (OE.makeI n n u43 in42 rfl rfl rfl rfl (Nat.le_refl _) (by omega) (by omega)) rfl ?_
    intro bq
    refine SL.y (OV.assign rfl) rfl ?_
    refine SL.nil ?_
    refine SC.then ?_
    refine SC.seq ?_
    refine SC.region ?_
    refine SL.y (OV.move rfl) rfl ?_
    refine SL.e (OE.makeI n n u43 in42 rfl rfl rfl rfl (Nat.le_refl _) (by omega) (by omega)) rfl ?_
    intro bd
    refine SL.y (OV.assign rfl) rfl ?_
    refine SL.nil ?_
    refine SC.then ?_
    refine SC.weaken (env' := [(26, .int .u8 (msgOf (recOf (allOk (flL cf Fl) n)))), (27, .slice (some ⟨bu, 0, none⟩) n n), (28, .slice (some ⟨bq, 0, none⟩) n n), (29, .slice (some ⟨bd, 0, none⟩) n n), (23, pt b23), (22, pt b22), (18, .slice (some ⟨bk1, 0, none⟩) n n), (19, .slice (some ⟨bk2, 0, none⟩) n n), (20, .slice (some ⟨bk3, 0, none⟩) n n), (15, .int .i64 n), (16, .slice (some ⟨bp, 0, none⟩) n n), (0, .string co), (1, .int .u8 cf), (2, .string ct), (3, .int .i64 calls), (4, .int .u8 term), (5, .slice sA n cF), (6, .slice rA nr cR)]) (m' := [(bp, row 28 (tab (n * 4) (ppc Fl (rF nr Rf) n))), (bk1, row 9 (tab n (kN n))), (bk2, irow 26 .u8 n (kI Fl n)), (bk3, brow 4 n (kB (rF nr Rf) n)), (b22, row 36 (scnCells co cf ct bp n calls term)), (b23, row 37 [.slice (some ⟨g.b, 0, none⟩) (2 * n + 1) g.C]), (g.b, row 40 (gcs (gAll (uF (flL cf Fl)) (pF (flL cf Fl)) (dF (flL cf Fl) n) n) ++ g.sp))] ++ [(bu, irow 42 .u8 n (fK (uF (flL cf Fl)) 0)), (bq, irow 42 .u8 n (fK (pF (flL cf Fl)) 0)), (bd, irow 42 .u8 n (fK (dF (flL cf Fl) n) 0))]) (by repeat' (first | exact trivial | refine ⟨rfl, ?_⟩)) (by rw [← fK_zero, ← fK_zero, ← fK_zero]; exact List.Sublist.refl _) ?_
    refine SC.perm List.perm_append_comm ?_
    refine SC.cutSt [(27, .slice (some ⟨bu, 0, none⟩) n n), (28, .slice (some ⟨bq, 0, none⟩) n n), (29, .slice (some ⟨bd, 0, none⟩) n n), (23, pt b23), (22, pt b22), (18, .slice (some ⟨bk1, 0, none⟩) n n), (19, .slice (some ⟨bk2, 0, none⟩) n n), (20, .slice (some ⟨bk3, 0, none⟩) n n), (15, .int .i64 n), (16, .slice (some ⟨bp, 0, none⟩) n n), (0, .string co), (1, .int .u8 cf), (2, .string ct), (3, .int .i64 calls), (4, .int .u8 term), (5, .slice sA n cF), (6, .slice rA nr cR)] [(bu, irow 42 .u8 n (fK (uF (flL cf Fl)) n)), (bq, irow 42 .u8 n (fK (pF (flL cf Fl)) n)), (bd, irow 42 .u8 n (fK (dF (flL cf Fl) n) n)), (bp, row 28 (tab (n * 4) (ppc Fl (rF nr Rf) n))), (bk1, row 9 (tab n (kN n))), (bk2, irow 26 .u8 n (kI Fl n)), (bk3, brow 4 n (kB (rF nr Rf) n)), (b22, row 36 (scnCells co cf ct bp n calls term)), (b23, row 37 [.slice (some ⟨g.b, 0, none⟩) (2 * n + 1) g.C]), (g.b, row 40 (gcs (gAll (uF (flL cf Fl)) (pF (flL cf Fl)) (dF (flL cf Fl) n) n) ++ g.sp))] (stage5 (m0 := [(bp, row 28 (tab (n * 4) (ppc Fl (rF nr Rf) n))), (bk1, row 9 (tab n (kN n))), (bk2, irow 26 .u8 n (kI Fl n)), (bk3, brow 4 n (kB (rF nr Rf) n)), (b22, row 36 (scnCells co cf ct bp n calls term)), (b23, row 37 [.slice (some ⟨g.b, 0, none⟩) (2 * n + 1) g.C]), (g.b, row 40 (gcs (gAll (uF (flL cf Fl)) (pF (flL cf Fl)) (dF (flL cf Fl) n) n) ++ g.sp))]) hn hL (SE.toSt (by repeat' (first | exact trivial | refine ⟨rfl, ?_⟩)) (List.Sublist.refl _))) ?_
    refine SC.seq ?_
    refine SC.seq ?_
    refine SC.region ?_
    refine SL.y (OV.loadF 8 sc37 rfl rfl rfl) rfl ?_
    refine SL.y (OV.len u37 rfl) rfl ?_
    refine SL.y (OV.move rfl) rfl ?_
    refine SL.y (OV.mul rfl rfl (wrap_i64 (by omega) (by omega))) rfl ?_
    refine SL.y (OV.add rfl rfl (wrap_i64 (by omega) (by omega))) rfl ?_
    refine SL.y ((OV.neq rfl rfl).no (by omega)) rfl ?_
    refine SL.nil ?_
    refine SC.then ?_
    refine SC.cond rfl (fun e => by cases e) (fun _ => ?_)
    refine SC.skip ?_
    refine SC.then ?_
    refine SC.cutSt [(27, .slice (some ⟨bu, 0, none⟩) n n), (28, .slice (some ⟨bq, 0, none⟩) n n), (29, .slice (some ⟨bd, 0, none⟩) n n), (15, .int .i64 n), (23, pt b23), (22, pt b22), (18, .slice (some ⟨bk1, 0, none⟩) n n), (19, .slice (some ⟨bk2, 0, none⟩) n n), (20, .slice (some ⟨bk3, 0, none⟩) n n), (16, .slice (some ⟨bp, 0, none⟩) n n), (0, .string co), (1, .int .u8 cf), (2, .string ct), (3, .int .i64 calls), (4, .int .u8 term), (5, .slice sA n cF), (6, .slice rA nr cR)] [(bu, irow 42 .u8 n (fK (uF (flL cf Fl)) n)), (bq, irow 42 .u8 n (fK (pF (flL cf Fl)) n)), (bd, irow 42 .u8 n (fK (dF (flL cf Fl) n) n)), (bp, row 28 (tab (n * 4) (ppc Fl (rF nr Rf) n))), (bk1, row 9 (tab n (kN n))), (bk2, irow 26 .u8 n (kI Fl n)), (bk3, brow 4 n (kB (rF nr Rf) n)), (b22, row 36 (scnCells co cf ct bp n calls term)), (b23, row 37 [.slice (some ⟨g.b, 0, none⟩) (2 * n + 1) g.C]), (g.b, row 40 (gcs (gAll (uF (flL cf Fl)) (pF (flL cf Fl)) (dF (flL cf Fl) n) n) ++ g.sp))] (SC.weaken (by repeat' (first | exact trivial | refine ⟨rfl, ?_⟩)) (List.Sublist.refl _) (stage6 (bp := bp) (bk1 := bk1) (bk2 := bk2) (bk3 := bk3) (b22 := b22) (b23 := b23) (bu := bu) (bq := bq) (bd := bd) (g := g) (co := co) (ct := ct) (cf := cf) (calls := calls) (term := term) (sA := sA) (rA := rA) (cF := cF) (cR := cR) (Rf := Rf) (by repeat (first | exact PanicOk.body | refine PanicOk.then ?_ | refine PanicOk.block ?_)) hn (SE.toSt (by repeat' (first | exact trivial | refine ⟨rfl, ?_⟩)) (List.Sublist.refl _)))) ?_
    refine SC.weaken (by repeat' (first | exact trivial | refine ⟨rfl, ?_⟩)) ?_ (stage7 (bp := bp) (bk1 := bk1) (bk2 := bk2) (bk3 := bk3) (b22 := b22) (co := co) (ct := ct) (cf := cf) (calls := calls) (term := term) (sA := sA) (rA := rA) (cF := cF) (cR := cR) (nr := nr) (Fl := Fl) (Rf := Rf) hn)
    exact List.Sublist.cons _ (List.Sublist.cons _ (List.Sublist.cons _ (((((((List.nil_sublist _).cons_cons _).cons_cons _).cons_cons _).cons_cons _).cons_cons _))))
/-- THE WALK. -/
theorem walk (hL : LIn w sA n Fl rA nr Rf) :
    Calls Yba.prog 3 #[.string co, .int .u8 cf, .string ct, .int .i64 calls, .int .u8 term, .slice sA n cF, .slice rA nr cR] w fun e w' => e = .returned (.bool true) ∧ Below w.heap.size w w' := by
  by_cases hn : n ≤ 1024
  · exact walkSmall hn hL
  · refine Calls.of_SC (args := [.string co, .int .u8 cf, .string ct, .int .i64 calls, .int .u8 term, .slice sA n cF, .slice rA nr cR]) Yba.func3 rfl (by simp [Yba.f3]) (Mm.start w) ?_
    refine SC.seq ?_
    refine SC.region ?_
    refine SL.y (OV.assign rfl) rfl ?_
    refine SL.nil ?_
    refine SC.then ?_
    refine SC.seq ?_
    refine SC.seq ?_
    refine SC.region ?_
    refine SL.y (OV.move rfl) rfl ?_
    refine SL.y (OV.len u22 rfl) rfl ?_
    refine SL.y ((OV.gtr rfl rfl).yes (by omega)) rfl ?_
    refine SL.nil ?_
    refine SC.then ?_
    refine SC.cond rfl (fun _ => ?_) (fun e => by cases e)
    refine SC.seq ?_
    refine SC.region ?_
    refine SL.y (OV.assign rfl) rfl ?_
    refine SL.nil ?_
    refine SC.then ?_
    refine SC.ret ?_
    repeat (first | refine SE.blockR ?_ | refine SE.thenR ?_)
    exact SE.ret1 Yba.results3 rfl (fun w' hM => ⟨rfl, hM.below⟩)
end
end Go.Proofs.Ybulkdrci.A
