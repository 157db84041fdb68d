import Derived.Test.YbulkdrciANew
namespace Go.Proofs.Ybulkdrci.A
open Go Go.RowKit Go.Proofs.Ybulkdrci.A.Sym
set_option linter.unusedVariables false
set_option linter.unusedSimpArgs false
set_option maxRecDepth 100000

theorem Mm.fresh {w w' : World} {m : List Blk} {j b : Nat} {o : Obj} (hM : Mm w [] m w') (hj : m[j]? = some (b, o)) : w.heap.size ≤ b := ((hM.own _ (List.mem_of_getElem? hj)).2).resolve_left (by simp)
/-- The participants handed in. -/
structure PIn (w : World) (bp n : Nat) (nm : Nat → ByteArray) (fl : Nat → Int) (ro : Nat → Bool) : Prop where
  c0 : ∀ i, i < n → w.cell? ⟨bp, i * 4 + 0, none⟩ = some (.string (nm (i + 1)))
  c1 : ∀ i, i < n → w.cell? ⟨bp, i * 4 + 1, none⟩ = some (.int .u8 (fl (i + 1)))
  c2 : ∀ i, i < n → w.cell? ⟨bp, i * 4 + 2, none⟩ = some (.bool (ro (i + 1)))
  c3 : ∀ i, i < n → w.cell? ⟨bp, i * 4 + 3, none⟩ = some (.slice none 0 0)
theorem PIn.go {w0 w : World} {F : List Nat} {m : List Blk} {bp n : Nat} {nm : Nat → ByteArray} {fl : Nat → Int} {ro : Nat → Bool} (h : PIn w0 bp n nm fl ro) (hM : Mm w0 F m w) (hF : n ≠ 0 → bp ∉ F) : PIn w bp n nm fl ro :=
  ⟨fun i hi => Mm.oldCell hM (hF (by omega)) (h.c0 i hi), fun i hi => Mm.oldCell hM (hF (by omega)) (h.c1 i hi), fun i hi => Mm.oldCell hM (hF (by omega)) (h.c2 i hi), fun i hi => Mm.oldCell hM (hF (by omega)) (h.c3 i hi)⟩
theorem PIn.lt {w : World} {bp n : Nat} {nm : Nat → ByteArray} {fl : Nat → Int} {ro : Nat → Bool} (h : PIn w bp n nm fl ro) (hn : n ≠ 0) : bp < w.heap.size := block_lt_of_cell (h.c0 0 (by omega))
theorem ps_mk {w : World} {n : Nat} {calls term : Int} {till bc bp : Nat} {nm : Nat → ByteArray} {fl : Nat → Int} {ro : Nat → Bool} {v3 : Value} {B : List Nat} (h : PIn w bp n nm fl ro) (hc : w.heap[bc]? = some (row 28 [.string (nm 0), .int .u8 (fl 0), .bool (ro 0), v3])) (hbc : bc ∉ B) (hbp : n ≠ 0 → bp ∉ B) : Ps (mkD n calls term till bc bp nm fl ro) w B := by
  refine ⟨fun k hk => ?_, fun k hk => ?_, fun k hk => ?_, fun k hk => ?_⟩
  · cases k with
    | zero => show w.cell? ⟨bc, 0 + 0, none⟩ = _; simp [World.cell?, hc, row]; rfl
    | succ k => exact h.c0 k (by have : k + 1 ≤ n := hk; omega)
  · cases k with
    | zero => show w.cell? ⟨bc, 0 + 1, none⟩ = _; simp [World.cell?, hc, row]; rfl
    | succ k => exact h.c1 k (by have : k + 1 ≤ n := hk; omega)
  · cases k with
    | zero => show w.cell? ⟨bc, 0 + 2, none⟩ = _; simp [World.cell?, hc, row]; rfl
    | succ k => exact h.c2 k (by have : k + 1 ≤ n := hk; omega)
  · cases k with
    | zero => exact hbc
    | succ k => exact hbp (by have : k + 1 ≤ n := hk; omega)
theorem info36 : (Yba.prog.info? 36).map (fun i => (i.zero, i.size, i.bytes)) = some (some (.agg #[.string ⟨#[]⟩, .int .u8 0, .string ⟨#[]⟩, .slice none 0 0, .int .i64 0, .bool false, .int .u8 0, .bool false, .int .u8 0]), 9, 80) := by kernel_rfl
theorem info34 : (Yba.prog.info? 34).map (fun i => (i.zero, i.size, i.bytes)) = some (some (.agg #[.bool false, .int .u8 0, .bool false]), 3, 3) := by kernel_rfl
theorem info88 : (Yba.prog.info? 88).map (fun i => (i.zero, i.size, i.bytes)) = some (some (.agg #[.bool false, .int .i64 0, .int .i64 0, .slice none 0 0, .nilFunc, .slice none 0 0, .bool false, .int .u8 0, .bool false, .int .i64 0, .int .u8 0, .int .i64 0, .bool false]), 13, 120) := by kernel_rfl
theorem ag36 : scalar Yba.prog 36 = false := by kernel_rfl
theorem us36 : (Yba.prog.underlying 36).isSome = true := by kernel_rfl
theorem ag34 : scalar Yba.prog 34 = false := by kernel_rfl
theorem us34 : (Yba.prog.underlying 34).isSome = true := by kernel_rfl
theorem ag28 : scalar Yba.prog 28 = false := by kernel_rfl
theorem us28 : (Yba.prog.underlying 28).isSome = true := by kernel_rfl
theorem ag88 : scalar Yba.prog 88 = false := by kernel_rfl
theorem us88 : (Yba.prog.underlying 88).isSome = true := by kernel_rfl
def scnCells (co : ByteArray) (cf : Int) (ct : ByteArray) (bp n : Nat) (calls term : Int) : List Value := [.string co, .int .u8 cf, .string ct, .slice (some ⟨bp, 0, none⟩) n n, .int .i64 calls, .bool false, .int .u8 0, .bool false, .int .u8 term]
theorem bld88 (A : Option Addr) (l c : Nat) (cl term : Int) (w : World) : (Instr.build 88 #[(1, .nilFunc), (2, .slice A l c), (3, .agg #[.bool false, .int .u8 0, .bool false]), (4, .int .i64 cl), (5, .int .u8 term)]).run Yba.prog w = .ok (.agg #[.bool false, .int .i64 0, .int .i64 0, .slice none 0 0, .nilFunc, .slice A l c, .bool false, .int .u8 0, .bool false, .int .i64 cl, .int .u8 term, .int .i64 0, .bool false]) w := by kernel_rfl
section
variable {w : World} {co : ByteArray} {cf : Int} {ct : ByteArray} {bp n : Nat} {calls term : Int} {nm : Nat → ByteArray} {fl : Nat → Int} {ro : Nat → Bool}
def clOf (calls : Int) : Int := if calls < 1 then 1 else calls
/-- newRun -/
theorem call16 (hn : n ≤ 100000) (hp : PIn w bp n nm fl ro) (hco : nm 0 = co) (hcf : fl 0 = cf) (hro : ro 0 = false) :
    Calls Yba.prog 16 #[scn co cf ct bp n calls term, .nilFunc] w fun e w' => ∃ z : Nat × Nat × Nat × Nat, e = .returned (pt z.1) ∧ True ∧ Mm w [] [(z.1, rrow (mkD n (clOf calls) term z.2.2.2 z.2.2.1 bp nm fl ro) z.2.1 false 0 0), (z.2.1, nrow (mkD n (clOf calls) term z.2.2.2 z.2.2.1 bp nm fl ro) s0), (z.2.2.1, row 28 (cRow co cf bp n))] w' := by
  obtain ⟨i36, hi36, hz36, hs36, hb36⟩ := info_parts info36
  obtain ⟨i34, hi34, hz34, hs34, hb34⟩ := info_parts info34
  have hPQ : PanicOk (bodyPost Yba.prog Yba.f16 (fun e w' => ∃ z : Nat × Nat × Nat × Nat, e = .returned (pt z.1) ∧ True ∧ Mm w [] [(z.1, rrow (mkD n (clOf calls) term z.2.2.2 z.2.2.1 bp nm fl ro) z.2.1 false 0 0), (z.2.1, nrow (mkD n (clOf calls) term z.2.2.2 z.2.2.1 bp nm fl ro) s0), (z.2.2.1, row 28 (cRow co cf bp n))] w')) := PanicOk.body
  refine Calls.of_SC (args := [scn co cf ct bp n calls term, .nilFunc]) Yba.func16 rfl (by simp [Yba.f16]) (Mm.start w) ?_
  refine SC.seq ?_
  refine SC.region ?_
  refine SL.e (OE.box rfl) rfl ?_
  intro b2
  refine SL.y (OV.assign rfl) rfl ?_
  refine SL.nil ?_
  refine SC.then ?_
  refine SC.cutG (fun z : Nat × Nat × Nat => [(5, pt z.1), (2, pt b2)]) (fun z => [(b2, row 36 (scnCells co cf ct bp n calls term)), (z.2.1, nrow (mkD n (clOf calls) term 0 z.2.2 bp nm fl ro) s0), (z.2.2, row 28 (cRow co cf bp n)), (z.1, rrow (mkD n (clOf calls) term 0 z.2.2 bp nm fl ro) z.2.1 false 0 0)]) (fun _ => True) ?_ ?_
  · skip
    refine SC.held 11 [(b2, row 36 (scnCells co cf ct bp n calls term))] [] mixed ?_
    refine SA.takeZ (i := 0) [10, 11] (by repeat (first | exact hPQ | refine PanicOk.then ?_ | refine PanicOk.block ?_ | exact PanicOk.body)) rfl rfl (by kernel_rfl) (by kernel_rfl) (by kernel_rfl) rfl (by kernel_rfl) (by kernel_rfl) (by kernel_rfl) (by first | exact List.nil_sublist _ | exact List.Sublist.refl _ | (repeat (first | exact List.Sublist.refl _ | exact List.nil_sublist _ | refine List.Sublist.cons_cons _ ?_ | refine List.Sublist.cons _ ?_))) (yiN (OV.move rfl)) rfl ?_
    refine SA.takeZ (i := 1) [2, 10, 11] (by repeat (first | exact hPQ | refine PanicOk.then ?_ | refine PanicOk.block ?_ | exact PanicOk.body)) rfl rfl (by kernel_rfl) (by kernel_rfl) (by kernel_rfl) rfl (by kernel_rfl) (by kernel_rfl) (by kernel_rfl) (by first | exact List.nil_sublist _ | exact List.Sublist.refl _ | (repeat (first | exact List.Sublist.refl _ | exact List.nil_sublist _ | refine List.Sublist.cons_cons _ ?_ | refine List.Sublist.cons _ ?_))) (yiN (OV.loadAgg (vs := scnCells co cf ct bp n calls term) 0 ag36 us36 hi36 rfl rfl (by rw [hs36]; rfl) (fun q v h => by rw [Nat.zero_add]; exact h))) rfl ?_
    refine SA.takeZ (i := 3) [4, 10, 11] (by repeat (first | exact hPQ | refine PanicOk.then ?_ | refine PanicOk.block ?_ | exact PanicOk.body)) rfl rfl (by kernel_rfl) (by kernel_rfl) (by kernel_rfl) rfl (by kernel_rfl) (by kernel_rfl) (by kernel_rfl) (by first | exact List.nil_sublist _ | exact List.Sublist.refl _ | (repeat (first | exact List.Sublist.refl _ | exact List.nil_sublist _ | refine List.Sublist.cons_cons _ ?_ | refine List.Sublist.cons _ ?_))) (yiN (OV.fld fo36_5 rfl)) rfl ?_
    refine SA.takeZ (i := 4) [10, 11] (by repeat (first | exact hPQ | refine PanicOk.then ?_ | refine PanicOk.block ?_ | exact PanicOk.body)) rfl rfl (by kernel_rfl) (by kernel_rfl) (by kernel_rfl) rfl (by kernel_rfl) (by kernel_rfl) (by kernel_rfl) (by first | exact List.nil_sublist _ | exact List.Sublist.refl _ | (repeat (first | exact List.Sublist.refl _ | exact List.nil_sublist _ | refine List.Sublist.cons_cons _ ?_ | refine List.Sublist.cons _ ?_))) (yiN (OV.loadAgg (vs := [.bool false, .int .u8 0, .bool false]) 0 ag34 us34 hi34 rfl rfl (by rw [hs34]; rfl) (fun q v h => by match q, h with | 0, h => exact h | 1, h => exact h | 2, h => exact h))) rfl ?_
    refine SA.takeZ (i := 5) [6, 7, 10, 11] (by repeat (first | exact hPQ | refine PanicOk.then ?_ | refine PanicOk.block ?_ | exact PanicOk.body)) rfl rfl (by kernel_rfl) (by kernel_rfl) (by kernel_rfl) rfl (by kernel_rfl) (by kernel_rfl) (by kernel_rfl) (by first | exact List.nil_sublist _ | exact List.Sublist.refl _ | (repeat (first | exact List.Sublist.refl _ | exact List.nil_sublist _ | refine List.Sublist.cons_cons _ ?_ | refine List.Sublist.cons _ ?_))) (yiN (OV.fld fo36_4 rfl)) rfl ?_
    refine SA.takeZ (i := 6) [7, 10, 11] (by repeat (first | exact hPQ | refine PanicOk.then ?_ | refine PanicOk.block ?_ | exact PanicOk.body)) rfl rfl (by kernel_rfl) (by kernel_rfl) (by kernel_rfl) rfl (by kernel_rfl) (by kernel_rfl) (by kernel_rfl) (by first | exact List.nil_sublist _ | exact List.Sublist.refl _ | (repeat (first | exact List.Sublist.refl _ | exact List.nil_sublist _ | refine List.Sublist.cons_cons _ ?_ | refine List.Sublist.cons _ ?_))) (yiN (OV.loadF 0 sc3 rfl rfl rfl)) rfl ?_
    refine SA.takeZ (i := 7) [10, 11] (by repeat (first | exact hPQ | refine PanicOk.then ?_ | refine PanicOk.block ?_ | exact PanicOk.body)) rfl rfl (by kernel_rfl) (by kernel_rfl) (by kernel_rfl) rfl (by kernel_rfl) (by kernel_rfl) (by kernel_rfl) (by first | exact List.nil_sublist _ | exact List.Sublist.refl _ | (repeat (first | exact List.Sublist.refl _ | exact List.nil_sublist _ | refine List.Sublist.cons_cons _ ?_ | refine List.Sublist.cons _ ?_))) (yiN (OV.max2 rfl)) rfl ?_
    refine SA.takeZ (i := 8) [9, 10, 11] (by repeat (first | exact hPQ | refine PanicOk.then ?_ | refine PanicOk.block ?_ | exact PanicOk.body)) rfl rfl (by kernel_rfl) (by kernel_rfl) (by kernel_rfl) rfl (by kernel_rfl) (by kernel_rfl) (by kernel_rfl) (by first | exact List.nil_sublist _ | exact List.Sublist.refl _ | (repeat (first | exact List.Sublist.refl _ | exact List.nil_sublist _ | refine List.Sublist.cons_cons _ ?_ | refine List.Sublist.cons _ ?_))) (yiN (OV.fld fo36_6 rfl)) rfl ?_
    refine SA.takeZ (i := 9) [10, 11] (by repeat (first | exact hPQ | refine PanicOk.then ?_ | refine PanicOk.block ?_ | exact PanicOk.body)) rfl rfl (by kernel_rfl) (by kernel_rfl) (by kernel_rfl) rfl (by kernel_rfl) (by kernel_rfl) (by kernel_rfl) (by first | exact List.nil_sublist _ | exact List.Sublist.refl _ | (repeat (first | exact List.Sublist.refl _ | exact List.nil_sublist _ | refine List.Sublist.cons_cons _ ?_ | refine List.Sublist.cons _ ?_))) (yiN (OV.loadF 0 sc31 rfl rfl rfl)) rfl ?_
    refine SA.all (rs := [2]) (by kernel_rfl) (by simp) (all_cons ?_ (all_nil))
    · skip
      refine SO.call (σ := Nat × Nat) (V := fun z => .slice (some ⟨z.2, 0, none⟩) (n + 1) (n + 1)) (M := fun z => [(b2, row 36 (scnCells co cf ct bp n calls term)), (z.2, row 92 (tab ((n + 1) * 5) (pn z.1 bp n (eF n)))), (z.1, row 28 (cRow co cf bp n))]) (G := fun _ => True) rfl pf23 (args1 rfl) (fun w' hM => (call23 hn (fun i hi => Mm.oldCell hM (by simp) (hp.c3 i hi))).mono fun e w'' ⟨z, he, _, hM'⟩ => ⟨z, he, trivial, hM.callee0 hM'⟩) rfl (fun _ => ((List.nil_sublist _).cons_cons _)) ?_
      intro z _
      refine SA.takeZ (i := 10) [11] (by repeat (first | exact hPQ | refine PanicOk.then ?_ | refine PanicOk.block ?_ | exact PanicOk.body)) rfl rfl (by kernel_rfl) (by kernel_rfl) (by kernel_rfl) rfl (by kernel_rfl) (by kernel_rfl) (by kernel_rfl) (by first | exact List.nil_sublist _ | exact List.Sublist.refl _ | (repeat (first | exact List.Sublist.refl _ | exact List.nil_sublist _ | refine List.Sublist.cons_cons _ ?_ | refine List.Sublist.cons _ ?_))) (yiN (OV.build (parts5 rfl rfl rfl rfl rfl) (bld88 _ _ _ _ _))) rfl ?_
      refine SA.all (rs := [11]) (by kernel_rfl) (by simp) (all_cons ?_ (all_nil))
      · skip
        refine SO.e rfl (OE.box rfl) rfl (fun _ => (by first | exact List.nil_sublist _ | exact List.Sublist.refl _ | (repeat (first | exact List.Sublist.refl _ | exact List.nil_sublist _ | refine List.Sublist.cons_cons _ ?_ | refine List.Sublist.cons _ ?_)))) ?_
        intro br
        refine SA.takeC (i := 12) (by repeat (first | exact hPQ | refine PanicOk.then ?_ | refine PanicOk.block ?_ | exact PanicOk.body)) rfl (by kernel_rfl) (by kernel_rfl) (by kernel_rfl) rfl (by first | exact List.nil_sublist _ | exact List.Sublist.refl _ | (repeat (first | exact List.Sublist.refl _ | exact List.nil_sublist _ | refine List.Sublist.cons_cons _ ?_ | refine List.Sublist.cons _ ?_))) (OV.assign rfl) rfl ?_
        refine SA.done (by kernel_rfl) ?_
        rw [pn_final n (clOf calls) term 0 z.1 bp nm fl ro]
        exact SE.toG (br, z.2, z.1) trivial (by repeat' (first | exact trivial | refine ⟨rfl, ?_⟩)) (List.Sublist.refl _)
  rintro ⟨br, bN, bc⟩ _
  have hAt : ∀ w', Mm w [] [(b2, row 36 (scnCells co cf ct bp n calls term)), (bN, nrow (mkD n (clOf calls) term 0 bc bp nm fl ro) s0), (bc, row 28 (cRow co cf bp n)), (br, rrow (mkD n (clOf calls) term 0 bc bp nm fl ro) bN false 0 0)] w' → At (mkD n (clOf calls) term 0 bc bp nm fl ro) br bN false 0 0 s0 w' := fun w' hM => by
    have g1 : w.heap.size ≤ br := Mm.fresh hM (j := 3) rfl
    have g2 : w.heap.size ≤ bN := Mm.fresh hM (j := 1) rfl
    refine ⟨hM.block (j := 3) rfl, hM.block (j := 1) rfl, hM.ne (i := 3) (j := 1) rfl rfl (by decide), ps_mk (hp.go hM (by simp)) (v3 := .slice (some ⟨bp, 0, none⟩) n n) ?_ ?_ ?_⟩
    · rw [hco, hcf, hro]; exact hM.block (j := 2) rfl
    · simp only [List.mem_cons, List.not_mem_nil, or_false, not_or]
      exact ⟨hM.ne (i := 2) (j := 3) rfl rfl (by decide), hM.ne (i := 2) (j := 1) rfl rfl (by decide)⟩
    · intro hne
      have := hp.lt hne
      simp only [List.mem_cons, List.not_mem_nil, or_false, not_or]
      exact ⟨by omega, by omega⟩
  refine SC.seq ?_
  refine SC.region ?_
  refine SL.y (OV.move rfl) rfl ?_
  refine SL.y (OV.move rfl) rfl ?_
  refine SL.y (OV.fld fo36_2 rfl) rfl ?_
  refine SL.y (OV.loadF 0 sc9 rfl rfl rfl) rfl ?_
  refine SL.call (σ := Nat) (V := fun v => .int .i64 v) (M := fun _ => [(b2, row 36 (scnCells co cf ct bp n calls term)), (bN, nrow (mkD n (clOf calls) term 0 bc bp nm fl ro) s0), (bc, row 28 (cRow co cf bp n)), (br, rrow (mkD n (clOf calls) term 0 bc bp nm fl ro) bN false 0 0)]) (G := fun _ => True) pf24 (args2 rfl rfl) (fun w' hM => (call24 hn (hAt w' hM)).mono fun e w'' ⟨v, he, _, hM'⟩ => ⟨v, he, trivial, by have := hM.callee0 hM'; rwa [List.append_nil] at this⟩) rfl ?_
  intro v _
  refine SL.y (OV.nilCheck rfl) rfl ?_
  refine SL.y (OV.fld fo88_6 rfl) rfl ?_
  refine SL.s (OS.store1 3 sz3 rfl rfl rfl rfl (by show 11 < 13; decide)) ?_
  refine SL.nil ?_
  refine SC.then ?_
  refine SC.seq ?_
  refine SC.region ?_
  refine SL.y (OV.move rfl) rfl ?_
  refine SL.y (OV.assign rfl) rfl ?_
  refine SL.nil ?_
  refine SC.then ?_
  refine SC.ret ?_
  exact SE.ret1 Yba.results16 rfl (fun w' hM => ⟨(br, bN, bc, v), rfl, trivial, (hM.weaken (List.Sublist.cons _ (List.Sublist.refl _))).perm ((List.Perm.cons _ (List.Perm.swap _ _ _)).trans (List.Perm.swap _ _ _))⟩)
theorem pf16 : plainFunc Yba.prog 16 = true := by kernel_rfl
end
end Go.Proofs.Ybulkdrci.A
