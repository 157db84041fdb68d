import Derived.Test.YbulkdrciAPlain
namespace Go.Proofs.Ybulkdrci.A
open Go Go.RowKit Go.Proofs.Ybulkdrci.A.Sym
set_option linter.unusedVariables false
set_option linter.unusedSimpArgs false
set_option maxRecDepth 100000

theorem info86 : (Yba.prog.info? 86).map (fun i => (i.zero, i.size, i.bytes)) = some (some (.slice none 0 0), 1, 24) := by kernel_rfl
theorem at_of {w w' : World} {n : Nat} {cl term : Int} {till bA bp : Nat} {nm : Nat → ByteArray} {fl fl' : Nat → Int} {ro : Nat → Bool} {b9 bN bg : Nat} {cm : Bool} {x y : Int} {s : NSt} {co : ByteArray} {f : Int} {rest : List Blk}
    (hM : Mm w [bg] ((b9, rrow (mkD n cl term till bA bp nm fl' ro) bN cm x y) :: (bN, nrow (mkD n cl term till bA bp nm fl' ro) s) :: (bA, row 28 (cRow co f bp n)) :: rest) w')
    (hp : PIn w bp n nm fl ro) (hbp : n ≠ 0 → bp ≠ bg) (hco : nm 0 = co) (hf0 : fl' 0 = f) (hro : ro 0 = false) (hfl : ∀ k, 1 ≤ k → fl' k = fl k) : At (mkD n cl term till bA bp nm fl' ro) b9 bN cm x y s w' := by
  have hbF : n ≠ 0 → bp ∉ [bg] := fun h => by simpa using hbp h
  have hp' := hp.go hM hbF
  have hp2 : PIn w' bp n nm fl' ro := ⟨hp'.c0, fun i hi => by rw [hfl (i + 1) (by omega)]; exact hp'.c1 i hi, hp'.c2, hp'.c3⟩
  have hout : ∀ b o j, ((b9, rrow (mkD n cl term till bA bp nm fl' ro) bN cm x y) :: (bN, nrow (mkD n cl term till bA bp nm fl' ro) s) :: (bA, row 28 (cRow co f bp n)) :: rest)[j]? = some (b, o) → n ≠ 0 → bp ≠ b := fun b o j hj hn e => by
    subst e
    rcases (hM.own _ (List.mem_of_getElem? hj)).2 with h1 | h1
    · simp at h1
      exact hbp hn h1
    · have := hp.lt hn
      simp only at h1
      omega
  refine ⟨hM.block (j := 0) rfl, hM.block (j := 1) rfl, hM.ne (i := 0) (j := 1) rfl rfl (by decide), ps_mk hp2 (v3 := .slice (some ⟨bp, 0, none⟩) n n) ?_ ?_ ?_⟩
  · rw [hco, hf0, hro]; exact hM.block (j := 2) rfl
  · simp only [List.mem_cons, List.not_mem_nil, or_false, not_or]
    exact ⟨hM.ne (i := 2) (j := 0) rfl rfl (by decide), hM.ne (i := 2) (j := 1) rfl rfl (by decide)⟩
  · intro hn
    simp only [List.mem_cons, List.not_mem_nil, or_false, not_or]
    exact ⟨hout b9 _ 0 rfl hn, hout bN _ 1 rfl hn⟩
/-- The blocks that answersAtEachCrash has made before the runs. -/
def R6 (bg b2 b3 br0 bN0 bc t0 b5 b6 n bp : Nat) (co : ByteArray) (cf : Int) (ct : ByteArray) (calls term : Int) (nm : Nat → ByteArray) (fl : Nat → Int) (ro : Nat → Bool) : List Blk :=
  [(bg, row 37 [.slice none 0 0]), (b2, row 36 (scnCells co cf ct bp n calls term)), (b3, row 41 [.func (.func 7) #[] #[pt bg]]), (br0, rrow (mkD n (clOf calls) term t0 bc bp nm fl ro) bN0 false 0 0), (bN0, nrow (mkD n (clOf calls) term t0 bc bp nm fl ro) s0), (bc, row 28 (cRow co cf bp n)), (b5, row 86 [.slice (some ⟨bN0, 0, none⟩) (n + 1) (n + 1)]), (b6, row 3 [.int .i64 ((n + 1 : Nat) : Int)])]
theorem perm8 {α : Type} (a b c d e f g h : α) : [a, b, c, d, e, f, g, h].Perm [b, d, e, c, f, g, h, a] := by
  have h1 : [a, b, c, d, e, f, g, h].Perm ([b, c, d, e, f, g, h] ++ [a]) := (List.perm_append_singleton a [b, c, d, e, f, g, h]).symm
  exact h1.trans ((List.Perm.cons _ (List.Perm.swap _ _ _)).trans (List.Perm.cons _ (List.Perm.cons _ (List.Perm.swap _ _ _))))
def uF (fl : Nat → Int) (i : Nat) : Int := uM (fl (i + 1))
def pF (fl : Nat → Int) (i : Nat) : Int := pM (fl (i + 1))
def dF (fl : Nat → Int) (n i : Nat) : Int := dM (msgOf (recOf (allOk fl n))) (fl (i + 1))
theorem uF_r (fl : Nat → Int) (i : Nat) : 0 ≤ uF fl i ∧ uF fl i < 10 := by unfold uF uM; split <;> decide
theorem pF_r (fl : Nat → Int) (i : Nat) : 0 ≤ pF fl i ∧ pF fl i < 10 := by
  unfold pF pM
  split
  · decide
  · split
    · decide
    · split <;> decide
theorem msg_r (b : Bool) : 0 ≤ msgOf (recOf b) ∧ msgOf (recOf b) < 10 := by cases b <;> decide
theorem dF_r (fl : Nat → Int) (n i : Nat) : 0 ≤ dF fl n i ∧ dF fl n i < 10 := by
  have := msg_r (allOk fl n)
  unfold dF dM
  split
  · decide
  · split
    · decide
    · exact this
/-- answersAtEachCrash -/
theorem call6 {w : World} {co : ByteArray} {cf : Int} {ct : ByteArray} {bp n bg : Nat} {calls term : Int} {nm : Nat → ByteArray} {fl : Nat → Int} {ro : Nat → Bool} (hn : n ≤ 1500) (hp : PIn w bp n nm fl ro) (hco : nm 0 = co) (hcf : fl 0 = cf) (hro : ro 0 = false) (hbp : n ≠ 0 → bp ≠ bg) (hg : w.heap[bg]? = some (row 37 [.slice none 0 0])) :
    Calls Yba.prog 6 #[scn co cf ct bp n calls term, .func (.func 7) #[] #[pt bg]] w fun e w' => ∃ gs : Option GB, e = .returned (.tuple #[]) ∧ GOk gs (gAll (uF fl) (pF fl) (dF fl n) n) ∧ Mm w [bg] (GA bg gs (gAll (uF fl) (pF fl) (dF fl n) n)) w' := by
  obtain ⟨i36, hi36, hz36, hs36, hb36⟩ := info_parts info36
  obtain ⟨i86, hi86, hz86, hs86, hb86⟩ := info_parts info86
  obtain ⟨i92, hi92, hz92, hs92, hb92⟩ := info_parts info92
  obtain ⟨i88, hi88, hz88, hs88, hb88⟩ := info_parts info88
  obtain ⟨i3, hi3, hz3, hs3, hb3⟩ := info_parts info3
  have hbF : n ≠ 0 → bp ∉ [bg] := fun h => by simpa using hbp h
  refine Calls.of_SC (args := [scn co cf ct bp n calls term, .func (.func 7) #[] #[pt bg]]) Yba.func6 rfl (by simp [Yba.f6]) (Mm.ofRow hg) ?_
  refine SC.seq ?_
  refine SC.region ?_
  refine SL.e (OE.box rfl) rfl ?_
  intro b2
  refine SL.e (OE.box rfl) rfl ?_
  intro b3
  refine SL.nil ?_
  refine SC.then ?_
  refine SC.seq ?_
  refine SC.region ?_
  refine SL.y (OV.loadAgg (vs := scnCells co cf ct bp n calls term) 1 ag36 us36 hi36 rfl rfl (by rw [hs36]; rfl) (fun q v h => by rw [Nat.zero_add]; exact h)) rfl ?_
  refine SL.call (σ := Nat × Nat × Nat × Nat) (V := fun z => pt z.1) (M := fun z => [(bg, row 37 [.slice none 0 0]), (b2, row 36 (scnCells co cf ct bp n calls term)), (b3, row 41 [.func (.func 7) #[] #[pt bg]]), (z.1, rrow (mkD n (clOf calls) term z.2.2.2 z.2.2.1 bp nm fl ro) z.2.1 false 0 0), (z.2.1, nrow (mkD n (clOf calls) term z.2.2.2 z.2.2.1 bp nm fl ro) s0), (z.2.2.1, row 28 (cRow co cf bp n))]) (G := fun _ => True) pf16 (args2 rfl rfl) (fun w' hM => (call16 (by omega) (hp.go hM hbF) hco hcf hro).mono fun e w'' ⟨z, he, _, hM'⟩ => ⟨z, he, trivial, hM.callee0 hM'⟩) rfl ?_
  intro z _
  refine SL.y (OV.assign rfl) rfl ?_
  refine SL.nil ?_
  refine SC.then ?_
  obtain ⟨br0, bN0, bc, t0⟩ := z
  refine SC.seq ?_
  refine SC.region ?_
  refine SL.y (OV.move rfl) rfl ?_
  refine SL.y (OV.nilCheck rfl) rfl ?_
  refine SL.y (OV.fld fo88_2 rfl) rfl ?_
  refine SL.y (OV.loadF 3 sc86 rfl rfl rfl) rfl ?_
  refine SL.e (OE.alloc hi86 hz86) rfl ?_
  intro b5
  refine SL.s (OS.store1 6 sz86 rfl rfl rfl rfl (by show 0 < 1; decide)) ?_
  refine SL.nil ?_
  refine SC.then ?_
  refine SC.seq ?_
  refine SC.region ?_
  refine SL.y (OV.loadF 6 sc86 rfl rfl rfl) rfl ?_
  refine SL.y (OV.idx 0 u86 hi92 hs92 rfl rfl rfl (by show 0 < n + 1; omega)) rfl ?_
  refine SL.y (OV.fld fo92_1 rfl) rfl ?_
  refine SL.y (OV.loadT 4 sc3 rfl rfl (by show _ < (n + 1) * 5; omega) (nc1 _ s0 0)) rfl ?_
  refine SL.e (OE.alloc hi3 hz3) rfl ?_
  intro b6
  refine SL.s (OS.store1 7 sz3 rfl rfl rfl rfl (by show 0 < 1; decide)) ?_
  refine SL.nil ?_
  refine SC.then ?_
  refine SC.seq ?_
  refine SC.region ?_
  refine SL.y (OV.loadF 6 sc86 rfl rfl rfl) rfl ?_
  refine SL.y (OV.len u86 rfl) rfl ?_
  refine SL.e (OE.makeS (n + 1) (n + 1) u86 hi92 hz92 hs92 rfl rfl rfl rfl (Nat.le_refl _) (by rw [hb92]; omega) (by omega)) rfl ?_
  intro bN
  refine SL.y (OV.assign rfl) rfl ?_
  refine SL.nil ?_
  refine SC.then ?_
  refine SC.seq ?_
  refine SC.region ?_
  refine SL.y (OV.assign rfl) rfl ?_
  refine SL.nil ?_
  refine SC.then ?_
  refine SC.weaken (env' := [(3, pt b3), (4, pt br0), (5, pt b5), (6, pt b6), (7, .slice (some ⟨bN, 0, none⟩) (n + 1) (n + 1)), (8, .func (.func 17) #[] #[])]) (m' := R6 bg b2 b3 br0 bN0 bc t0 b5 b6 n bp co cf ct calls term nm fl ro ++ [(bN, row 92 (tab ((n + 1) * 5) zn))]) (by repeat' (first | exact trivial | refine ⟨rfl, ?_⟩)) (by rw [← zn_made]; exact List.Sublist.refl _) ?_
  refine SC.perm (List.perm_append_singleton _ _) ?_
  refine SC.seq ?_
  refine SC.region ?_
  refine SL.y (OV.move rfl) rfl ?_
  refine SL.y (OV.move rfl) rfl ?_
  refine SL.call (σ := Nat) (V := fun bA => .agg (rcells (DA n (clOf calls) term bA bp nm fl ro) bN false 0 0).toArray) (M := fun bA => (bN, nrow (DA n (clOf calls) term bA bp nm fl ro) s0) :: (bA, row 28 (cRow co 4 bp n)) :: R6 bg b2 b3 br0 bN0 bc t0 b5 b6 n bp co cf ct calls term nm fl ro) (G := fun _ => True) pf19 (args4 rfl rfl rfl rfl) (fun w' hM => (call19 (till := 1) (f := 4) (by omega) (hM.block (j := 4) rfl) (hM.block (j := 5) rfl) (hM.block (j := 6) rfl) (hM.block (j := 0) rfl) (length_tab _ _) (hM.ne (i := 4) (j := 0) rfl rfl (by decide)) (hM.ne (i := 5) (j := 0) rfl rfl (by decide)) (hM.ne (i := 6) (j := 0) rfl rfl (by decide))).mono fun e w'' ⟨b10, he, _, hM'⟩ => ⟨b10, he, trivial, Mm.calleeA (A := [(bN, row 92 (tab ((n + 1) * 5) zn))]) hM hM'⟩) rfl ?_
  intro bA _
  refine SL.e (OE.alloc hi88 hz88) rfl ?_
  intro b9
  refine SL.s (OS.storeAll 10 hi88 rfl rfl rfl (by rw [hs88]; rfl) rcells_one (by rw [hs88]; rfl)) ?_
  refine SL.nil ?_
  refine SC.then ?_
  refine SC.weaken (env' := [(3, pt b3), (4, pt br0), (5, pt b5), (6, pt b6), (7, .slice (some ⟨bN, 0, none⟩) (n + 1) (n + 1)), (8, .func (.func 17) #[] #[]), (9, pt b9)]) (m' := ((bN, nrow (DA n (clOf calls) term bA bp nm fl ro) s0) :: (bA, row 28 (cRow co 4 bp n)) :: R6 bg b2 b3 br0 bN0 bc t0 b5 b6 n bp co cf ct calls term nm fl ro) ++ [(b9, rrow (DA n (clOf calls) term bA bp nm fl ro) bN false 0 0)]) (by repeat' (first | exact trivial | refine ⟨rfl, ?_⟩)) (List.Sublist.refl _) ?_
  refine SC.perm (List.perm_append_singleton _ _) ?_
  refine SC.seq ?_
  refine SC.region ?_
  refine SL.callR pf20 (args1 rfl) (fun w' hM => call20 (by show n ≤ _; omega) (by show 1 ≤ n + 1; omega) (at_of hM hp hbp hco rfl hro flA)) rfl ?_
  intro z1
  refine SL.nil ?_
  refine SC.then ?_
  refine SC.seq ?_
  refine SC.region ?_
  refine SL.callR pf21 (args1 rfl) (fun w' hM => call21down sA_zero (at_of hM hp hbp hco rfl hro flA)) rfl ?_
  intro z2
  refine SL.nil ?_
  refine SC.then ?_
  refine SC.seq ?_
  refine SC.region ?_
  refine SL.y (OV.move rfl) rfl ?_
  refine SL.callV (vs := #[pt b9]) (σ := Nat) (V := fun b => .slice (some ⟨b, 0, none⟩) (n + 1) (n + 1)) (M := fun b => ((b9, rrow (DA n (clOf calls) term bA bp nm fl ro) bN false z2.1 z2.2) :: (bN, nrow (DA n (clOf calls) term bA bp nm fl ro) (ph1 (DA n (clOf calls) term bA bp nm fl ro) s0)) :: (bA, row 28 (cRow co 4 bp n)) :: R6 bg b2 b3 br0 bN0 bc t0 b5 b6 n bp co cf ct calls term nm fl ro) ++ [(b, irow 42 .u8 (n + 1) (repF (ph1 (DA n (clOf calls) term bA bp nm fl ro) s0)))]) (G := fun _ => True) pf17 rfl (fun ρ hρ => by rw [args1 rfl ρ hρ]; rfl) (fun w' hM => (call17 (by show n ≤ _; omega) (at_of hM hp hbp hco rfl hro flA)).mono fun e w'' ⟨b, he, _, hM'⟩ => ⟨b, he, trivial, hM.callee0 hM'⟩) rfl ?_
  intro bU _
  refine SL.y (OV.assign rfl) rfl ?_
  refine SL.nil ?_
  refine SC.then ?_
  refine SC.seq ?_
  refine SC.region ?_
  refine SL.y (OV.move rfl) rfl ?_
  refine SL.y (OV.loadF 10 sc3 rfl rfl rfl) rfl ?_
  refine SL.y (OV.move rfl) rfl ?_
  refine SL.perm (List.Perm.swap _ _ _) ?_
  refine SL.call (σ := Nat) (V := fun bB => .agg (rcells (DB n (clOf calls) term bB bp nm fl ro) bN false 0 0).toArray) (M := fun bB => (bN, nrow (DB n (clOf calls) term bB bp nm fl ro) s0) :: (bB, row 28 (cRow co 5 bp n)) :: (b9, rrow (DA n (clOf calls) term bA bp nm fl ro) bN false z2.1 z2.2) :: (bA, row 28 (cRow co 4 bp n)) :: (R6 bg b2 b3 br0 bN0 bc t0 b5 b6 n bp co cf ct calls term nm fl ro ++ [(bU, irow 42 .u8 (n + 1) (repF (ph1 (DA n (clOf calls) term bA bp nm fl ro) s0)))])) (G := fun _ => True) pf19 (args4 rfl rfl rfl rfl) (fun w' hM => (call19 (till := n + 1) (f := 5) (by omega) (hM.block (j := 6) rfl) (hM.block (j := 7) rfl) (hM.block (j := 8) rfl) (hM.block (j := 0) rfl) (length_tab _ _) (hM.ne (i := 6) (j := 0) rfl rfl (by decide)) (hM.ne (i := 7) (j := 0) rfl rfl (by decide)) (hM.ne (i := 8) (j := 0) rfl rfl (by decide))).mono fun e w'' ⟨b10, he, _, hM'⟩ => ⟨b10, he, trivial, Mm.calleeA (A := [(bN, nrow (DA n (clOf calls) term bA bp nm fl ro) (ph1 (DA n (clOf calls) term bA bp nm fl ro) s0))]) hM hM'⟩) rfl ?_
  intro bB _
  refine SL.perm ((List.Perm.cons _ (List.Perm.swap _ _ _)).trans (List.Perm.swap _ _ _)) ?_
  refine SL.s (OS.storeAll 0 hi88 rfl rfl rfl (by rw [hs88]; rfl) rcells_one (by rw [hs88]; rfl)) ?_
  refine SL.nil ?_
  refine SC.then ?_
  refine SC.weaken (env' := [(3, pt b3), (5, pt b5), (6, pt b6), (8, .func (.func 17) #[] #[]), (9, pt b9), (10, .slice (some ⟨bU, 0, none⟩) (n + 1) (n + 1))]) (m' := (b9, rrow (DB n (clOf calls) term bB bp nm fl ro) bN false 0 0) :: (bN, nrow (DB n (clOf calls) term bB bp nm fl ro) s0) :: (bB, row 28 (cRow co 5 bp n)) :: (bA, row 28 (cRow co 4 bp n)) :: (R6 bg b2 b3 br0 bN0 bc t0 b5 b6 n bp co cf ct calls term nm fl ro ++ [(bU, irow 42 .u8 (n + 1) (repF (ph1 (DA n (clOf calls) term bA bp nm fl ro) s0)))])) (by repeat' (first | exact trivial | refine ⟨rfl, ?_⟩)) (List.Sublist.refl _) ?_
  refine SC.seq ?_
  refine SC.region ?_
  refine SL.callR pf20 (args1 rfl) (fun w' hM => call20 (by show n ≤ _; omega) (by show n + 1 ≤ n + 1; omega) (at_of hM hp hbp hco rfl hro flB)) rfl ?_
  intro z3
  refine SL.nil ?_
  refine SC.then ?_
  refine SC.seq ?_
  refine SC.region ?_
  refine SL.y (OV.move rfl) rfl ?_
  refine SL.callV (vs := #[pt b9]) (σ := Nat) (V := fun b => .slice (some ⟨b, 0, none⟩) (n + 1) (n + 1)) (M := fun b => ((b9, rrow (DB n (clOf calls) term bB bp nm fl ro) bN false z3.1 z3.2) :: (bN, nrow (DB n (clOf calls) term bB bp nm fl ro) (ph1 (DB n (clOf calls) term bB bp nm fl ro) s0)) :: (bB, row 28 (cRow co 5 bp n)) :: (bA, row 28 (cRow co 4 bp n)) :: (R6 bg b2 b3 br0 bN0 bc t0 b5 b6 n bp co cf ct calls term nm fl ro ++ [(bU, irow 42 .u8 (n + 1) (repF (ph1 (DA n (clOf calls) term bA bp nm fl ro) s0)))])) ++ [(b, irow 42 .u8 (n + 1) (repF (ph1 (DB n (clOf calls) term bB bp nm fl ro) s0)))]) (G := fun _ => True) pf17 rfl (fun ρ hρ => by rw [args1 rfl ρ hρ]; rfl) (fun w' hM => (call17 (by show n ≤ _; omega) (at_of hM hp hbp hco rfl hro flB)).mono fun e w'' ⟨b, he, _, hM'⟩ => ⟨b, he, trivial, hM.callee0 hM'⟩) rfl ?_
  intro bP _
  refine SL.y (OV.assign rfl) rfl ?_
  refine SL.nil ?_
  refine SC.then ?_
  refine SC.seq ?_
  refine SC.region ?_
  refine SL.callR (D := DB n (clOf calls) term bB bp nm fl ro) (s := ph1 (DB n (clOf calls) term bB bp nm fl ro) s0) (cm := false) (x := z3.1) (y := z3.2) pf21 (args1 rfl) (fun w' hM => call21up (by show n ≤ _; omega) rfl (by rw [sB_zero]) rfl (fun k h1 h2 => sB_vt h1 h2) (fun k h1 h2 => sB_dc h1 h2) (at_of hM hp hbp hco rfl hro flB)) rfl ?_
  intro z4
  refine SL.nil ?_
  refine SC.then ?_
  refine SC.seq ?_
  refine SC.region ?_
  refine SL.y (OV.move rfl) rfl ?_
  refine SL.callV (vs := #[pt b9]) (σ := Nat) (V := fun b => .slice (some ⟨b, 0, none⟩) (n + 1) (n + 1)) (M := fun b => ((b9, rrow (DB n (clOf calls) term bB bp nm fl ro) bN (agrB (ph1 (DB n (clOf calls) term bB bp nm fl ro) s0) n) z4.1 z4.2) :: (bN, nrow (DB n (clOf calls) term bB bp nm fl ro) (dec21 (DB n (clOf calls) term bB bp nm fl ro) (ph1 (DB n (clOf calls) term bB bp nm fl ro) s0))) :: (bB, row 28 (cRow co 5 bp n)) :: (bA, row 28 (cRow co 4 bp n)) :: (R6 bg b2 b3 br0 bN0 bc t0 b5 b6 n bp co cf ct calls term nm fl ro ++ [(bU, irow 42 .u8 (n + 1) (repF (ph1 (DA n (clOf calls) term bA bp nm fl ro) s0))), (bP, irow 42 .u8 (n + 1) (repF (ph1 (DB n (clOf calls) term bB bp nm fl ro) s0)))])) ++ [(b, irow 42 .u8 (n + 1) (repF (dec21 (DB n (clOf calls) term bB bp nm fl ro) (ph1 (DB n (clOf calls) term bB bp nm fl ro) s0))))]) (G := fun _ => True) pf17 rfl (fun ρ hρ => by rw [args1 rfl ρ hρ]; rfl) (fun w' hM => (call17 (by show n ≤ _; omega) (at_of hM hp hbp hco rfl hro flB)).mono fun e w'' ⟨b, he, _, hM'⟩ => ⟨b, he, trivial, hM.callee0 hM'⟩) rfl ?_
  intro bD _
  refine SL.y (OV.assign rfl) rfl ?_
  refine SL.nil ?_
  refine SC.then ?_
  refine SC.weaken (env' := [(3, pt b3), (5, pt b5), (6, pt b6), (10, .slice (some ⟨bU, 0, none⟩) (n + 1) (n + 1)), (11, .slice (some ⟨bP, 0, none⟩) (n + 1) (n + 1)), (12, .slice (some ⟨bD, 0, none⟩) (n + 1) (n + 1))]) (m' := [(bg, row 37 [.slice none 0 0]), (b3, row 41 [.func (.func 7) #[] #[pt bg]]), (bN0, nrow (mkD n (clOf calls) term t0 bc bp nm fl ro) s0), (b5, row 86 [.slice (some ⟨bN0, 0, none⟩) (n + 1) (n + 1)]), (b6, row 3 [.int .i64 ((n + 1 : Nat) : Int)]), (bU, irow 42 .u8 (n + 1) (repF (ph1 (DA n (clOf calls) term bA bp nm fl ro) s0))), (bP, irow 42 .u8 (n + 1) (repF (ph1 (DB n (clOf calls) term bB bp nm fl ro) s0))), (bD, irow 42 .u8 (n + 1) (repF (dec21 (DB n (clOf calls) term bB bp nm fl ro) (ph1 (DB n (clOf calls) term bB bp nm fl ro) s0))))]) (by repeat' (first | exact trivial | refine ⟨rfl, ?_⟩)) ?_ ?_
  · refine List.Sublist.cons _ (List.Sublist.cons _ (List.Sublist.cons _ (List.Sublist.cons _ ?_)))
    exact (((((((((List.nil_sublist _).cons_cons _).cons_cons _).cons_cons _).cons_cons _).cons_cons _).cons _).cons_cons _).cons _).cons_cons _ |>.cons _ |>.cons_cons _
  refine SC.perm (perm8 _ _ _ _ _ _ _ _) ?_
  refine tail6 (U := uF fl) (P := pF fl) (Q := dF fl n) ⟨hn, rfl, fun i hi => ?_, fun i hi => ?_, fun i hi => ?_, fun i _ => uF_r fl i, fun i _ => pF_r fl i, fun i _ => dF_r fl n i⟩
  · unfold repF
    rw [if_neg (by omega)]
    exact sA_rep (by omega) (by omega)
  · unfold repF
    rw [if_neg (by omega)]
    exact sB_rep (by omega) (by omega)
  · unfold repF
    rw [if_neg (by omega)]
    exact sD_rep (by omega) (by omega)
theorem pf6 : plainFunc Yba.prog 6 = true := by kernel_rfl
end Go.Proofs.Ybulkdrci.A
