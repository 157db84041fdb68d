import Derived.Test.YbulkdrciLaw3
namespace Go.Proofs.Ybulkdrci.LawB
open Go Go.RowKit Go.Proofs.Ybulkdrci Go.Proofs.Ybulkdrci.Sym Go.Proofs.Ybulkdrci.Pl
set_option linter.unusedVariables false
set_option linter.unusedSimpArgs false

section
variable {D : LB} {w0 : World} {Q : Exit → Act → World → Prop}

/-- What setApart leans on holds here. -/
theorem ad_ok (H : LH D w0) {B : BK} {bs : Nat} {m : List Blk} (hm : ∃ m', m = MX D B (f6m D D.I).isN (f6m D D.I).steps ++ m') {js : Nat} (hjs : 17 ≤ js) (hsj : m[js]? = some (bs, row 74 vsCells)) (hcp : np D ≤ B.cp) {w : World} (hM : Mm w0 [] m w) : Apart.AH (ad D B bs) w := by
  obtain ⟨m', rfl⟩ := hm
  have ne : ∀ (i b : Nat) (o : Obj), i ≠ 3 → i < 17 → (MX D B (f6m D D.I).isN (f6m D D.I).steps ++ m')[i]? = some (b, o) → b ∉ [B.bn, bs] := by
    intro i b o h3 hi hb
    simp only [List.mem_cons, List.not_mem_nil, or_false, not_or]
    exact ⟨hM.ne hb (j := 3) rfl h3, hM.ne hb hsj (by omega)⟩
  have htl : (txnsTo D.alive D.T).length = C D := txnsTo_len D.alive D.T
  have hC : C D ≤ D.T := cntTo_le D.alive D.T
  have h1 := H.nle
  have h2 := H.I5
  have h3 := H.T6
  refine { ix0 := hM.cell (j := 7) rfl rfl, ix1 := hM.cell (j := 7) rfl rfl, ix5 := hM.cell (j := 7) rfl rfl, hh := ?_, htx := ?_, ht := ?_, hpos := ?_, hst := ?_, stn := ?_, nle := ?_, Ile := ?_, Cle := ?_, Tle := ?_, txT := fun p _ => H.txT p, ndC := fun t ht => ndOf_range D.alive ht, csl := rfl, n1 := ne 7 _ _ (by decide) (by decide) rfl, n2 := ne 0 _ _ (by decide) (by decide) rfl, n3 := ne 1 _ _ (by decide) (by decide) rfl, n4 := ne 4 _ _ (by decide) (by decide) rfl, n5 := ne 5 _ _ (by decide) (by decide) rfl, n6 := ne 6 _ _ (by decide) (by decide) rfl, n7 := hM.ne (i := 3) rfl hsj (by omega) }
  · intro p hp
    refine hM.cell (j := 0) rfl ?_
    rw [tab_get (by dsimp only at hp; omega), hist_kind D hp]
  · intro p hp
    exact hM.cell (j := 1) rfl (tab_get hp)
  · intro v hv
    refine hM.cell (j := 4) rfl ?_
    rw [lrow_getD _ _ _ (by rw [htl]; exact hv)]
  · intro x hx j hj
    have hps : (posTo D.n D.it D.I)[(posTo D.n D.it x).length + j]? = some ((opsOf D.n D.it x)[j]) := pos_at D.n D.it D.I x hx j hj
    refine hM.cell (j := 5) rfl ?_
    have hlt : (posTo D.n D.it x).length + j < (posTo D.n D.it D.I).length := (List.getElem?_eq_some_iff.1 hps).1
    rw [lrow_getD _ _ _ (by rw [natsI_len]; exact hlt)]
    simp [natsI, hps]
  · intro x hx
    exact hM.cell (j := 6) rfl (tab_get (by dsimp only at hx; omega))
  · intro x hx
    refine ⟨by dsimp only; rw [posTo_succ, List.length_append], ?_⟩
    refine Nat.le_trans ?_ hcp
    exact posTo_mono D.n D.it hx
  · dsimp only; omega
  · dsimp only; omega
  · show C D ≤ 1000; omega
  · dsimp only; omega

theorem eqI64 {m : List Blk} {F : List Nat} {b1 b2 c1 c2 j1 j2 : Nat} {e1 e2 : TypeId} {l1 l2 : List Int} {sp1 sp2 : List Value} (hl : l1 = l2) (hn : l1.length ≤ 1000000) (h1 : m[j1]? = some (b1, lrow e1 .i64 l1 sp1)) (h2 : m[j2]? = some (b2, lrow e2 .i64 l2 sp2)) (w : World) (hM : Mm w0 F m w) :
    Calls Yba.prog 12 #[.slice (some ⟨b1, 0, none⟩) l1.length c1, .slice (some ⟨b2, 0, none⟩) l2.length c2] w fun e w' => e = .returned (.bool true) ∧ Mm w [] [] w' := by
  subst hl
  exact eq_i64 (f := fun q => l1.getD q 0) hn (fun q hq => hM.cell h1 (lrow_getD _ _ _ hq)) (fun q hq => hM.cell h2 (lrow_getD _ _ _ hq))
theorem eqI64n {m : List Blk} {F : List Nat} {b1 b2 c1 c2 j1 j2 n : Nat} {e1 e2 : TypeId} {l1 : List Int} {sp1 sp2 : List Value} (hn : l1.length ≤ 1000000) (hln : l1.length = n) (h1 : m[j1]? = some (b1, lrow e1 .i64 l1 sp1)) (h2 : m[j2]? = some (b2, lrow e2 .i64 l1 sp2)) (w : World) (hM : Mm w0 F m w) :
    Calls Yba.prog 12 #[.slice (some ⟨b1, 0, none⟩) n c1, .slice (some ⟨b2, 0, none⟩) n c2] w fun e w' => e = .returned (.bool true) ∧ Mm w [] [] w' := by
  subst hln
  exact eqI64 rfl hn h1 h2 w hM
theorem eqI32 {m : List Blk} {F : List Nat} {b1 b2 c1 c2 j1 j2 : Nat} {e1 e2 : TypeId} {l1 : List Int} {sp1 sp2 : List Value} (hn : l1.length ≤ 1000000) {n : Nat} (hln : l1.length = n) (h1 : m[j1]? = some (b1, lrow e1 .i32 l1 sp1)) (h2 : m[j2]? = some (b2, lrow e2 .i32 l1 sp2)) (w : World) (hM : Mm w0 F m w) :
    Calls Yba.prog 14 #[.slice (some ⟨b1, 0, none⟩) n c1, .slice (some ⟨b2, 0, none⟩) n c2] w fun e w' => e = .returned (.bool true) ∧ Mm w [] [] w' := by
  subst hln
  exact eq_i32 (f := fun q => l1.getD q 0) hn (fun q hq => hM.cell h1 (lrow_getD _ _ _ hq)) (fun q hq => hM.cell h2 (lrow_getD _ _ _ hq))
theorem eqU32 {m : List Blk} {F : List Nat} {b1 b2 c1 c2 j1 j2 : Nat} {e1 e2 : TypeId} {l1 l2 : List Int} {sp1 sp2 : List Value} (hl : l1 = l2) (hn : l1.length ≤ 1000000) (h1 : m[j1]? = some (b1, lrow e1 .u32 l1 sp1)) (h2 : m[j2]? = some (b2, lrow e2 .u32 l2 sp2)) (w : World) (hM : Mm w0 F m w) :
    Calls Yba.prog 13 #[.slice (some ⟨b1, 0, none⟩) l1.length c1, .slice (some ⟨b2, 0, none⟩) l2.length c2] w fun e w' => e = .returned (.bool true) ∧ Mm w [] [] w' := by
  subst hl
  exact eq_u32 (f := fun q => l1.getD q 0) hn (fun q hq => hM.cell h1 (lrow_getD _ _ _ hq)) (fun q hq => hM.cell h2 (lrow_getD _ _ _ hq))
theorem eqII {m : List Blk} {F : List Nat} {b1 b2 c1 c2 j1 j2 n : Nat} {e1 e2 : TypeId} {f g : Nat → Int} (hn : n ≤ 1000000) (hfg : ∀ q, q < n → f q = g q) (h1 : m[j1]? = some (b1, irow e1 .i32 n f)) (h2 : m[j2]? = some (b2, irow e2 .i32 n g)) (w : World) (hM : Mm w0 F m w) :
    Calls Yba.prog 14 #[.slice (some ⟨b1, 0, none⟩) n c1, .slice (some ⟨b2, 0, none⟩) n c2] w fun e w' => e = .returned (.bool true) ∧ Mm w [] [] w' :=
  eq_i32 (f := f) hn (fun q hq => hM.cell h1 (tab_get hq)) (fun q hq => by rw [hfg q hq]; exact hM.cell h2 (tab_get hq))
theorem eqIA {m : List Blk} {F : List Nat} {b1 b2 c1 c2 j1 j2 n : Nat} {e1 e2 : TypeId} {f : Nat → Int} {sp : List Value} (hn : n ≤ 1000000) (h1 : m[j1]? = some (b1, irow e1 .i32 n f)) (h2 : m[j2]? = some (b2, arow e2 .i32 n f sp)) (w : World) (hM : Mm w0 F m w) :
    Calls Yba.prog 14 #[.slice (some ⟨b1, 0, none⟩) n c1, .slice (some ⟨b2, 0, none⟩) n c2] w fun e w' => e = .returned (.bool true) ∧ Mm w [] [] w' :=
  eq_i32 (f := f) hn (fun q hq => hM.cell h1 (tab_get hq)) (fun q hq => hM.cell h2 (arow_get hq))
theorem hfill_at (D : LB) {q : Nat} (hq : q < D.n) (r : Nat) (v : Value) (h : ([.int .u8 (D.kd q), .int .i64 ((D.tx q : Int) + 1), .string (itemStr (D.it q))] : List Value)[r]? = some v) : 0 + q * 3 + r < D.n * 3 ∧ hfill D D.n (0 + q * 3 + r) = v := by
  have hr : r < 3 := by
    have := (List.getElem?_eq_some_iff.1 h).1
    simpa using this
  refine ⟨by omega, ?_⟩
  unfold hfill hcell
  rw [if_pos (show 0 + q * 3 + r < D.n * 3 by omega)]
  have e : (0 + q * 3 + r) / 3 = q := by omega
  have e2 : (0 + q * 3 + r) % 3 = r := by omega
  rw [e, e2]
  match r, hr with
  | 0, _ => simp at h; simp [h]
  | 1, _ => simp at h; simp [h]
  | 2, _ => simp at h; simp [h]
theorem eqH {m : List Blk} {F : List Nat} {b1 b2 c1 c2 j1 j2 : Nat} {sp : List Value} (hn : D.n ≤ 1000000) (h1 : m[j1]? = some (b1, hist D D.n)) (h2 : m[j2]? = some (b2, row 50 (tab (D.n * 3) (hfill D D.n) ++ sp))) (w : World) (hM : Mm w0 F m w) :
    Calls Yba.prog 15 #[.slice (some ⟨b1, 0, none⟩) D.n c1, .slice (some ⟨b2, 0, none⟩) D.n c2] w fun e w' => e = .returned (.bool true) ∧ Mm w [] [] w' :=
  eq_hist (f := D.kd) (g := fun q => (D.tx q : Int) + 1) (t := fun q => itemStr (D.it q)) hn
    (fun q hq r v hv => by
      obtain ⟨hlt, he⟩ := hfill_at D hq r v hv
      refine hM.cell h1 ?_
      rw [tab_get hlt, he])
    (fun q hq r v hv => by
      obtain ⟨hlt, he⟩ := hfill_at D hq r v hv
      refine hM.cell h2 ?_
      rw [List.getElem?_append_left (by rw [length_tab]; exact hlt), tab_get hlt, he])

set_option maxRecDepth 100000 in
set_option maxHeartbeats 8000000 in
theorem part3 (H : LH D w0) (A : Agree D) {R : Ending → World → Prop} (hR : ∀ w, Mm w0 [] [] w → R (.returned (.bool true)) w) {B : BK} (hcp : np D ≤ B.cp) :
    SC Yba.prog (sub [1, 1, 1, 1, 1, 1, 1, 1, 1, 1, 1, 1, 1, 1, 1, 1, 1, 1, 1, 1, 1, 1, 1, 1, 1, 1, 1] (Yba.f4.body.getD .skip)) (bodyPost Yba.prog Yba.f4 R) Yba.f4.ntmps ((39, .slice (some ⟨B.b39, 0, none⟩) (C D) (C D)) :: (40, .slice (some ⟨B.b40, 0, none⟩) (C D) (C D)) :: EX D B) w0 [] (MX D B (fun _ => false) fun _ => 0) := by
  have hn := H.nle
  have hI := H.I5
  have hT := H.T6
  have hC : C D ≤ D.T := cntTo_le D.alive D.T
  have hpl := posTo_len D.n D.it D.I
  have hpl' : (posTo D.n D.it D.I).length ≤ 20480 := Nat.le_trans hpl (Nat.mul_le_mul (show D.I ≤ 5 by omega) hn)
  have htl : (txnsTo D.alive D.T).length = C D := txnsTo_len D.alive D.T
  refine SC.seq ?_
  refine SC.seq ?_
  refine SC.region ?_
  refine SL.y (OV.assign rfl) rfl ?_
  refine SL.nil ?_
  refine SC.then ?_
  refine SC.weaken ?_ ?_ (loop5 (B := B) H ?_)
  · exact (by repeat' (first | exact trivial | refine ⟨rfl, ?_⟩))
  · exact (List.Sublist.refl _)
  refine SC.then ?_
  refine SC.seq ?_
  refine SC.seq ?_
  refine SC.region ?_
  refine SL.y (OV.assign rfl) rfl ?_
  refine SL.nil ?_
  refine SC.then ?_
  refine SC.weaken ?_ ?_ (loop6 (B := B) H ?_)
  · exact (by repeat' (first | exact trivial | refine ⟨rfl, ?_⟩))
  · exact (List.Sublist.refl _)
  refine SC.then ?_
  refine SC.seq ?_
  refine SC.region ?_
  refine SL.y (OV.move rfl) rfl ?_
  refine SL.e (OE.makeI (C D) (C D) u47 in21 rfl rfl rfl rfl (by omega) (by omega) (by omega)) rfl ?_
  intro br
  refine SL.y (OV.assign rfl) rfl ?_
  refine SL.nil ?_
  refine SC.then ?_
  refine SC.seq ?_
  refine SC.region ?_
  refine SL.e (OE.bslice0I u51 in3) rfl ?_
  intro bn
  refine SL.y (OV.assign rfl) rfl ?_
  refine SL.nil ?_
  refine SC.then ?_
  refine SC.seq ?_
  refine SC.region ?_
  refine SL.e (OE.bslice0I u51 in3) rfl ?_
  intro ba
  refine SL.y (OV.assign rfl) rfl ?_
  refine SL.nil ?_
  refine SC.then ?_
  refine SC.seq ?_
  refine SC.region ?_
  refine SL.e (OE.bslice0I u60 in61) rfl ?_
  intro bs
  refine SL.y (OV.assign rfl) rfl ?_
  refine SL.nil ?_
  refine SC.then ?_
  refine SC.seq ?_
  refine SC.seq ?_
  refine SC.region ?_
  refine SL.y (OV.assign rfl) rfl ?_
  refine SL.nil ?_
  refine SC.then ?_
  refine SC.weaken ?_ ?_ (loop9 (B := B) (isN := (f6m D D.I).isN) (st := (f6m D D.I).steps) (br := br) (L0 := ⟨bn, 0, ba, 0, bs, 0, [], [], []⟩) H ⟨rfl, by simp, rfl, by simp, rfl, by simp⟩ fun L hL => ?_)
  · exact (by repeat' (first | exact trivial | refine ⟨rfl, ?_⟩))
  · exact (List.Sublist.refl _)
  refine SC.then ?_
  refine SC.seq ?_
  refine SC.region ?_
  refine SL.y (OV.move rfl) rfl ?_
  refine SL.e (OE.makeI D.T D.T u47 in21 rfl rfl rfl rfl (by omega) (by omega) (by omega)) rfl ?_
  intro bw
  refine SL.y (OV.assign rfl) rfl ?_
  refine SL.nil ?_
  refine SC.then ?_
  refine SC.seq ?_
  refine SC.seq ?_
  refine SC.region ?_
  refine SL.y (OV.assign rfl) rfl ?_
  refine SL.nil ?_
  refine SC.then ?_
  refine SC.weaken ?_ ?_ (loop10 (B := B) (isN := (f6m D D.I).isN) (st := (f6m D D.I).steps) (br := br) (bw := bw) (L := L) (s := want D) H ?_)
  · exact (by repeat' (first | exact trivial | refine ⟨rfl, ?_⟩))
  · exact (List.Sublist.refl _)
  refine SC.then ?_
  refine SC.seq ?_
  refine SC.region ?_
  refine SL.y (OV.build (vs := #[(20, .int .i64 7)]) (fun ρ hρ => by simp [hρ _ _ (show ev _ (.const (.int .i64 7)) = some (.int .i64 7) from rfl)]) build74) rfl ?_
  refine SL.e (OE.box rfl) rfl ?_
  intro bsx
  refine SL.y (OV.assign rfl) rfl ?_
  refine SL.nil ?_
  refine SC.then ?_
  refine SC.seq ?_
  refine SC.region ?_
  refine SL.y (OV.move rfl) rfl ?_
  refine SL.y (OV.move rfl) rfl ?_
  refine SL.y (OV.move rfl) rfl ?_
  refine SL.y (OV.move rfl) rfl ?_
  refine SL.y (OV.move rfl) rfl ?_
  refine SL.y (OV.move rfl) rfl ?_
  refine SL.call (σ := Apart.L6) (V := fun L' => .slice (some ⟨L'.b12, 0, none⟩) (ad D B bsx).out.names.length L'.c12) (G := fun _ => True) pf11 (fun ρ hρ => by simp [hρ _ _ (show ev _ (.tmp 415) = some _ from rfl), hρ _ _ (show ev _ (.tmp 416) = some _ from rfl), hρ _ _ (show ev _ (.tmp 417) = some _ from rfl), hρ _ _ (show ev _ (.tmp 418) = some _ from rfl), hρ _ _ (show ev _ (.tmp 419) = some _ from rfl), hρ _ _ (show ev _ (.tmp 420) = some _ from rfl)]) (fun w hM => (Apart.calls (D := ad D B bsx) (ad_ok H ⟨_, rfl⟩ (js := 22) (by decide) rfl hcp hM) (hM.block (j := 3) rfl) (hM.block (j := 22) rfl)).mono fun e w' ⟨L', he, hM'⟩ => ⟨L', he, trivial, hM.callee2 (j1 := 3) (j2 := 22) hM' rfl rfl (by decide)⟩) rfl ?_
  intro L' _
  refine SL.y (OV.assign rfl) rfl ?_
  refine SL.nil ?_
  refine SC.then ?_
  have hlen := Apart.fold6_len (ad D B bsx).se ((ad D B bsx).f2 (ad D B bsx).I).steps (ad D B bsx).txl (ad D B bsx).C
  have hlen1 : (ad D B bsx).out.names.length ≤ C D := hlen.1
  have hlen2 : (ad D B bsx).out.al.length ≤ C D := hlen.2.1
  have hlen3 : (ad D B bsx).out.als.length ≤ C D := hlen.2.2
  refine SC.seq ?_
  refine SC.seq ?_
  refine SC.region ?_
  refine SL.y (OV.move rfl) rfl ?_
  refine SL.y (OV.eqlNil u51 rfl) rfl ?_
  refine SL.y (OV.move rfl) rfl ?_
  refine SL.yg rfl rfl (OV.move rfl) rfl ?_
  refine SL.yg rfl rfl (OV.nilCheck rfl) rfl ?_
  refine SL.yg rfl rfl (OV.fld fo74_3 rfl) rfl ?_
  refine SL.yg rfl rfl (OV.loadF 22 sc51 rfl rfl rfl) rfl ?_
  refine SL.yg rfl rfl (OV.eqlNil u51 rfl) rfl ?_
  refine SL.y (OV.pickF rfl rfl) rfl ?_
  refine SL.y (OV.move rfl) rfl ?_
  refine SL.yg rfl rfl (OV.move rfl) rfl ?_
  refine SL.yg rfl rfl (OV.nilCheck rfl) rfl ?_
  refine SL.yg rfl rfl (OV.fld fo74_4 rfl) rfl ?_
  refine SL.yg rfl rfl (OV.loadF 22 sc60 rfl rfl rfl) rfl ?_
  refine SL.yg rfl rfl (OV.eqlNil u60 rfl) rfl ?_
  refine SL.y (OV.pickF rfl rfl) rfl ?_
  refine SL.nil ?_
  refine SC.then ?_
  refine SC.condF rfl ?_
  refine SC.skip ?_
  refine SC.then ?_
  refine SC.seq ?_
  refine SC.seq ?_
  refine SC.region ?_
  refine SL.y (OV.move rfl) rfl ?_
  refine SL.y (OV.move rfl) rfl ?_
  refine SL.callQ pf12 (args2 rfl rfl) (eqI64 (j1 := 23) (j2 := 18) (A.names B bsx) (by omega) rfl rfl) rfl ?_
  refine SL.y (OV.not rfl) rfl ?_
  refine SL.y (OV.move rfl) rfl ?_
  refine SL.yg rfl rfl (OV.move rfl) rfl ?_
  refine SL.yg rfl rfl (OV.nilCheck rfl) rfl ?_
  refine SL.yg rfl rfl (OV.fld fo74_3 rfl) rfl ?_
  refine SL.yg rfl rfl (OV.loadF 22 sc51 rfl rfl rfl) rfl ?_
  refine SL.yg rfl rfl (OV.move rfl) rfl ?_
  refine SL.callQg rfl rfl pf12 (args2 rfl rfl) (eqI64 (j1 := 24) (j2 := 19) (A.al B bsx) (by omega) rfl rfl) rfl ?_
  refine SL.yg rfl rfl (OV.not rfl) rfl ?_
  refine SL.y (OV.pickF rfl rfl) rfl ?_
  refine SL.y (OV.move rfl) rfl ?_
  refine SL.yg rfl rfl (OV.move rfl) rfl ?_
  refine SL.yg rfl rfl (OV.nilCheck rfl) rfl ?_
  refine SL.yg rfl rfl (OV.fld fo74_4 rfl) rfl ?_
  refine SL.yg rfl rfl (OV.loadF 22 sc60 rfl rfl rfl) rfl ?_
  refine SL.yg rfl rfl (OV.move rfl) rfl ?_
  refine SL.callQg rfl rfl pf13 (args2 rfl rfl) (eqU32 (j1 := 25) (j2 := 20) (A.als B bsx) (by omega) rfl rfl) rfl ?_
  refine SL.yg rfl rfl (OV.not rfl) rfl ?_
  refine SL.y (OV.pickF rfl rfl) rfl ?_
  refine SL.nil ?_
  refine SC.then ?_
  refine SC.condF rfl ?_
  refine SC.skip ?_
  refine SC.then ?_
  refine SC.seq ?_
  refine SC.seq ?_
  refine SC.region ?_
  refine SL.y (OV.move rfl) rfl ?_
  refine SL.y (OV.move rfl) rfl ?_
  refine SL.callQ pf14 (args2 rfl rfl) (eqII (j1 := 3) (j2 := 21) (by omega) (A.node B bsx) rfl rfl) rfl ?_
  refine SL.y (OV.not rfl) rfl ?_
  refine SL.nil ?_
  refine SC.then ?_
  refine SC.condF rfl ?_
  refine SC.skip ?_
  refine SC.then ?_
  refine SC.seq ?_
  refine SC.seq ?_
  refine SC.region ?_
  refine SL.y (OV.move rfl) rfl ?_
  refine SL.y (OV.nilCheck rfl) rfl ?_
  refine SL.y (OV.fld fo74_20 rfl) rfl ?_
  refine SL.y (OV.loadF 22 sc3 rfl rfl rfl) rfl ?_
  refine SL.y (OV.neq rfl rfl) rfl ?_
  refine SL.y (OV.move rfl) rfl ?_
  refine SL.yg rfl rfl (OV.move rfl) rfl ?_
  refine SL.yg rfl rfl (OV.nilCheck rfl) rfl ?_
  refine SL.yg rfl rfl (OV.fld fo74_0 rfl) rfl ?_
  refine SL.yg rfl rfl (OV.fld fo66_0 rfl) rfl ?_
  refine SL.yg rfl rfl (OV.loadF 22 sc51 rfl rfl rfl) rfl ?_
  refine SL.yg rfl rfl (OV.neqNil u51 rfl) rfl ?_
  refine SL.y (OV.pickF rfl rfl) rfl ?_
  refine SL.y (OV.move rfl) rfl ?_
  refine SL.yg rfl rfl (OV.move rfl) rfl ?_
  refine SL.yg rfl rfl (OV.nilCheck rfl) rfl ?_
  refine SL.yg rfl rfl (OV.fld fo74_1 rfl) rfl ?_
  refine SL.yg rfl rfl (OV.loadF 22 sc47 rfl rfl rfl) rfl ?_
  refine SL.yg rfl rfl (OV.neqNil u47 rfl) rfl ?_
  refine SL.y (OV.pickF rfl rfl) rfl ?_
  refine SL.y (OV.move rfl) rfl ?_
  refine SL.yg rfl rfl (OV.move rfl) rfl ?_
  refine SL.yg rfl rfl (OV.nilCheck rfl) rfl ?_
  refine SL.yg rfl rfl (OV.fld fo74_22 rfl) rfl ?_
  refine SL.yg rfl rfl (OV.loadF 22 sc71 rfl rfl rfl) rfl ?_
  refine SL.yg rfl rfl (OV.neqPtrNil u71 rfl) rfl ?_
  refine SL.y (OV.pickF rfl rfl) rfl ?_
  refine SL.nil ?_
  refine SC.then ?_
  refine SC.condF rfl ?_
  refine SC.skip ?_
  refine SC.then ?_
  refine SC.seq ?_
  refine SC.region ?_
  refine SL.y (OV.move rfl) rfl ?_
  refine SL.y (OV.move rfl) rfl ?_
  refine SL.callQ pf12 (args2 rfl rfl) (eqI64n (j1 := 4) (j2 := 8) (by omega) htl rfl rfl) rfl ?_
  refine SL.y (OV.move rfl) rfl ?_
  refine SL.yg rfl rfl (OV.move rfl) rfl ?_
  refine SL.yg rfl rfl (OV.move rfl) rfl ?_
  refine SL.callQg rfl rfl pf14 (args2 rfl rfl) (eqI32 (j1 := 5) (j2 := 9) (by rw [natsI_len]; omega) (natsI_len _) rfl rfl) rfl ?_
  refine SL.y (OV.pickT rfl rfl) rfl ?_
  refine SL.y (OV.move rfl) rfl ?_
  refine SL.yg rfl rfl (OV.move rfl) rfl ?_
  refine SL.yg rfl rfl (OV.move rfl) rfl ?_
  refine SL.callQg rfl rfl pf14 (args2 rfl rfl) (eqIA (j1 := 6) (j2 := 10) (by omega) rfl rfl) rfl ?_
  refine SL.y (OV.pickT rfl rfl) rfl ?_
  refine SL.y (OV.move rfl) rfl ?_
  refine SL.yg rfl rfl (OV.move rfl) rfl ?_
  refine SL.yg rfl rfl (OV.nilCheck rfl) rfl ?_
  refine SL.yg rfl rfl (OV.fld fo56_0 rfl) rfl ?_
  refine SL.yg rfl rfl (OV.loadF 7 sc46 rfl rfl rfl) rfl ?_
  refine SL.yg rfl rfl (OV.move rfl) rfl ?_
  refine SL.callQg rfl rfl pf15 (args2 rfl rfl) (eqH (j1 := 0) (j2 := 11) (by omega) rfl rfl) rfl ?_
  refine SL.y (OV.pickT rfl rfl) rfl ?_
  refine SL.y (OV.move rfl) rfl ?_
  refine SL.yg rfl rfl (OV.move rfl) rfl ?_
  refine SL.yg rfl rfl (OV.nilCheck rfl) rfl ?_
  refine SL.yg rfl rfl (OV.fld fo56_1 rfl) rfl ?_
  refine SL.yg rfl rfl (OV.loadF 7 sc47 rfl rfl rfl) rfl ?_
  refine SL.yg rfl rfl (OV.move rfl) rfl ?_
  refine SL.callQg rfl rfl pf14 (args2 rfl rfl) (eqIA (j1 := 1) (j2 := 12) (by omega) rfl rfl) rfl ?_
  refine SL.y (OV.pickT rfl rfl) rfl ?_
  refine SL.y (OV.move rfl) rfl ?_
  refine SL.yg rfl rfl (OV.move rfl) rfl ?_
  refine SL.yg rfl rfl (OV.nilCheck rfl) rfl ?_
  refine SL.yg rfl rfl (OV.fld fo56_2 rfl) rfl ?_
  refine SL.yg rfl rfl (OV.loadF 7 sc47 rfl rfl rfl) rfl ?_
  refine SL.yg rfl rfl (OV.move rfl) rfl ?_
  refine SL.callQg rfl rfl pf14 (args2 rfl rfl) (eqIA (j1 := 2) (j2 := 13) (by omega) rfl rfl) rfl ?_
  refine SL.y (OV.pickT rfl rfl) rfl ?_
  refine SL.y (OV.move rfl) rfl ?_
  refine SL.yg rfl rfl (OV.move rfl) rfl ?_
  refine SL.yg rfl rfl (OV.nilCheck rfl) rfl ?_
  refine SL.yg rfl rfl (OV.fld fo56_5 rfl) rfl ?_
  refine SL.yg rfl rfl (OV.loadF 7 sc3 rfl rfl rfl) rfl ?_
  refine SL.yg rfl rfl (OV.move rfl) rfl ?_
  refine SL.yg rfl rfl (OV.eql rfl rfl) rfl ?_
  refine SL.y (OV.pickT rfl rfl) rfl ?_
  refine SL.y (OV.assign rfl) rfl ?_
  refine SL.nil ?_
  refine SC.then ?_
  refine SC.ret ?_
  refine SE.ret1 Yba.results4 (v := .bool (decide ((D.I : Int) = (D.I : Int)))) rfl fun w hM => ?_
  rw [show decide ((D.I : Int) = (D.I : Int)) = true by simp]
  exact hR w (hM.weaken (List.nil_sublist _))

set_option maxRecDepth 100000 in
set_option maxHeartbeats 4000000 in
/-- THE WALK, out of its parts. -/
theorem walkB (H : LH D w0) (A : Agree D) {m3 m4 : Int} (h3 : m3.tmod 6 = (D.T : Int) - 1) (h4 : m4.tmod 5 = (D.I : Int) - 1) :
    Calls Yba.prog 4 #[.slice D.a0 D.n D.c0, .slice D.a1 D.l1 D.c1, .slice D.a2 D.l2 D.c2, .int .u8 m3, .int .u8 m4, .int .u8 D.m5] w0 fun e w' => e = .returned (.bool true) ∧ Below w0.heap.size w0 w' := by
  obtain ⟨i50, hi50, hz50, hs50, hb50⟩ := info_parts info50
  have hn := H.nle
  have hI := H.I5
  have hT := H.T6
  have hI1 := H.I1
  have hT1 := H.T1
  refine Calls.of_SC (args := [.slice D.a0 D.n D.c0, .slice D.a1 D.l1 D.c1, .slice D.a2 D.l2 D.c2, .int .u8 m3, .int .u8 m4, .int .u8 D.m5]) Yba.func4 rfl (by rw [Yba.ntmps4]; simp) (Mm.start w0) ?_
  refine SC.seq ?_
  refine SC.region ?_
  refine SL.y (OV.assign rfl) rfl ?_
  refine SL.nil ?_
  refine SC.then ?_
  refine SC.seq ?_
  refine SC.seq ?_
  refine SC.region ?_
  refine SL.y (OV.move rfl) rfl ?_
  refine SL.y (OV.len u22 rfl) rfl ?_
  refine SL.y (OV.gtr rfl rfl) rfl ?_
  refine SL.nil ?_
  refine SC.then ?_
  refine SC.condP rfl (fun h => absurd h (by omega)) (fun _ => ?_)
  refine SC.skip ?_
  refine SC.then ?_
  refine SC.seq ?_
  refine SC.region ?_
  refine SL.y (OV.move rfl) rfl ?_
  refine SL.y (OV.rem rfl rfl (by decide) h3) rfl ?_
  refine SL.y (OV.conv u5 u3 rfl (wrap_i64 (by omega) (by omega))) rfl ?_
  refine SL.y (OV.add (r := (D.T : Int)) rfl rfl (by rw [wrap_i64 (by omega) (by omega)]; omega)) rfl ?_
  refine SL.y (OV.assign rfl) rfl ?_
  refine SL.nil ?_
  refine SC.then ?_
  refine SC.seq ?_
  refine SC.region ?_
  refine SL.y (OV.move rfl) rfl ?_
  refine SL.y (OV.rem rfl rfl (by decide) h4) rfl ?_
  refine SL.y (OV.conv u5 u3 rfl (wrap_i64 (by omega) (by omega))) rfl ?_
  refine SL.y (OV.add (r := (D.I : Int)) rfl rfl (by rw [wrap_i64 (by omega) (by omega)]; omega)) rfl ?_
  refine SL.y (OV.assign rfl) rfl ?_
  refine SL.nil ?_
  refine SC.then ?_
  refine SC.seq ?_
  refine SC.region ?_
  refine SL.y (OV.move rfl) rfl ?_
  refine SL.y (OV.len u22 rfl) rfl ?_
  refine SL.y (OV.assign rfl) rfl ?_
  refine SL.nil ?_
  refine SC.then ?_
  refine SC.seq ?_
  refine SC.region ?_
  refine SL.y (OV.move rfl) rfl ?_
  refine SL.e (OE.makeS D.n D.n u46 hi50 hz50 hs50 rfl rfl rfl rfl (by omega) (by rw [hb50]; omega) (by omega)) rfl ?_
  intro bh
  refine SL.y (OV.assign rfl) rfl ?_
  refine SL.nil ?_
  refine SC.then ?_
  refine SC.seq ?_
  refine SC.region ?_
  refine SL.y (OV.move rfl) rfl ?_
  refine SL.e (OE.makeI D.n D.n u47 in21 rfl rfl rfl rfl (by omega) (by omega) (by omega)) rfl ?_
  intro btx
  refine SL.y (OV.assign rfl) rfl ?_
  refine SL.nil ?_
  refine SC.then ?_
  refine SC.seq ?_
  refine SC.region ?_
  refine SL.y (OV.move rfl) rfl ?_
  refine SL.e (OE.makeI D.n D.n u47 in21 rfl rfl rfl rfl (by omega) (by omega) (by omega)) rfl ?_
  intro bit
  refine SL.y (OV.assign rfl) rfl ?_
  refine SL.nil ?_
  refine SC.then ?_
  refine SC.seq ?_
  refine SC.seq ?_
  refine SC.region ?_
  refine SL.y (OV.assign rfl) rfl ?_
  refine SL.nil ?_
  refine SC.then ?_
  refine SC.weaken ?_ ?_ (loop1 (bh := bh) (btx := btx) (bit := bit) H ?_)
  · exact (by repeat' (first | exact trivial | refine ⟨rfl, ?_⟩))
  · show List.Sublist (ML D bh btx bit 0) [(bh, row 50 (madeCells #[Value.int .u8 0, .int .i64 0, .string ⟨#[]⟩] (D.n * 3)).toList), _, _]
    rw [hmade]
    exact (List.Sublist.refl _)
  refine SC.then ?_
  unfold ML
  rw [irow_fill (f := fun q => (D.tx q : Int)), irow_fill (f := fun q => (D.it q : Int))]
  refine SC.seq ?_
  refine SC.region ?_
  refine SL.y (OV.move rfl) rfl ?_
  refine SL.e (OE.makeI D.T D.T u47 in21 rfl rfl rfl rfl (by omega) (by omega) (by omega)) rfl ?_
  intro bn
  refine SL.y (OV.assign rfl) rfl ?_
  refine SL.nil ?_
  refine SC.then ?_
  refine SC.seq ?_
  refine SC.region ?_
  refine SL.y (OV.move rfl) rfl ?_
  refine SL.e (OE.makeL D.T u51 in3 rfl rfl rfl (by omega) (by omega)) rfl ?_
  intro bt
  refine SL.y (OV.assign rfl) rfl ?_
  refine SL.nil ?_
  refine SC.then ?_
  refine SC.seq ?_
  refine SC.seq ?_
  refine SC.region ?_
  refine SL.y (OV.assign rfl) rfl ?_
  refine SL.nil ?_
  refine SC.then ?_
  refine SC.weaken ?_ ?_ (loop2 (bh := bh) (btx := btx) (bit := bit) (bn := bn) (bt := bt) (sp0 := List.replicate D.T (.int .i64 0)) H (by simp) fun spt hspt => ?_)
  · exact (by repeat' (first | exact trivial | refine ⟨rfl, ?_⟩))
  · exact (List.Sublist.refl _)
  refine SC.then ?_
  refine SC.seq ?_
  refine SC.region ?_
  refine SL.y (OV.move rfl) rfl ?_
  refine SL.e (OE.makeL D.n u47 in21 rfl rfl rfl (by omega) (by omega)) rfl ?_
  intro bp
  refine SL.y (OV.assign rfl) rfl ?_
  refine SL.nil ?_
  refine SC.then ?_
  refine SC.seq ?_
  refine SC.region ?_
  refine SL.y (OV.move rfl) rfl ?_
  refine SL.y (OV.add rfl rfl (wrap_i64 (by omega) (by omega))) rfl ?_
  refine SL.e (OE.makeI (D.I + 1) (D.I + 1) u47 in21 rfl rfl rfl rfl (by omega) (by omega) (by omega)) rfl ?_
  intro bst
  refine SL.y (OV.assign rfl) rfl ?_
  refine SL.nil ?_
  refine SC.then ?_
  refine SC.seq ?_
  refine SC.seq ?_
  refine SC.region ?_
  refine SL.y (OV.assign rfl) rfl ?_
  refine SL.nil ?_
  refine SC.then ?_
  refine SC.weaken ?_ ?_ (loop3 (bh := bh) (btx := btx) (bit := bit) (bn := bn) (bt := bt) (bst := bst) (spt := spt) (L0 := ⟨bp, D.n, List.replicate D.n (.int .i32 0)⟩) H ⟨by simp, by unfold maxLen; dsimp only; omega⟩ fun L hL => ?_)
  · exact (by repeat' (first | exact trivial | refine ⟨rfl, ?_⟩))
  · exact (List.Sublist.refl _)
  refine SC.then ?_
  exact part2 H hL fun B hcp => part3 H A (fun w hM => ⟨rfl, hM.below⟩) hcp

/-- More than 4096 kinds: the law says true at once. -/
theorem walkBig {a0 a1 a2 : Option Addr} {n c0 l1 c1 l2 c2 : Nat} {m3 m4 m5 : Int} (hbig : 4096 < n) :
    Calls Yba.prog 4 #[.slice a0 n c0, .slice a1 l1 c1, .slice a2 l2 c2, .int .u8 m3, .int .u8 m4, .int .u8 m5] w0 fun e w' => e = .returned (.bool true) ∧ Below w0.heap.size w0 w' := by
  refine Calls.of_SC (args := [.slice a0 n c0, .slice a1 l1 c1, .slice a2 l2 c2, .int .u8 m3, .int .u8 m4, .int .u8 m5]) Yba.func4 rfl (by rw [Yba.ntmps4]; simp) (Mm.start w0) ?_
  refine SC.seq ?_
  refine SC.region ?_
  refine SL.y (OV.assign rfl) rfl ?_
  refine SL.nil ?_
  refine SC.then ?_
  refine SC.seq ?_
  refine SC.seq ?_
  refine SC.region ?_
  refine SL.y (OV.move rfl) rfl ?_
  refine SL.y (OV.len u22 rfl) rfl ?_
  refine SL.y (OV.gtr rfl rfl) rfl ?_
  refine SL.nil ?_
  refine SC.then ?_
  refine SC.condP rfl (fun _ => ?_) (fun h => absurd (show (4096 : Int) < (n : Int) by omega) h)
  refine SC.seq ?_
  refine SC.region ?_
  refine SL.y (OV.assign rfl) rfl ?_
  refine SL.nil ?_
  refine SC.then ?_
  refine SC.ret ?_
  refine SE.thenR ?_
  exact SE.ret1 Yba.results4 rfl fun w hM => ⟨rfl, hM.below⟩
end
end Go.Proofs.Ybulkdrci.LawB
