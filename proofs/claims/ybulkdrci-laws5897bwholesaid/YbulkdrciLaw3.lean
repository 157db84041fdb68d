import Derived.Test.YbulkdrciLaw2
import Derived.Test.YbulkdrciApart2
import Derived.Test.YbulkdrciOps3
namespace Go.Proofs.Ybulkdrci.LawB
open Go Go.RowKit Go.Proofs.Ybulkdrci Go.Proofs.Ybulkdrci.Sym Go.Proofs.Ybulkdrci.Pl
set_option linter.unusedVariables false
set_option linter.unusedSimpArgs false

theorem pf8 : plainFunc Yba.prog 8 = true := by kernel_rfl
theorem pf9 : plainFunc Yba.prog 9 = true := by kernel_rfl
theorem pf10 : plainFunc Yba.prog 10 = true := by kernel_rfl
theorem pf11 : plainFunc Yba.prog 11 = true := by kernel_rfl
theorem pf12 : plainFunc Yba.prog 12 = true := by kernel_rfl
theorem pf13 : plainFunc Yba.prog 13 = true := by kernel_rfl
theorem pf14 : plainFunc Yba.prog 14 = true := by kernel_rfl
theorem pf15 : plainFunc Yba.prog 15 = true := by kernel_rfl
theorem u71 : Yba.prog.underlying 71 = some (.pointer 155) := by kernel_rfl

theorem build56 (s0 s1 s2 : Option Addr) (n0 c0 n1 c1 n2 c2 : Nat) (I : Int) (w : World) : (Instr.build 56 #[(0, .slice s0 n0 c0), (1, .slice s1 n1 c1), (2, .slice s2 n2 c2), (5, .int .i64 I)]).run Yba.prog w = .ok (.agg #[.slice s0 n0 c0, .slice s1 n1 c1, .slice s2 n2 c2, .slice none 0 0, .slice none 0 0, .int .i64 I]) w := by kernel_rfl
/-- A viewSearch, all zero but 'placed'. -/
def vsCells : List Value := [.slice none 0 0, .slice none 0 0, .slice none 0 0, .slice none 0 0, .slice none 0 0, .slice none 0 0, .slice none 0 0, .slice none 0 0, .slice none 0 0, .slice none 0 0, .slice none 0 0, .slice none 0 0, .slice none 0 0, .slice none 0 0, .slice none 0 0, .slice none 0 0, .slice none 0 0, .slice none 0 0, .slice none 0 0, .slice none 0 0, .slice none 0 0, .slice none 0 0, .int .i64 7, .int .i64 0, .int .i64 0, .bool false, .pointer none, .slice none 0 0, .slice none 0 0, .slice none 0 0, .slice none 0 0, .slice none 0 0]
theorem build74 (w : World) : (Instr.build 74 #[(20, .int .i64 7)]).run Yba.prog w = .ok (.agg vsCells.toArray) w := by kernel_rfl

/-- What setApart is handed here. -/
abbrev ad (D : LB) (B : BK) (bs : Nat) : Apart.AD := { bs := bs, bix := B.bix, bt := B.bt, bn := B.bn, bp := B.bp, bst := B.bst, bh := B.bh, btx := B.btx, ct := D.T, np := np D, cp := B.cp, n := D.n, T := D.T, I := D.I, C := C D, kd := D.kd, nd := nd D, txl := txl D, tx := D.tx, it := D.it, st := fun x => (posTo D.n D.it x).length, cs := vsCells }
/-- What the model wants. -/
abbrev want (D : LB) : S9m := fold9m (f6m D D.I).isN (f6m D D.I).steps (txl D) (C D)
abbrev wantNode (D : LB) : Nat → Int := fold10m (nd D) (want D).rank D.T

/-- THE PLAIN LAW: the two ways come to the same. -/
structure Agree (D : LB) : Prop where
  names : ∀ B bs, (ad D B bs).out.names = (want D).names
  al : ∀ B bs, (ad D B bs).out.al = (want D).al
  als : ∀ B bs, (ad D B bs).out.als = (want D).als
  node : ∀ B bs t, t < D.T → (ad D B bs).node t = wantNode D t

theorem hfill_one (D : LB) (k q : Nat) : (hfill D k q).oneCell' = true := by
  unfold hfill hcell hzero
  (repeat' split) <;> rfl
theorem hmade (D : LB) : (madeCells #[Value.int .u8 0, .int .i64 0, .string ⟨#[]⟩] (D.n * 3)).toList = tab (D.n * 3) (hfill D 0) := by
  refine madeCells_tab _ _ _ fun q hq => ?_
  unfold hfill hzero
  rw [if_neg (by omega)]
  have h3 : q % 3 < 3 := Nat.mod_lt _ (by decide)
  show (#[Value.int .u8 0, .int .i64 0, .string ⟨#[]⟩] : Array Value)[q % 3]! = _
  generalize q % 3 = r at *
  match r, h3 with
  | 0, _ => rfl
  | 1, _ => rfl
  | 2, _ => rfl
theorem lrow_getD (l : List Int) (k : IntKind) (sp : List Value) {q : Nat} (h : q < l.length) : (ints k l ++ sp)[q]? = some (.int k (l.getD q 0)) := by
  rw [List.getElem?_append_left (by simpa [ints] using h)]; exact ints_get k l h

section
variable {D : LB} {w0 : World} {Q : Exit → Act → World → Prop}

set_option maxRecDepth 100000 in
set_option maxHeartbeats 4000000 in
/-- From the end of loop 3 to the model's loops: the copies. -/
theorem part2 (H : LH D w0) {bh btx bit bn bt bst : Nat} {spt : List Value} {L : PL} (hL : L.ok (posTo D.n D.it D.I))
    (h : ∀ B : BK, np D ≤ B.cp → SC Yba.prog (sub [1, 1, 1, 1, 1, 1, 1, 1, 1, 1, 1, 1, 1, 1, 1, 1, 1, 1, 1, 1, 1, 1, 1, 1, 1, 1, 1] (Yba.f4.body.getD .skip)) Q Yba.f4.ntmps ((39, .slice (some ⟨B.b39, 0, none⟩) (C D) (C D)) :: (40, .slice (some ⟨B.b40, 0, none⟩) (C D) (C D)) :: EX D B) w0 [] (MX D B (fun _ => false) fun _ => 0)) :
    SC Yba.prog (sub [1, 1, 1, 1, 1, 1, 1, 1, 1, 1, 1, 1, 1, 1, 1] (Yba.f4.body.getD .skip)) Q Yba.f4.ntmps ((26, .slice (some ⟨L.bp, 0, none⟩) (posTo D.n D.it D.I).length L.cp) :: (27, .slice (some ⟨bst, 0, none⟩) (D.I + 1) (D.I + 1)) :: E2 D bh btx bit bn bt) w0 [] (M2 D bh btx bit bn bt spt ++ [(L.bp, lrow 21 .i32 (natsI (posTo D.n D.it D.I)) L.sp), (bst, irow 21 .i32 (D.I + 1) fun q => if q < D.I then stt D q else 0)]) := by
  have hn := H.nle
  have hI := H.I5
  have hT := H.T6
  have hC : C D ≤ D.T := cntTo_le D.alive D.T
  have hpl := posTo_len D.n D.it D.I
  have hpl' : (posTo D.n D.it D.I).length ≤ 20480 := Nat.le_trans hpl (Nat.mul_le_mul (show D.I ≤ 5 by omega) hn)
  have htl : (txnsTo D.alive D.T).length = C D := txnsTo_len D.alive D.T
  refine SC.seq ?_
  refine SC.region ?_
  refine SL.y (OV.move rfl) rfl ?_
  refine SL.y (OV.move rfl) rfl ?_
  refine SL.y (OV.move rfl) rfl ?_
  refine SL.y (OV.len u47 rfl) rfl ?_
  refine SL.y (OV.conv u3 u21 rfl (wrap_i32 (by omega) (by omega))) rfl ?_
  refine SL.y (OV.idx1 _ u47 se47 rfl rfl rfl (by omega)) rfl ?_
  refine SL.s (OS.storeI 6 sz21 rfl rfl rfl (by omega)) ?_
  refine SL.nil ?_
  refine SC.then ?_
  rw [show upd (fun q => if q < D.I then stt D q else 0) D.I ((posTo D.n D.it D.I).length : Int) = fun q => if q < D.I + 1 then stt D q else 0 from upd_fill (stt D) 0 D.I, irow_fill (f := stt D)]
  refine SC.seq ?_
  refine SC.region ?_
  refine SL.y (OV.move rfl) rfl ?_
  refine SL.y (OV.move rfl) rfl ?_
  refine SL.y (OV.move rfl) rfl ?_
  refine SL.y (OV.move rfl) rfl ?_
  refine SL.y (OV.build (vs := #[(0, .slice (some ⟨bh, 0, none⟩) D.n D.n), (1, .slice (some ⟨btx, 0, none⟩) D.n D.n), (2, .slice (some ⟨bit, 0, none⟩) D.n D.n), (5, .int .i64 D.I)]) (fun ρ hρ => by simp [hρ _ _ (show ev _ (.tmp 203) = some (.slice (some ⟨bh, 0, none⟩) D.n D.n) from rfl), hρ _ _ (show ev _ (.tmp 204) = some (.slice (some ⟨btx, 0, none⟩) D.n D.n) from rfl), hρ _ _ (show ev _ (.tmp 205) = some (.slice (some ⟨bit, 0, none⟩) D.n D.n) from rfl), hρ _ _ (show ev _ (.tmp 206) = some (.int .i64 D.I) from rfl)]) (build56 _ _ _ _ _ _ _ _ _ _)) rfl ?_
  refine SL.e (OE.box rfl) rfl ?_
  intro bix
  refine SL.y (OV.assign rfl) rfl ?_
  refine SL.nil ?_
  refine SC.then ?_
  refine SC.seq ?_
  refine SC.region ?_
  refine SL.y (OV.move rfl) rfl ?_
  refine SL.clone (xs := ints .i64 (txnsTo D.alive D.T)) (j := 4) pf8 rfl rfl pre_append (fun w hx => clone_8 (by simp [ints, htl]) (by omega) (ints_one _ _) hx) rfl ?_
  intro k31 _
  refine SL.y (OV.assign rfl) rfl ?_
  refine SL.nil ?_
  refine SC.then ?_
  refine SC.seq ?_
  refine SC.region ?_
  refine SL.y (OV.move rfl) rfl ?_
  refine SL.clone (xs := ints .i32 (natsI (posTo D.n D.it D.I))) (j := 5) pf9 rfl rfl pre_append (fun w hx => clone_9 (by simp [ints, natsI]) (by omega) (ints_one _ _) hx) rfl ?_
  intro k32 _
  refine SL.y (OV.assign rfl) rfl ?_
  refine SL.nil ?_
  refine SC.then ?_
  refine SC.seq ?_
  refine SC.region ?_
  refine SL.y (OV.move rfl) rfl ?_
  refine SL.clone (xs := tab (D.I + 1) fun q => .int .i32 (stt D q)) (j := 6) pf9 rfl rfl (fun _ _ hq => hq) (fun w hx => clone_9 (by simp [length_tab]) (by omega) (tab_one _ _ fun _ _ => rfl) hx) rfl ?_
  intro k33 _
  refine SL.y (OV.assign rfl) rfl ?_
  refine SL.nil ?_
  refine SC.then ?_
  refine SC.seq ?_
  refine SC.region ?_
  refine SL.y (OV.move rfl) rfl ?_
  refine SL.clone (xs := tab (D.n * 3) (hfill D D.n)) (j := 0) pf10 rfl rfl (fun _ _ hq => hq) (fun w hx => clone_10 (by simp [length_tab]) (by omega) (tab_one _ _ fun _ _ => hfill_one _ _ _) hx) rfl ?_
  intro k34 _
  refine SL.y (OV.assign rfl) rfl ?_
  refine SL.nil ?_
  refine SC.then ?_
  refine SC.seq ?_
  refine SC.region ?_
  refine SL.y (OV.move rfl) rfl ?_
  refine SL.clone (xs := tab D.n fun q => .int .i32 (D.tx q : Int)) (j := 1) pf9 rfl rfl (fun _ _ hq => hq) (fun w hx => clone_9 (by simp [length_tab]) (by omega) (tab_one _ _ fun _ _ => rfl) hx) rfl ?_
  intro k35 _
  refine SL.y (OV.assign rfl) rfl ?_
  refine SL.nil ?_
  refine SC.then ?_
  refine SC.seq ?_
  refine SC.region ?_
  refine SL.y (OV.move rfl) rfl ?_
  refine SL.clone (xs := tab D.n fun q => .int .i32 (D.it q : Int)) (j := 2) pf9 rfl rfl (fun _ _ hq => hq) (fun w hx => clone_9 (by simp [length_tab]) (by omega) (tab_one _ _ fun _ _ => rfl) hx) rfl ?_
  intro k36 _
  refine SL.y (OV.assign rfl) rfl ?_
  refine SL.nil ?_
  refine SC.then ?_
  refine SC.seq ?_
  refine SC.region ?_
  refine SL.y (OV.move rfl) rfl ?_
  refine SL.clone (xs := tab D.T fun q => .int .i32 (nd D q)) (j := 3) pf9 rfl rfl (fun _ _ hq => hq) (fun w hx => clone_9 (by simp [length_tab]) (by omega) (tab_one _ _ fun _ _ => rfl) hx) rfl ?_
  intro k37 _
  refine SL.y (OV.assign rfl) rfl ?_
  refine SL.nil ?_
  refine SC.then ?_
  refine SC.seq ?_
  refine SC.region ?_
  refine SL.y (OV.move rfl) rfl ?_
  refine SL.y (OV.len u51 rfl) rfl ?_
  refine SL.y (OV.assign rfl) rfl ?_
  refine SL.nil ?_
  refine SC.then ?_
  refine SC.seq ?_
  refine SC.region ?_
  refine SL.y (OV.move rfl) rfl ?_
  refine SL.e (OE.makeB (C D) (C D) u23 in4 rfl rfl rfl rfl (by omega) (by omega) (by omega)) rfl ?_
  intro b39
  refine SL.y (OV.assign rfl) rfl ?_
  refine SL.nil ?_
  refine SC.then ?_
  refine SC.seq ?_
  refine SC.region ?_
  refine SL.y (OV.move rfl) rfl ?_
  refine SL.e (OE.makeI (C D) (C D) u60 in61 rfl rfl rfl rfl (by omega) (by omega) (by omega)) rfl ?_
  intro b40
  refine SL.y (OV.assign rfl) rfl ?_
  refine SL.nil ?_
  refine SC.then ?_
  refine SC.weaken ?_ ?_ (h ⟨bh, btx, bit, bn, bt, L.bp, L.cp, bst, bix, k31.1, k31.2.1, k32.1, k32.2.1, k33.1, k33.2.1, k34.1, k34.2.1, k35.1, k35.2.1, k36.1, k36.2.1, k37.1, k37.2.1, b39, b40, spt, L.sp, k31.2.2, k32.2.2, k33.2.2, k34.2.2, k35.2.2, k36.2.2, k37.2.2⟩ (by have := hL.1; show (posTo D.n D.it D.I).length ≤ L.cp; omega))
  · exact (by repeat' (first | exact trivial | refine ⟨rfl, ?_⟩))
  · exact (List.Sublist.refl _)
end
end Go.Proofs.Ybulkdrci.LawB
