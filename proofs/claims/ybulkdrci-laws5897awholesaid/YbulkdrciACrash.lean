import Derived.Test.YbulkdrciANew2
namespace Go.Proofs.Ybulkdrci.A
open Go Go.RowKit Go.Proofs.Ybulkdrci.A.Sym
set_option linter.unusedVariables false
set_option linter.unusedSimpArgs false
set_option maxRecDepth 100000

theorem rcells_one {D : RD} {bN : Nat} {cm : Bool} {x y : Int} : ∀ u ∈ (Value.agg (rcells D bN cm x y).toArray).cells.toList, u.oneCell' = true := by
  intro u hu
  simp [Value.cells, rcells] at hu
  rcases hu with rfl | rfl | rfl | rfl | rfl | rfl | rfl | rfl | rfl | rfl | rfl | rfl | rfl <;> rfl
theorem rcellAt {w : World} {D : RD} {br bN : Nat} {cm : Bool} {x y : Int} (h : w.heap[br]? = some (rrow D bN cm x y)) : ∀ q v, (rcells D bN cm x y)[q]? = some v → w.cell? ⟨br, 0 + q, none⟩ = some v := by
  intro q v hq
  simp [World.cell?, h, rrow, row, hq]
def z88 : List Value := [.bool false, .int .i64 0, .int .i64 0, .slice none 0 0, .nilFunc, .slice none 0 0, .bool false, .int .u8 0, .bool false, .int .i64 0, .int .u8 0, .int .i64 0, .bool false]
theorem cRow_one {co : ByteArray} {cf : Int} {bp n : Nat} : ∀ u ∈ (Value.agg (cRow co cf bp n).toArray).cells.toList, u.oneCell' = true := by
  intro u hu
  simp [Value.cells, cRow] at hu
  rcases hu with rfl | rfl | rfl | rfl <;> rfl
def flC (f : Int) (fl : Nat → Int) : Nat → Int := fun k => if k = 0 then f else fl k
section
variable {w : World} {co : ByteArray} {cf : Int} {bp n : Nat} {cl term : Int} {nm : Nat → ByteArray} {fl : Nat → Int} {ro : Nat → Bool} {br0 bN0 bc bN t0 till : Nat} {f : Int} {cur : List Value}
/-- withCrash -/
theorem call19 (hn : n ≤ 100000) (hr0 : w.heap[br0]? = some (rrow (mkD n cl term t0 bc bp nm fl ro) bN0 false 0 0)) (hn0 : w.heap[bN0]? = some (nrow (mkD n cl term t0 bc bp nm fl ro) s0)) (hc : w.heap[bc]? = some (row 28 (cRow co cf bp n))) (hbN : w.heap[bN]? = some (row 92 cur)) (hcur : cur.length = (n + 1) * 5) (n1 : br0 ≠ bN) (n2 : bN0 ≠ bN) (n3 : bc ≠ bN) :
    Calls Yba.prog 19 #[pt br0, .int .u8 f, .int .i64 till, .slice (some ⟨bN, 0, none⟩) (n + 1) (n + 1)] w fun e w' => ∃ b10 : Nat, e = .returned (.agg (rcells (mkD n cl term till b10 bp nm (flC f fl) ro) bN false 0 0).toArray) ∧ True ∧ Mm w [bN] [(bN, nrow (mkD n cl term till b10 bp nm (flC f fl) ro) s0), (b10, row 28 (cRow co f bp n))] w' := by
  obtain ⟨i88, hi88, hz88, hs88, hb88⟩ := info_parts info88
  obtain ⟨i92, hi92, hz92, hs92, hb92⟩ := info_parts info92
  obtain ⟨i28, hi28, hz28, hs28, hb28⟩ := info_parts info28
  have hPQ : PanicOk (bodyPost Yba.prog Yba.f19 (fun e w' => ∃ b10 : Nat, e = .returned (.agg (rcells (mkD n cl term till b10 bp nm (flC f fl) ro) bN false 0 0).toArray) ∧ True ∧ Mm w [bN] [(bN, nrow (mkD n cl term till b10 bp nm (flC f fl) ro) s0), (b10, row 28 (cRow co f bp n))] w')) := PanicOk.body
  have F1 : br0 ∉ [bN] := by simpa using n1
  have F2 : bN0 ∉ [bN] := by simpa using n2
  have F3 : bc ∉ [bN] := by simpa using n3
  have hb5 : w.cell? ⟨br0, 0 + 5, none⟩ = some (.slice (some ⟨bN0, 0, none⟩) (n + 1) (n + 1)) := rcellAt hr0 5 _ rfl
  have hcc : ∀ q v, (cRow co cf bp n)[q]? = some v → w.cell? ⟨bc, 0 + q, none⟩ = some v := fun q v hq => by simp [World.cell?, hc, row, hq]
  refine Calls.of_SC (args := [pt br0, .int .u8 f, .int .i64 till, .slice (some ⟨bN, 0, none⟩) (n + 1) (n + 1)]) Yba.func19 rfl (by simp [Yba.f19]) (Mm.ofRow hbN) ?_
  refine SC.seq ?_
  refine SC.region ?_
  refine SL.e (OE.alloc hi88 hz88) rfl ?_
  intro b8
  refine SL.nil ?_
  refine SC.then ?_
  refine SC.seq ?_
  refine SC.region ?_
  refine SL.y (OV.move rfl) rfl ?_
  refine SL.y (OV.nilCheck rfl) rfl ?_
  refine SL.y (OV.loadAggOld (vs := rcells (mkD n cl term t0 bc bp nm fl ro) bN0 false 0 0) ag88 us88 hi88 rfl F1 (by rw [hs88]; rfl) (rcellAt hr0)) rfl ?_
  refine SL.e (OE.alloc hi88 hz88) rfl ?_
  intro b9
  refine SL.s (OS.storeAll 2 hi88 rfl rfl rfl (by rw [hs88]; rfl) rcells_one (by rw [hs88]; rfl)) ?_
  refine SL.nil ?_
  refine SC.then ?_
  refine SC.seq ?_
  refine SC.region ?_
  refine SL.y (OV.move rfl) rfl ?_
  refine SL.y (OV.fld fo88_2 rfl) rfl ?_
  refine SL.s (OS.store1 2 sz86 rfl rfl rfl rfl (by show 5 < 13; decide)) ?_
  refine SL.nil ?_
  refine SC.then ?_
  refine SC.cutSt [(8, pt b8), (9, pt b9), (0, pt br0), (1, .int .u8 f), (2, .int .i64 till)] [(bN, nrow (mkD n cl term t0 bc bp nm fl ro) s0), (b8, row 88 z88), (b9, rrow (mkD n cl term t0 bc bp nm fl ro) bN false 0 0)] ?_ ?_
  · refine SC.weaken (env' := [(8, pt b8), (9, pt b9), (0, pt br0), (1, .int .u8 f), (2, .int .i64 till)]) (m' := [(bN, row 92 cur), (b8, row 88 z88), (b9, rrow (mkD n cl term t0 bc bp nm fl ro) bN false 0 0)]) (by repeat' (first | exact trivial | refine ⟨rfl, ?_⟩)) (List.Sublist.refl _) ?_
    refine SC.held 6 [(bN, row 92 cur), (b8, row 88 z88), (b9, rrow (mkD n cl term t0 bc bp nm fl ro) bN false 0 0)] [] mixed ?_
    refine SA.takeZ (i := 0) [1, 6] (by repeat (first | exact hPQ | refine PanicOk.then ?_ | refine PanicOk.block ?_ | exact PanicOk.body)) rfl rfl (by kernel_rfl) (by kernel_rfl) (by kernel_rfl) rfl (by kernel_rfl) (by kernel_rfl) (by kernel_rfl) (by first | exact List.nil_sublist _ | exact List.Sublist.refl _ | (repeat (first | exact List.Sublist.refl _ | exact List.nil_sublist _ | refine List.Sublist.cons_cons _ ?_ | refine List.Sublist.cons _ ?_))) (yiN (OV.fld fo88_2 rfl)) rfl ?_
    refine SA.takeZ (i := 1) [6] (by repeat (first | exact hPQ | refine PanicOk.then ?_ | refine PanicOk.block ?_ | exact PanicOk.body)) rfl rfl (by kernel_rfl) (by kernel_rfl) (by kernel_rfl) rfl (by kernel_rfl) (by kernel_rfl) (by kernel_rfl) (by first | exact List.nil_sublist _ | exact List.Sublist.refl _ | (repeat (first | exact List.Sublist.refl _ | exact List.nil_sublist _ | refine List.Sublist.cons_cons _ ?_ | refine List.Sublist.cons _ ?_))) (yiN (OV.loadF 2 sc86 rfl rfl rfl)) rfl ?_
    refine SA.takeZ (i := 2) [3, 4, 5, 6] (by repeat (first | exact hPQ | refine PanicOk.then ?_ | refine PanicOk.block ?_ | exact PanicOk.body)) rfl rfl (by kernel_rfl) (by kernel_rfl) (by kernel_rfl) rfl (by kernel_rfl) (by kernel_rfl) (by kernel_rfl) (by first | exact List.nil_sublist _ | exact List.Sublist.refl _ | (repeat (first | exact List.Sublist.refl _ | exact List.nil_sublist _ | refine List.Sublist.cons_cons _ ?_ | refine List.Sublist.cons _ ?_))) (yiN (OV.move rfl)) rfl ?_
    refine SA.takeZ (i := 3) [4, 5, 6] (by repeat (first | exact hPQ | refine PanicOk.then ?_ | refine PanicOk.block ?_ | exact PanicOk.body)) rfl rfl (by kernel_rfl) (by kernel_rfl) (by kernel_rfl) rfl (by kernel_rfl) (by kernel_rfl) (by kernel_rfl) (by first | exact List.nil_sublist _ | exact List.Sublist.refl _ | (repeat (first | exact List.Sublist.refl _ | exact List.nil_sublist _ | refine List.Sublist.cons_cons _ ?_ | refine List.Sublist.cons _ ?_))) (yiN (OV.nilCheck rfl)) rfl ?_
    refine SA.takeZ (i := 4) [5, 6] (by repeat (first | exact hPQ | refine PanicOk.then ?_ | refine PanicOk.block ?_ | exact PanicOk.body)) rfl rfl (by kernel_rfl) (by kernel_rfl) (by kernel_rfl) rfl (by kernel_rfl) (by kernel_rfl) (by kernel_rfl) (by first | exact List.nil_sublist _ | exact List.Sublist.refl _ | (repeat (first | exact List.Sublist.refl _ | exact List.nil_sublist _ | refine List.Sublist.cons_cons _ ?_ | refine List.Sublist.cons _ ?_))) (yiN (OV.fld fo88_2 rfl)) rfl ?_
    refine SA.takeZ (i := 5) [6] (by repeat (first | exact hPQ | refine PanicOk.then ?_ | refine PanicOk.block ?_ | exact PanicOk.body)) rfl rfl (by kernel_rfl) (by kernel_rfl) (by kernel_rfl) rfl (by kernel_rfl) (by kernel_rfl) (by kernel_rfl) (by first | exact List.nil_sublist _ | exact List.Sublist.refl _ | (repeat (first | exact List.Sublist.refl _ | exact List.nil_sublist _ | refine List.Sublist.cons_cons _ ?_ | refine List.Sublist.cons _ ?_))) (yiN (OV.loadOld sc86 rfl F1 hb5)) rfl ?_
    refine SA.all (rs := [6]) (by kernel_rfl) (by simp) (all_cons ?_ (all_nil))
    · skip
      refine SO.e rfl (OE.copyAll (cs := tab ((n + 1) * 5) (ncell (mkD n cl term t0 bc bp nm fl ro) s0)) 0 u86 hi92 hs92 rfl rfl rfl (Src.old F2 (fun q u hq => by have hlt := (List.getElem?_eq_some_iff.1 hq).1; rw [length_tab] at hlt; rw [tab_get hlt] at hq; rw [Nat.zero_add, ncellAt hn0 hlt]; exact hq)) (length_tab _ _) (by rw [length_tab, hcur]) (ncell_one _)) rfl (fun _ => (by first | exact List.nil_sublist _ | exact List.Sublist.refl _ | (repeat (first | exact List.Sublist.refl _ | exact List.nil_sublist _ | refine List.Sublist.cons_cons _ ?_ | refine List.Sublist.cons _ ?_)))) ?_
      intro _
      refine SA.done (by kernel_rfl) ?_
      exact SE.toSt (by repeat' (first | exact trivial | refine ⟨rfl, ?_⟩)) (List.Sublist.refl _)
  refine SC.seq ?_
  refine SC.region ?_
  refine SL.y (OV.fld fo88_2 rfl) rfl ?_
  refine SL.y (OV.loadF 2 sc86 rfl rfl rfl) rfl ?_
  refine SL.y (OV.idx 0 u86 hi92 hs92 rfl rfl rfl (by show 0 < n + 1; omega)) rfl ?_
  refine SL.y (OV.fld fo92_0 rfl) rfl ?_
  refine SL.y (OV.loadT 0 sc89 rfl rfl (by show _ < (n + 1) * 5; omega) (nc0 _ s0 0)) rfl ?_
  refine SL.y (OV.nilCheck rfl) rfl ?_
  refine SL.y (OV.loadAggOld (vs := cRow co cf bp n) ag28 us28 hi28 rfl F3 (by rw [hs28]; rfl) hcc) rfl ?_
  refine SL.e (OE.alloc hi28 hz28) rfl ?_
  intro b10
  refine SL.s (OS.storeAll 3 hi28 rfl rfl rfl (by rw [hs28]; rfl) cRow_one (by rw [hs28]; rfl)) ?_
  refine SL.nil ?_
  refine SC.then ?_
  refine SC.seq ?_
  refine SC.region ?_
  refine SL.y (OV.move rfl) rfl ?_
  refine SL.y (OV.fld fo28_1 rfl) rfl ?_
  refine SL.s (OS.store1 3 sz26 rfl rfl rfl rfl (by show 1 < 4; decide)) ?_
  refine SL.nil ?_
  refine SC.then ?_
  refine SC.seq ?_
  refine SC.region ?_
  refine SL.y (OV.fld fo88_2 rfl) rfl ?_
  refine SL.y (OV.loadF 2 sc86 rfl rfl rfl) rfl ?_
  refine SL.y (OV.idx 0 u86 hi92 hs92 rfl rfl rfl (by show 0 < n + 1; omega)) rfl ?_
  refine SL.y (OV.fld fo92_0 rfl) rfl ?_
  refine SL.s (OS.store1 0 sz89 rfl rfl rfl rfl (by rw [length_tab]; show _ < (n + 1) * 5; omega)) ?_
  refine SL.nil ?_
  refine SC.then ?_
  refine SC.weaken (env' := [(8, pt b8), (9, pt b9), (2, .int .i64 till)]) (m' := [(bN, nrow (mkD n cl term till b10 bp nm (flC f fl) ro) s0), (b8, row 88 z88), (b9, rrow (mkD n cl term t0 bc bp nm fl ro) bN false 0 0), (b10, row 28 (cRow co f bp n))]) (by repeat' (first | exact trivial | refine ⟨rfl, ?_⟩)) ?_ ?_
  · unfold nrow
    show [(bN, row 92 (tab ((n + 1) * 5) (ncell (mkD n cl term till b10 bp nm (flC f fl) ro) s0))), _, _, _].Sublist _
    rw [← ncell_mkD (till := t0) (till' := till) (bc := bc) (bc' := b10) (nm := nm) (nm' := nm) (fl := fl) (fl' := flC f fl) (ro := ro) (ro' := ro)]
    exact List.Sublist.refl _
  refine SC.seq ?_
  refine SC.region ?_
  refine SL.y (OV.move rfl) rfl ?_
  refine SL.y (OV.fld fo88_6 rfl) rfl ?_
  refine SL.s (OS.store1 2 sz3 rfl rfl rfl rfl (by show 11 < 13; decide)) ?_
  refine SL.nil ?_
  refine SC.then ?_
  refine SC.seq ?_
  refine SC.region ?_
  refine SL.y (OV.loadAgg (vs := rcells (mkD n cl term till b10 bp nm (flC f fl) ro) bN false 0 0) 2 ag88 us88 hi88 rfl rfl (by rw [hs88]; rfl) (fun q v h => by have e : 0 + q = q := Nat.zero_add q; rw [e]; exact h)) rfl ?_
  refine SL.s (OS.storeAll 1 hi88 rfl rfl rfl (by rw [hs88]; rfl) rcells_one (by rw [hs88]; rfl)) ?_
  refine SL.nil ?_
  refine SC.then ?_
  refine SC.ret ?_
  exact SE.retC (j := 1) (xs := rcells (mkD n cl term till b10 bp nm (flC f fl) ro) bN false 0 0) Yba.results19 rfl ag88 us88 hi88 (by rw [hs88]; rfl) rfl (fun q v h => h) (fun w' hM => ⟨b10, rfl, trivial, hM.weaken (((((List.nil_sublist _).cons_cons _).cons _).cons _).cons_cons _)⟩)
theorem pf19 : plainFunc Yba.prog 19 = true := by kernel_rfl
end
end Go.Proofs.Ybulkdrci.A
