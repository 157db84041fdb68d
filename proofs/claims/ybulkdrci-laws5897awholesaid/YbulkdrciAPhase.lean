import Derived.Test.YbulkdrciAWalk3
namespace Go.Proofs.Ybulkdrci.A
open Go Go.RowKit Go.Proofs.Ybulkdrci.A.Sym
set_option linter.unusedVariables false
set_option linter.unusedSimpArgs false
set_option maxRecDepth 100000

theorem info4 : (Yba.prog.info? 4).map (fun i => (i.zero, i.size, i.bytes)) = some (some (.bool false), 1, 1) := by kernel_rfl
theorem info3 : (Yba.prog.info? 3).map (fun i => (i.zero, i.size, i.bytes)) = some (some (.int .i64 0), 1, 8) := by kernel_rfl
theorem args5 {env : Env} {x0 x1 x2 x3 x4 : Operand} {v0 v1 v2 v3 v4 : Value} (h0 : ev env x0 = some v0) (h1 : ev env x1 = some v1) (h2 : ev env x2 = some v2) (h3 : ev env x3 = some v3) (h4 : ev env x4 = some v4) (ρ : Operand → Value) (hρ : ∀ x u, ev env x = some u → ρ x = u) : (#[x0, x1, x2, x3, x4] : Array Operand).map ρ = #[v0, v1, v2, v3, v4] := by simp [hρ x0 _ h0, hρ x1 _ h1, hρ x2 _ h2, hρ x3 _ h3, hρ x4 _ h4]
theorem args0' {env : Env} (ρ : Operand → Value) (hρ : ∀ x u, ev env x = some u → ρ x = u) : (#[] : Array Operand).map ρ = #[] := by simp
theorem Mm.apart {w0 w : World} {F : List Nat} {br bN b : Nat} {o1 o2 : Obj} {rest : List Blk} (h : Mm w0 F ((br, o1) :: (bN, o2) :: rest) w) (hb : b ∈ rest.map (·.1)) : b ∉ [br, bN] := by
  have hn := h.nodup
  simp only [List.map_cons, List.nodup_cons, List.mem_cons, not_or] at hn
  intro e
  simp at e
  rcases e with rfl | rfl
  · exact hn.1.2 hb
  · exact hn.2.1 hb
section
variable {D : RD} {br bN : Nat} {cm : Bool} {x y : Int} {s : NSt} {w : World}
/-- phaseTwo, while the coordinator is down -/
theorem call37 {till : Nat} {mg rc : Int} (hD : D.n ≤ 100000) (ht : D.n < till) (h0 : (s 0).dn = true) (hvt : ∀ k, 1 ≤ k → k ≤ D.n → (s k).vt ≠ 7) (hdc : ∀ k, 1 ≤ k → k ≤ D.n → (s k).dc = 0) (hA : At D br bN cm x y s w) :
    Does 37 #[pt br, .int .u8 rc, .int .u8 mg, .int .i64 till] w D br bN (.tuple #[]) cm (p2 rc s (D.n + 1)) := by
  obtain ⟨i92, hi, hz, hs, hb⟩ := info_parts info92
  obtain ⟨i4, hi4, hz4, hs4, hb4⟩ := info_parts info4
  refine Calls.of_SC (args := [pt br, .int .u8 rc, .int .u8 mg, .int .i64 till]) Yba.func37 rfl (by simp [Yba.f37]) hA.start ?_
  refine SC.seq ?_
  refine SC.region ?_
  refine SL.e (OE.box rfl) rfl ?_
  intro b4
  refine SL.e (OE.box rfl) rfl ?_
  intro b5
  refine SL.e (OE.box rfl) rfl ?_
  intro b6
  refine SL.e (OE.box rfl) rfl ?_
  intro b7
  refine SL.nil ?_
  refine SC.then ?_
  refine SC.seq ?_
  refine SC.region ?_
  refine SL.y (OV.loadF 2 sc81 rfl rfl rfl) rfl ?_
  refine SL.y (OV.nilCheck rfl) rfl ?_
  refine SL.y (OV.fld fo88_2 rfl) rfl ?_
  refine SL.y (OV.loadF 0 sc86 rfl rfl rfl) rfl ?_
  refine SL.y (OV.idx 0 u86 hi hs rfl rfl rfl (by omega)) rfl ?_
  refine SL.y (OV.fld fo92_2 rfl) rfl ?_
  refine SL.y (OV.loadT 1 sc4 rfl rfl (by omega) ((nc2 D s 0).trans (by rw [h0]))) rfl ?_
  refine SL.e (OE.alloc hi4 hz4) rfl ?_
  intro b8
  refine SL.s (OS.store1 6 sz4 rfl rfl rfl rfl (by show 0 < 1; decide)) ?_
  refine SL.nil ?_
  refine SC.then ?_
  refine SC.region ?_
  refine SL.y (OV.loadF 2 sc81 rfl rfl rfl) rfl ?_
  refine SL.y (OV.mkF args0' (args5 rfl rfl rfl rfl rfl)) rfl ?_
  refine SL.y (OV.mkF args0' (args1 rfl)) rfl ?_
  refine SL.y (OV.mkF args0' (args1 rfl)) rfl ?_
  refine SL.callR pf29 (args4 rfl rfl rfl rfl) (fun w' hM => walk2 hD ht hvt hdc ⟨hM.cell (j := 2) rfl rfl, hM.cell (j := 5) rfl rfl, hM.cell (j := 6) rfl rfl, hM.cell (j := 4) rfl rfl, hM.cell (j := 3) rfl rfl, Mm.apart hM (by simp), Mm.apart hM (by simp), Mm.apart hM (by simp), Mm.apart hM (by simp), Mm.apart hM (by simp)⟩ (hA.go hM)) rfl ?_
  intro z
  refine SL.nil ?_
  exact SE.end0 Yba.results37 (fun w' hM => ⟨z, rfl, trivial, hM.weaken (((List.nil_sublist _).cons_cons _).cons_cons _)⟩)
theorem pf37 : plainFunc Yba.prog 37 = true := by kernel_rfl
/-- Those scripted to crash before prepare, of the nodes before place k, are down. -/
def p0 (D : RD) (s : NSt) (k : Nat) : NSt := fun q => if 1 ≤ q ∧ q < k ∧ D.fl q = 3 then { s q with dn := true } else s q
theorem p0_one (D : RD) (s : NSt) : p0 D s 1 = s := by
  funext q; unfold p0; rw [if_neg (by omega)]
theorem p0_hit {D : RD} {s : NSt} {k : Nat} (h1 : 1 ≤ k) (h : D.fl k = 3) : setDn (p0 D s k) k true = p0 D s (k + 1) := by
  funext q
  unfold setDn
  by_cases e : q = k
  · subst e
    unfold p0
    rw [if_pos rfl, if_neg (by omega), if_pos ⟨h1, by omega, h⟩]
  · rw [if_neg e]
    unfold p0
    by_cases h2 : 1 ≤ q ∧ q < k ∧ D.fl q = 3
    · rw [if_pos h2, if_pos ⟨h2.1, by omega, h2.2.2⟩]
    · rw [if_neg h2, if_neg (fun h3 => h2 ⟨h3.1, by omega, h3.2.2⟩)]
theorem p0_miss {D : RD} {s : NSt} {k : Nat} (h : ¬ D.fl k = 3) : p0 D s k = p0 D s (k + 1) := by
  funext q
  unfold p0
  by_cases h2 : 1 ≤ q ∧ q < k ∧ D.fl q = 3
  · rw [if_pos h2, if_pos ⟨h2.1, by omega, h2.2.2⟩]
  · rw [if_neg h2, if_neg (fun h3 => h2 ⟨h3.1, by
      have := h3.2.1
      have hne : q ≠ k := fun e => by subst e; exact h h3.2.2
      omega, h3.2.2⟩)]
def crOf (D : RD) : Bool := decide (D.fl 0 = 4)
def ph1 (D : RD) (s : NSt) : NSt := p1 D (tillOf D (crOf D)) (annSt (p0 D s (D.n + 1)) (crOf D)) (D.n + 1)
/-- phaseOne -/
theorem call20 (hD : D.n ≤ 100000) (htl : D.till ≤ D.n + 1) (hA : At D br bN cm x y s w) : Does 20 #[pt br] w D br bN (.tuple #[]) cm (ph1 D s) := by
  obtain ⟨i92, hi, hz, hs, hb⟩ := info_parts info92
  obtain ⟨i3, hi3, hz3, hs3, hb3⟩ := info_parts info3
  refine Calls.of_SC (args := [pt br]) Yba.func20 rfl (by simp [Yba.f20]) hA.start ?_
  refine SC.seq ?_
  refine SC.region ?_
  refine SL.e (OE.box rfl) rfl ?_
  intro b1
  refine SL.nil ?_
  refine SC.then ?_
  refine SC.cutG (fun z : Int × Int => [(1, pt b1)]) (fun z => [(br, rrow D bN cm z.1 z.2), (bN, nrow D (p0 D s (D.n + 1))), (b1, row 81 [pt br])]) (fun _ => True) ?_ ?_
  · skip
    refine SC.seq ?_
    refine SC.region ?_
    refine SL.y (OV.assign rfl) rfl ?_
    refine SL.nil ?_
    refine SC.then ?_
    refine SC.block ?_
    refine SC.loopAB (fun (k : Nat) (z : Int × Int) => [(1, pt b1), (2, .int .i64 k)]) (fun k z => [(br, rrow D bN cm z.1 z.2), (bN, nrow D (p0 D s k)), (b1, row 81 [pt br])]) (fun k z => 1 ≤ k ∧ k ≤ D.n + 1) (fun k z => D.n + 1 - k) 1 (x, y) ⟨by omega, by omega⟩ (by repeat' (first | exact trivial | refine ⟨rfl, ?_⟩)) (by rw [p0_one]; exact List.Sublist.refl _) ?_
    rintro k z ⟨hk1, hk2⟩
    refine SC.seq ?_
    refine SC.seq ?_
    refine SC.region ?_
    refine SL.y (OV.move rfl) rfl ?_
    refine SL.y (OV.loadF 2 sc81 rfl rfl rfl) rfl ?_
    refine SL.y (OV.nilCheck rfl) rfl ?_
    refine SL.y (OV.fld fo88_2 rfl) rfl ?_
    refine SL.y (OV.loadF 0 sc86 rfl rfl rfl) rfl ?_
    refine SL.y (OV.len u86 rfl) rfl ?_
    refine SL.y (OV.lss rfl rfl) rfl ?_
    refine SL.nil ?_
    refine SC.then ?_
    refine SC.condP rfl (fun hlt => ?_) (fun hge => ?_)
    · have hk : k ≤ D.n := by omega
      have hout := hA.hP.out k hk
      refine SC.skip ?_
      refine SC.then ?_
      refine SC.cutG (fun z : Int × Int => [(1, pt b1), (2, .int .i64 k)]) (fun z => [(br, rrow D bN cm z.1 z.2), (bN, nrow D (p0 D s (k + 1))), (b1, row 81 [pt br])]) (fun _ => True) ?_ ?_
      · refine SC.block ?_
        refine SC.seq ?_
        refine SC.region ?_
        refine SL.y (OV.loadF 2 sc81 rfl rfl rfl) rfl ?_
        refine SL.y (OV.nilCheck rfl) rfl ?_
        refine SL.y (OV.fld fo88_2 rfl) rfl ?_
        refine SL.y (OV.loadF 0 sc86 rfl rfl rfl) rfl ?_
        refine SL.y (OV.move rfl) rfl ?_
        refine SL.y (OV.idx k u86 hi hs rfl rfl rfl (by omega)) rfl ?_
        refine SL.y (OV.fld fo92_0 rfl) rfl ?_
        refine SL.y (OV.loadT 1 sc89 rfl rfl (by omega) (nc0 D _ k)) rfl ?_
        refine SL.y (OV.nilCheck rfl) rfl ?_
        refine SL.y (OV.fld fo28_1 rfl) rfl ?_
        refine SL.y (OV.loadOld sc26 rfl hout (hA.hP.fl k hk)) rfl ?_
        refine SL.y (OV.eql rfl rfl) rfl ?_
        refine SL.nil ?_
        refine SC.then ?_
        refine SC.condP rfl (fun hf => ?_) (fun hf => ?_)
        · skip
          refine SC.region ?_
          refine SL.y (OV.loadF 2 sc81 rfl rfl rfl) rfl ?_
          refine SL.y (OV.move rfl) rfl ?_
          refine SL.callR pf27 (args2 rfl rfl) (fun w' hM => call27 hk (hA.go hM)) rfl ?_
          intro z'
          refine SL.nil ?_
          rw [p0_hit hk1 hf]
          exact SE.nb (SE.toG z' trivial (by repeat' (first | exact trivial | refine ⟨rfl, ?_⟩)) (List.Sublist.refl _))
        · refine SC.skip ?_
          rw [p0_miss hf]
          exact SE.nb (SE.toG z trivial (by repeat' (first | exact trivial | refine ⟨rfl, ?_⟩)) (List.Sublist.refl _))
      intro z' _
      refine SC.region ?_
      refine SL.y (OV.move rfl) rfl ?_
      refine SL.y (OV.add rfl rfl (wrap_i64 (by omega) (by omega))) rfl ?_
      refine SL.y (OV.assign rfl) rfl ?_
      refine SL.nil ?_
      exact SE.roundAB (k + 1) z' ⟨by omega, by omega⟩ (by omega) (by repeat' (first | exact trivial | refine ⟨rfl, ?_⟩)) (List.Sublist.refl _)
    · have hk : k = D.n + 1 := by
        have hge' : ¬ ((k : Int) < ((D.n + 1 : Nat) : Int)) := hge
        omega
      subst hk
      refine SC.exit ?_
      refine SE.thenE (SE.thenE (SE.inBlock ?_))
      exact SE.toG z trivial (by repeat' (first | exact trivial | refine ⟨rfl, ?_⟩)) (List.Sublist.refl _)
  intro z _
  have hout0 := hA.hP.out 0 (by omega)
  refine SC.seq ?_
  refine SC.region ?_
  refine SL.y (OV.loadF 2 sc81 rfl rfl rfl) rfl ?_
  refine SL.callR (s := p0 D s (D.n + 1)) pf28 (args3 rfl rfl rfl) (fun w' hM => call28 (k := 0) (by omega) (hA.go hM)) rfl ?_
  intro z1
  refine SL.nil ?_
  refine SC.then ?_
  refine SC.seq ?_
  refine SC.region ?_
  refine SL.y (OV.loadF 2 sc81 rfl rfl rfl) rfl ?_
  refine SL.y (OV.nilCheck rfl) rfl ?_
  refine SL.y (OV.fld fo88_2 rfl) rfl ?_
  refine SL.y (OV.loadF 0 sc86 rfl rfl rfl) rfl ?_
  refine SL.y (OV.idx 0 u86 hi hs rfl rfl rfl (by omega)) rfl ?_
  refine SL.y (OV.fld fo92_0 rfl) rfl ?_
  refine SL.y (OV.loadT 1 sc89 rfl rfl (by omega) (nc0 D _ 0)) rfl ?_
  refine SL.y (OV.nilCheck rfl) rfl ?_
  refine SL.y (OV.fld fo28_1 rfl) rfl ?_
  refine SL.y (OV.loadOld sc26 rfl hout0 (hA.hP.fl 0 (by omega))) rfl ?_
  refine SL.y (OV.eql rfl rfl) rfl ?_
  refine SL.y (OV.assign rfl) rfl ?_
  refine SL.nil ?_
  refine SC.then ?_
  refine SC.seq ?_
  refine SC.seq ?_
  refine SC.region ?_
  refine SL.y (OV.loadF 2 sc81 rfl rfl rfl) rfl ?_
  refine SL.y (OV.nilCheck rfl) rfl ?_
  refine SL.y (OV.fld fo88_3 rfl) rfl ?_
  refine SL.y (OV.fld fo34_1 rfl) rfl ?_
  refine SL.y (OV.loadF 0 sc32 rfl rfl rfl) rfl ?_
  refine SL.y (OV.neq rfl rfl) rfl ?_
  refine SL.nil ?_
  refine SC.then ?_
  refine SC.cond rfl (fun e => absurd e (by decide)) (fun _ => ?_)
  refine SC.skip ?_
  refine SC.then ?_
  refine SC.seq ?_
  refine SC.region ?_
  refine SL.y (OV.loadF 2 sc81 rfl rfl rfl) rfl ?_
  refine SL.y (OV.move rfl) rfl ?_
  refine SL.callR (s := p0 D s (D.n + 1)) pf32 (args3 rfl rfl rfl) (fun w' hM => call32 (cr := crOf D) htl hD (hA.go hM)) rfl ?_
  intro z2
  refine SL.e (OE.alloc hi3 hz3) rfl ?_
  intro b4
  refine SL.s (OS.store1 3 sz3 rfl rfl rfl rfl (by show 0 < 1; decide)) ?_
  refine SL.nil ?_
  refine SC.then ?_
  refine SC.region ?_
  refine SL.y (OV.loadF 2 sc81 rfl rfl rfl) rfl ?_
  refine SL.y (OV.mkF args0' (args2 rfl rfl)) rfl ?_
  refine SL.y (OV.loadF 2 sc81 rfl rfl rfl) rfl ?_
  refine SL.y (OV.mkF (args1 rfl) args0') rfl ?_
  refine SL.callR (s := annSt (p0 D s (D.n + 1)) (crOf D)) pf29 (args4 rfl rfl rfl rfl) (fun w' hM => walk1 (till := tillOf D (crOf D)) hD ⟨hM.cell (j := 3) rfl rfl, hM.cell (j := 2) rfl rfl, Mm.apart hM (by simp), Mm.apart hM (by simp)⟩ (hA.go hM)) rfl ?_
  intro z3
  refine SL.nil ?_
  exact SE.end0 Yba.results20 (fun w' hM => ⟨z3, rfl, trivial, hM.weaken (((List.nil_sublist _).cons_cons _).cons_cons _)⟩)
theorem pf20 : plainFunc Yba.prog 20 = true := by kernel_rfl
end
end Go.Proofs.Ybulkdrci.A
