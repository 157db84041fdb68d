import Derived.Test.YbulkdrciAWalk2
namespace Go.Proofs.Ybulkdrci.A
open Go Go.RowKit Go.Proofs.Ybulkdrci.A.Sym
set_option linter.unusedVariables false
set_option linter.unusedSimpArgs false
set_option maxRecDepth 100000

theorem Sym.OE.front {P : Program} {env : Env} {w0 : World} {F : List Nat} {m : List Blk} {o : Oper} {σ : Type} {V : σ → Value} {B : σ → Blk} (h : OE P env w0 F m o V (fun s => m ++ [B s])) : OE P env w0 F m o V (fun s => B s :: m) :=
  ⟨fun a w hE hM => by
    obtain ⟨s, w', h1, h2⟩ := h.out a w hE hM
    exact ⟨s, w', h1, h2.perm (List.perm_append_singleton _ _)⟩⟩
theorem fcs3_one (a b : Nat) (c : Bool) : ∀ u ∈ fcs3 a b c, u.oneCell' = true := by
  intro u hu
  simp [fcs3] at hu
  rcases hu with rfl | rfl | rfl <;> rfl
section
variable {D : RD} {br bN : Nat} {cm : Bool} {x y : Int} {s : NSt} {w : World}
theorem p2_dc' {rc : Int} {s : NSt} {k m : Nat} (h : (s k).dn = true) : (p2 rc s m k).dc = (s k).dc := by
  unfold p2
  rw [if_neg (fun h2 => by rw [h] at h2; cases h2.2.2)]
theorem p2_k {rc : Int} {s : NSt} {k m : Nat} (h : (s k).dn = true) : step2 rc (p2 rc s m) k = p2 rc s m := by
  unfold step2
  rw [if_pos (by rw [p2_dn]; exact h)]
/-- walk, in phase two -/
theorem walk2 {c2 c3 c4 c5 c6 till : Nat} {mg rc : Int} (hD : D.n ≤ 100000) (ht : D.n < till) (hvt : ∀ k, 1 ≤ k → k ≤ D.n → (s k).vt ≠ 7) (hdc : ∀ k, 1 ≤ k → k ≤ D.n → (s k).dc = 0) (hC : Caps2 w br bN c2 c3 c4 c5 c6 till mg rc) (hA : At D br bN cm x y s w) :
    Does 29 #[pt br, (.func (.func 44) #[] #[pt c2, pt c3, pt c4, pt c5, pt c6] : Value), (.func (.func 46) #[] #[pt c2] : Value), (.func (.func 47) #[] #[pt c2] : Value)] w D br bN (.tuple #[]) cm (p2 rc s (D.n + 1)) := by
  obtain ⟨i92, hi, hz, hs, hb⟩ := info_parts info92
  obtain ⟨i121, hi1, hz1, hs1, hb1⟩ := info_parts info121
  have hPQ : PanicOk (bodyPost Yba.prog Yba.f29 (fun e w' => ∃ z : Int × Int, e = .returned (.tuple #[]) ∧ True ∧ Mm w [br, bN] [(br, rrow D bN cm z.1 z.2), (bN, nrow D (p2 rc s (D.n + 1)))] w')) := PanicOk.body
  refine Calls.of_SC (args := [pt br, (.func (.func 44) #[] #[pt c2, pt c3, pt c4, pt c5, pt c6] : Value), (.func (.func 46) #[] #[pt c2] : Value), (.func (.func 47) #[] #[pt c2] : Value)]) Yba.func29 rfl (by simp [Yba.f29]) hA.start ?_
  refine SC.seq ?_
  refine SC.region ?_
  refine SL.y (OV.build (parts2 rfl rfl) (bld121 0 1)) rfl ?_
  refine SL.e (OE.bsliceN (s := 3) (cs := #[.int .i64 0, .int .i64 1, .bool false]) u122 hi1 hz1 hs1 (by decide) (by decide) (parts1 rfl) (fill121 _ _ _)) rfl ?_
  intro bs0
  refine SL.y (OV.assign rfl) rfl ?_
  refine SL.nil ?_
  refine SC.then ?_
  refine SC.block ?_
  refine SC.loop (fun σ : W2 × (Nat × Nat × List Value) × (Int × Int) => [(8, .slice (some ⟨σ.2.1.1, 0, none⟩) σ.1.len σ.2.1.2.1), (0, pt br), (1, (.func (.func 44) #[] #[pt c2, pt c3, pt c4, pt c5, pt c6] : Value)), (2, (.func (.func 46) #[] #[pt c2] : Value)), (3, (.func (.func 47) #[] #[pt c2] : Value))]) (fun σ => [(br, rrow D bN cm σ.2.2.1 σ.2.2.2), (bN, nrow D (σ.1.st D.n rc s)), (σ.2.1.1, row 121 (σ.1.frs ++ σ.2.1.2.2))]) (fun σ => σ.1.ok D.n s ∧ σ.1.frs.length + σ.2.1.2.2.length = σ.2.1.2.1 * 3 ∧ σ.2.1.2.1 ≤ maxLen) (fun σ => σ.1.mu D.n) (.A 1 false, (bs0, 1, []), (x, y)) ⟨⟨by omega, by omega⟩, rfl, by show (1 : Nat) ≤ maxLen; decide⟩ (by repeat' (first | exact trivial | refine ⟨rfl, ?_⟩)) ?_ ?_
  · show [(br, rrow D bN cm x y), (bN, nrow D (p2 rc s 1)), (bs0, row 121 (fcs3 0 1 false ++ []))].Sublist _
    rw [p2_one]
    exact List.Sublist.refl _
  rintro ⟨p, ⟨bs, C, sp⟩, z⟩ ⟨hok, hlen, hcap⟩
  refine SC.seq ?_
  cases p with
  | F =>
    refine SC.seq ?_
    refine SC.region ?_
    refine SL.y (OV.move rfl) rfl ?_
    refine SL.y (OV.len u122 rfl) rfl ?_
    refine SL.y ((OV.gtr rfl rfl).no (by show ¬ (0 : Int) < 0; decide)) rfl ?_
    refine SL.nil ?_
    refine SC.then ?_
    refine SC.cond rfl (fun e => by cases e) (fun _ => ?_)
    refine SC.exit ?_
    refine SE.thenE (SE.thenE (SE.inBlock ?_))
    exact SE.end0 Yba.results29 (fun w' hM => ⟨z, rfl, trivial, hM.weaken (((List.nil_sublist _).cons_cons _).cons_cons _)⟩)
  | A k l =>
    obtain ⟨hk1, hk2⟩ := hok
    have hlen' : 3 + sp.length = C * 3 := hlen
    cases l with
    | false =>
      refine SC.weaken (env' := [(8, .slice (some ⟨bs, 0, none⟩) 1 C), (0, pt br), (1, (.func (.func 44) #[] #[pt c2, pt c3, pt c4, pt c5, pt c6] : Value)), (2, (.func (.func 46) #[] #[pt c2] : Value)), (3, (.func (.func 47) #[] #[pt c2] : Value))]) (m' := [(br, rrow D bN cm z.1 z.2), (bN, nrow D (p2 rc s k)), (bs, row 121 (fcs3 0 k false ++ sp))]) (by repeat' (first | exact trivial | refine ⟨rfl, ?_⟩)) (List.Sublist.refl _) ?_
      refine SC.seq ?_
      refine SC.region ?_
      refine SL.y (OV.move rfl) rfl ?_
      refine SL.y (OV.len u122 rfl) rfl ?_
      refine SL.y ((OV.gtr rfl rfl).yes (by decide)) rfl ?_
      refine SL.nil ?_
      refine SC.then ?_
      refine SC.cond rfl (fun _ => ?_) (fun e => by cases e)
      refine SC.skip ?_
      refine SC.then ?_
      refine SC.block ?_
      refine SC.seq ?_
      refine SC.region ?_
      refine SL.y (OV.move rfl) rfl ?_
      refine SL.y (OV.move rfl) rfl ?_
      refine SL.y (OV.len u122 rfl) rfl ?_
      refine SL.y (OV.sub (r := 0) rfl rfl (by rfl)) rfl ?_
      refine SL.y (OV.idx 0 u122 hi1 hs1 rfl rfl rfl (by decide)) rfl ?_
      refine SL.y (OV.assign rfl) rfl ?_
      refine SL.nil ?_
      refine SC.then ?_
      refine SC.seq ?_
      refine SC.seq ?_
      refine SC.quiet mixed (by kernel_rfl) ?_
      refine SQ.y (OV.move rfl) rfl ?_
      refine SQ.y (OV.nilCheck rfl) rfl ?_
      refine SQ.y (OV.fld fo121_1 rfl) rfl ?_
      refine SQ.y (OV.loadF 2 sc3 rfl rfl rfl) rfl ?_
      refine SQ.y (OV.move rfl) rfl ?_
      refine SQ.y (OV.nilCheck rfl) rfl ?_
      refine SQ.y (OV.fld fo88_2 rfl) rfl ?_
      refine SQ.y (OV.loadF 0 sc86 rfl rfl rfl) rfl ?_
      refine SQ.y (OV.move rfl) rfl ?_
      refine SQ.y (OV.nilCheck rfl) rfl ?_
      refine SQ.y (OV.fld fo121_0 rfl) rfl ?_
      refine SQ.y (OV.loadF 2 sc3 rfl rfl rfl) rfl ?_
      refine SQ.y (OV.idx 0 u86 hi hs rfl rfl rfl (by omega)) rfl ?_
      refine SQ.y (OV.fld fo92_1 rfl) rfl ?_
      refine SQ.y (OV.loadT 1 sc3 rfl rfl (by omega) (nc1 D _ 0)) rfl ?_
      refine SQ.y (OV.eql rfl rfl) rfl ?_
      refine SQ.nil ?_
      refine SC.then ?_
      rw [endOf_zero]
      refine SC.condP rfl (fun heq => ?_) (fun hne => ?_)
      · have hk : k = D.n + 1 := by omega
        subst hk
        refine SC.seq ?_
        refine SC.seq ?_
        refine SC.region ?_
        refine SL.y (OV.move rfl) rfl ?_
        refine SL.y (OV.neqFn fn119 rfl) rfl ?_
        refine SL.y (OV.move rfl) rfl ?_
        refine SL.yg rfl rfl (OV.move rfl) rfl ?_
        refine SL.yg rfl rfl (OV.nilCheck rfl) rfl ?_
        refine SL.yg rfl rfl (OV.fld fo121_2 rfl) rfl ?_
        refine SL.yg rfl rfl (OV.loadF 2 sc4 rfl rfl rfl) rfl ?_
        refine SL.yg rfl rfl (OV.not rfl) rfl ?_
        refine SL.y (OV.pickT rfl rfl) rfl ?_
        refine SL.nil ?_
        refine SC.then ?_
        refine SC.cond rfl (fun _ => ?_) (fun e => absurd e (by decide))
        refine SC.seq ?_
        refine SC.region ?_
        refine SL.y (OV.move rfl) rfl ?_
        refine SL.y (OV.move rfl) rfl ?_
        refine SL.y (OV.move rfl) rfl ?_
        refine SL.y (OV.nilCheck rfl) rfl ?_
        refine SL.y (OV.fld fo121_0 rfl) rfl ?_
        refine SL.y (OV.loadF 2 sc3 rfl rfl rfl) rfl ?_
        refine SL.y (OV.add (r := 1) rfl rfl (by decide)) rfl ?_
        refine SL.y (OV.nilCheck rfl) rfl ?_
        refine SL.y (OV.fld fo121_1 rfl) rfl ?_
        refine SL.s (OS.store1 2 sz3 rfl rfl rfl rfl (by simp only [List.length_append]; show _ < 3 + _; omega)) ?_
        refine SL.y (OV.nilCheck rfl) rfl ?_
        refine SL.y (OV.fld fo121_2 rfl) rfl ?_
        refine SL.s (OS.store1 2 sz4 rfl rfl rfl rfl (by rw [List.length_set]; simp only [List.length_append]; show _ < 3 + _; omega)) ?_
        refine SL.nil ?_
        refine SC.then ?_
        refine SC.exit ?_
        repeat (refine SE.thenE ?_)
        refine SE.inBlock ?_
        exact SE.round (.A 1 true, (bs, C, sp), z) ⟨⟨by omega, by omega⟩, hlen, hcap⟩ (by show 1 + (D.n + 1 - 1) < D.n + 3 + 4 * (D.n + 1 - (D.n + 1)); omega) (by repeat' (first | exact trivial | refine ⟨rfl, ?_⟩)) (List.Sublist.refl _)
      · have hk : k ≤ D.n := by omega
        refine SC.skip ?_
        refine SC.then ?_
        refine SC.seq ?_
        refine SC.quiet mixed (by kernel_rfl) ?_
        refine SQ.y (OV.move rfl) rfl ?_
        refine SQ.y (OV.nilCheck rfl) rfl ?_
        refine SQ.y (OV.fld fo121_1 rfl) rfl ?_
        refine SQ.y (OV.loadF 2 sc3 rfl rfl rfl) rfl ?_
        refine SQ.y (OV.move rfl) rfl ?_
        refine SQ.y (OV.nilCheck rfl) rfl ?_
        refine SQ.y (OV.fld fo121_0 rfl) rfl ?_
        refine SQ.y (OV.loadF 2 sc3 rfl rfl rfl) rfl ?_
        refine SQ.y (OV.assign rfl) rfl ?_
        refine SQ.y (OV.assign rfl) rfl ?_
        refine SQ.nil ?_
        refine SC.then ?_
        refine SC.seq ?_
        refine SC.region ?_
        refine SL.y (OV.move rfl) rfl ?_
        refine SL.y (OV.move rfl) rfl ?_
        refine SL.y (OV.nilCheck rfl) rfl ?_
        refine SL.y (OV.fld fo88_2 rfl) rfl ?_
        refine SL.y (OV.loadF 0 sc86 rfl rfl rfl) rfl ?_
        refine SL.y (OV.move rfl) rfl ?_
        refine SL.y (OV.idx k u86 hi hs rfl rfl rfl (by omega)) rfl ?_
        refine SL.y (OV.fld fo92_1 rfl) rfl ?_
        refine SL.y (OV.loadT 1 sc3 rfl rfl (by omega) (nc1 D _ k)) rfl ?_
        refine SL.y (OV.nilCheck rfl) rfl ?_
        refine SL.y (OV.fld fo121_1 rfl) rfl ?_
        refine SL.s (OS.store1 2 sz3 rfl rfl rfl rfl (by simp only [List.length_append]; show _ < 3 + _; omega)) ?_
        refine SL.nil ?_
        refine SC.then ?_
        rw [endOf_pos hk1]
        refine SC.seq ?_
        refine SC.seq ?_
        refine SC.quiet mixed (by kernel_rfl) ?_
        refine SQ.y (OV.move rfl) rfl ?_
        refine SQ.y (OV.neqFn fn119 rfl) rfl ?_
        refine SQ.y (OV.move rfl) rfl ?_
        refine SQ.yg rfl rfl (OV.move rfl) rfl ?_
        refine SQ.yg rfl rfl (OV.move rfl) rfl ?_
        refine SQ.callVg (v := .bool (s k).dn) rfl rfl pf47 rfl (fun ρ hρ => by rw [args1 rfl ρ hρ]; rfl) (fun w' hM => (call47 (k := k) hk (Mm.oldCell hM hC.o2 hC.h2) (hA.go hM)).mono fun e w'' ⟨he, hM'⟩ => ⟨by rw [he, p2_dn], hM'⟩) rfl ?_
        refine SQ.yg rfl rfl (OV.move rfl) rfl ?_
        refine SQ.yg rfl rfl (OV.nilCheck rfl) rfl ?_
        refine SQ.yg rfl rfl (OV.fld fo121_2 rfl) rfl ?_
        refine SQ.yg rfl rfl (OV.loadF 2 sc4 rfl rfl rfl) rfl ?_
        refine SQ.yg rfl rfl (OV.neqB u4 rfl rfl) rfl ?_
        refine SQ.y (OV.pickT rfl rfl) rfl ?_
        refine SQ.nil ?_
        refine SC.then ?_
        cases hdn : (s k).dn with
        | true =>
          refine SC.cond rfl (fun _ => ?_) (fun e => absurd e (by decide))
          refine SC.exit ?_
          repeat (refine SE.thenE ?_)
          refine SE.inBlock ?_
          rw [p2_down (rc := rc) hdn]
          exact SE.round (.A (k + 1) false, (bs, C, sp), z) ⟨⟨by omega, by omega⟩, hlen, hcap⟩ (by show D.n + 3 + 4 * (D.n + 1 - (k + 1)) < D.n + 3 + 4 * (D.n + 1 - k); omega) (by repeat' (first | exact trivial | refine ⟨rfl, ?_⟩)) (List.Sublist.refl _)
        | false =>
          refine SC.cond rfl (fun e => absurd e (by decide)) (fun _ => ?_)
          refine SC.skip ?_
          refine SC.then ?_
          refine SC.seq ?_
          refine SC.region ?_
          refine SL.y (OV.move rfl) rfl ?_
          refine SL.y (OV.move rfl) rfl ?_
          refine SL.y (OV.move rfl) rfl ?_
          refine SL.callV (σ := Int × Int) (V := fun _ => .bool true) (M := fun z => [(br, rrow D bN cm z.1 z.2), (bN, nrow D (p2 rc s (k + 1))), (bs, row 121 (fcs3 0 (k + 1) false ++ sp))]) (G := fun _ => True) pf44 rfl (fun ρ hρ => by rw [args2 rfl rfl ρ hρ]; rfl) (fun w' hM => (call44 (k := k) hk1 hk hD ht (by rw [p2_vt]; exact hvt k hk1 hk) (by rw [p2_dc]; exact hdc k hk1 hk) (hC.go hM) (hA.go hM)).mono fun e w'' ⟨z', he, _, hM'⟩ => ⟨z', by rw [he, p2_dn, hdn]; rfl, trivial, by have h2 := Mm.callR hM hM'; unfold step2 at h2; rw [if_neg (by rw [p2_dn, hdn]; decide), p2_up hk1 hdn] at h2; exact h2⟩) rfl ?_
          intro z' _
          refine SL.nil ?_
          refine SC.then ?_
          refine SC.cond rfl (fun _ => ?_) (fun e => by cases e)
          refine SC.region ?_
          refine SL.y (OV.move rfl) rfl ?_
          refine SL.y (OV.move rfl) rfl ?_
          refine SL.y (OV.move rfl) rfl ?_
          refine SL.y (OV.add (r := ((k + 1 : Nat) : Int)) rfl rfl (by rw [wrap_i64 (by omega) (by omega)]; omega)) rfl ?_
          refine SL.y (OV.build (parts2 rfl rfl) (bld121 _ _)) rfl ?_
          refine SL.e (OE.bsliceN (s := 3) (cs := #[.int .i64 k, .int .i64 ((k + 1 : Nat) : Int), .bool false]) u122 hi1 hz1 hs1 (by decide) (by decide) (parts1 rfl) (fill121 _ _ _)) rfl ?_
          intro nb
          refine SL.perm (m' := [(bs, row 121 (fcs3 0 (k + 1) false ++ sp)), (br, rrow D bN cm z'.1 z'.2), (bN, nrow D (p2 rc s (k + 1))), (nb, row 121 (fcs3 k (k + 1) false))]) ?_ ?_
          · exact (List.Perm.cons _ (List.Perm.swap _ _ _)).trans (List.Perm.swap _ _ _)
          refine SL.e (OE.appG (cs := fcs3 0 (k + 1) false) (sp := sp) (ys := fcs3 k (k + 1) false) u122 hi1 hz1 hs1 rfl rfl rfl (List.Perm.refl _) (Src.own0 3 rfl) rfl (fcs3_one _ _ _) rfl hlen hcap (by decide) (by rw [hb1]; decide)) rfl ?_
          intro st
          refine SL.y (OV.assign rfl) rfl ?_
          refine SL.nil ?_
          refine SE.nb ?_
          refine SE.weaken (env' := [(8, .slice (some ⟨st.1.1, 0, none⟩) 2 st.1.2.1), (0, pt br), (1, (.func (.func 44) #[] #[pt c2, pt c3, pt c4, pt c5, pt c6] : Value)), (2, (.func (.func 46) #[] #[pt c2] : Value)), (3, (.func (.func 47) #[] #[pt c2] : Value))]) (m' := [(st.1.1, row 121 (fcs3 0 (k + 1) false ++ fcs3 k (k + 1) false ++ st.1.2.2)), (br, rrow D bN cm z'.1 z'.2), (bN, nrow D (p2 rc s (k + 1)))]) (by repeat' (first | exact trivial | refine ⟨rfl, ?_⟩)) (((List.nil_sublist _).cons_cons _).cons_cons _ |>.cons_cons _) ?_
          refine SE.perm (m' := [(br, rrow D bN cm z'.1 z'.2), (bN, nrow D (p2 rc s (k + 1))), (st.1.1, row 121 (fcs3 0 (k + 1) false ++ fcs3 k (k + 1) false ++ st.1.2.2))]) ?_ ?_
          · exact (List.Perm.swap _ _ _).trans (List.Perm.cons _ (List.Perm.swap _ _ _))
          exact SE.round (.B k false, (st.1.1, st.1.2.1, st.1.2.2), z') ⟨⟨hk1, hk, hdn⟩, st.2.2.2, st.2.1⟩ (by show D.n + 3 + 4 * (D.n - k) + 2 < D.n + 3 + 4 * (D.n + 1 - k); omega) (by repeat' (first | exact trivial | refine ⟨rfl, ?_⟩)) (List.Sublist.refl _)
    | true =>
      refine SC.weaken (env' := [(8, .slice (some ⟨bs, 0, none⟩) 1 C), (0, pt br), (1, (.func (.func 44) #[] #[pt c2, pt c3, pt c4, pt c5, pt c6] : Value)), (2, (.func (.func 46) #[] #[pt c2] : Value)), (3, (.func (.func 47) #[] #[pt c2] : Value))]) (m' := [(br, rrow D bN cm z.1 z.2), (bN, nrow D (p2 rc s (D.n + 1))), (bs, row 121 (fcs3 0 k true ++ sp))]) (by repeat' (first | exact trivial | refine ⟨rfl, ?_⟩)) (List.Sublist.refl _) ?_
      refine SC.seq ?_
      refine SC.region ?_
      refine SL.y (OV.move rfl) rfl ?_
      refine SL.y (OV.len u122 rfl) rfl ?_
      refine SL.y ((OV.gtr rfl rfl).yes (by decide)) rfl ?_
      refine SL.nil ?_
      refine SC.then ?_
      refine SC.cond rfl (fun _ => ?_) (fun e => by cases e)
      refine SC.skip ?_
      refine SC.then ?_
      refine SC.block ?_
      refine SC.seq ?_
      refine SC.region ?_
      refine SL.y (OV.move rfl) rfl ?_
      refine SL.y (OV.move rfl) rfl ?_
      refine SL.y (OV.len u122 rfl) rfl ?_
      refine SL.y (OV.sub (r := 0) rfl rfl (by rfl)) rfl ?_
      refine SL.y (OV.idx 0 u122 hi1 hs1 rfl rfl rfl (by decide)) rfl ?_
      refine SL.y (OV.assign rfl) rfl ?_
      refine SL.nil ?_
      refine SC.then ?_
      refine SC.seq ?_
      refine SC.seq ?_
      refine SC.quiet mixed (by kernel_rfl) ?_
      refine SQ.y (OV.move rfl) rfl ?_
      refine SQ.y (OV.nilCheck rfl) rfl ?_
      refine SQ.y (OV.fld fo121_1 rfl) rfl ?_
      refine SQ.y (OV.loadF 2 sc3 rfl rfl rfl) rfl ?_
      refine SQ.y (OV.move rfl) rfl ?_
      refine SQ.y (OV.nilCheck rfl) rfl ?_
      refine SQ.y (OV.fld fo88_2 rfl) rfl ?_
      refine SQ.y (OV.loadF 0 sc86 rfl rfl rfl) rfl ?_
      refine SQ.y (OV.move rfl) rfl ?_
      refine SQ.y (OV.nilCheck rfl) rfl ?_
      refine SQ.y (OV.fld fo121_0 rfl) rfl ?_
      refine SQ.y (OV.loadF 2 sc3 rfl rfl rfl) rfl ?_
      refine SQ.y (OV.idx 0 u86 hi hs rfl rfl rfl (by omega)) rfl ?_
      refine SQ.y (OV.fld fo92_1 rfl) rfl ?_
      refine SQ.y (OV.loadT 1 sc3 rfl rfl (by omega) (nc1 D _ 0)) rfl ?_
      refine SQ.y (OV.eql rfl rfl) rfl ?_
      refine SQ.nil ?_
      refine SC.then ?_
      rw [endOf_zero]
      refine SC.condP rfl (fun heq => ?_) (fun hne => ?_)
      · have hk : k = D.n + 1 := by omega
        subst hk
        refine SC.seq ?_
        refine SC.seq ?_
        refine SC.region ?_
        refine SL.y (OV.move rfl) rfl ?_
        refine SL.y (OV.neqFn fn119 rfl) rfl ?_
        refine SL.y (OV.move rfl) rfl ?_
        refine SL.yg rfl rfl (OV.move rfl) rfl ?_
        refine SL.yg rfl rfl (OV.nilCheck rfl) rfl ?_
        refine SL.yg rfl rfl (OV.fld fo121_2 rfl) rfl ?_
        refine SL.yg rfl rfl (OV.loadF 2 sc4 rfl rfl rfl) rfl ?_
        refine SL.yg rfl rfl (OV.not rfl) rfl ?_
        refine SL.y (OV.pickT rfl rfl) rfl ?_
        refine SL.nil ?_
        refine SC.then ?_
        refine SC.cond rfl (fun e => absurd e (by decide)) (fun _ => ?_)
        refine SC.skip ?_
        refine SC.then ?_
        refine SC.seq ?_
        refine SC.region ?_
        refine SL.y (OV.move rfl) rfl ?_
        refine SL.y (OV.move rfl) rfl ?_
        refine SL.y (OV.len u122 rfl) rfl ?_
        refine SL.y (OV.sub (r := 0) rfl rfl (by rfl)) rfl ?_
        refine SL.y (OV.sliceTo 0 u122 hi1 rfl rfl rfl (by omega)) rfl ?_
        refine SL.y (OV.assign rfl) rfl ?_
        refine SL.nil ?_
        refine SC.then ?_
        refine SC.seq ?_
        refine SC.seq ?_
        refine SC.region ?_
        refine SL.y (OV.move rfl) rfl ?_
        refine SL.y (OV.len u122 rfl) rfl ?_
        refine SL.y ((OV.gtr rfl rfl).no (by decide)) rfl ?_
        refine SL.y (OV.move rfl) rfl ?_
        refine SL.skip rfl rfl rfl ?_
        refine SL.skip rfl rfl rfl ?_
        refine SL.y (OV.pickF rfl rfl) rfl ?_
        refine SL.nil ?_
        refine SC.then ?_
        refine SC.cond rfl (fun e => by cases e) (fun _ => ?_)
        refine SC.skip ?_
        refine SC.then ?_
        refine SC.exit ?_
        repeat (refine SE.thenE ?_)
        refine SE.inBlock ?_
        exact SE.round (.F, (bs, C, fcs3 0 (D.n + 1) true ++ sp), z) ⟨trivial, by show 0 + (sp.length + 1 + 1 + 1) = C * 3; omega, hcap⟩ (by show 0 < 1 + _; omega) (by repeat' (first | exact trivial | refine ⟨rfl, ?_⟩)) (List.Sublist.refl _)
      · have hk : k ≤ D.n := by omega
        refine SC.skip ?_
        refine SC.then ?_
        refine SC.seq ?_
        refine SC.quiet mixed (by kernel_rfl) ?_
        refine SQ.y (OV.move rfl) rfl ?_
        refine SQ.y (OV.nilCheck rfl) rfl ?_
        refine SQ.y (OV.fld fo121_1 rfl) rfl ?_
        refine SQ.y (OV.loadF 2 sc3 rfl rfl rfl) rfl ?_
        refine SQ.y (OV.move rfl) rfl ?_
        refine SQ.y (OV.nilCheck rfl) rfl ?_
        refine SQ.y (OV.fld fo121_0 rfl) rfl ?_
        refine SQ.y (OV.loadF 2 sc3 rfl rfl rfl) rfl ?_
        refine SQ.y (OV.assign rfl) rfl ?_
        refine SQ.y (OV.assign rfl) rfl ?_
        refine SQ.nil ?_
        refine SC.then ?_
        refine SC.seq ?_
        refine SC.region ?_
        refine SL.y (OV.move rfl) rfl ?_
        refine SL.y (OV.move rfl) rfl ?_
        refine SL.y (OV.nilCheck rfl) rfl ?_
        refine SL.y (OV.fld fo88_2 rfl) rfl ?_
        refine SL.y (OV.loadF 0 sc86 rfl rfl rfl) rfl ?_
        refine SL.y (OV.move rfl) rfl ?_
        refine SL.y (OV.idx k u86 hi hs rfl rfl rfl (by omega)) rfl ?_
        refine SL.y (OV.fld fo92_1 rfl) rfl ?_
        refine SL.y (OV.loadT 1 sc3 rfl rfl (by omega) (nc1 D _ k)) rfl ?_
        refine SL.y (OV.nilCheck rfl) rfl ?_
        refine SL.y (OV.fld fo121_1 rfl) rfl ?_
        refine SL.s (OS.store1 2 sz3 rfl rfl rfl rfl (by simp only [List.length_append]; show _ < 3 + _; omega)) ?_
        refine SL.nil ?_
        refine SC.then ?_
        rw [endOf_pos hk1]
        refine SC.seq ?_
        refine SC.seq ?_
        refine SC.quiet mixed (by kernel_rfl) ?_
        refine SQ.y (OV.move rfl) rfl ?_
        refine SQ.y (OV.neqFn fn119 rfl) rfl ?_
        refine SQ.y (OV.move rfl) rfl ?_
        refine SQ.yg rfl rfl (OV.move rfl) rfl ?_
        refine SQ.yg rfl rfl (OV.move rfl) rfl ?_
        refine SQ.callVg (v := .bool (s k).dn) rfl rfl pf47 rfl (fun ρ hρ => by rw [args1 rfl ρ hρ]; rfl) (fun w' hM => (call47 (k := k) hk (Mm.oldCell hM hC.o2 hC.h2) (hA.go hM)).mono fun e w'' ⟨he, hM'⟩ => ⟨by rw [he, p2_dn], hM'⟩) rfl ?_
        refine SQ.yg rfl rfl (OV.move rfl) rfl ?_
        refine SQ.yg rfl rfl (OV.nilCheck rfl) rfl ?_
        refine SQ.yg rfl rfl (OV.fld fo121_2 rfl) rfl ?_
        refine SQ.yg rfl rfl (OV.loadF 2 sc4 rfl rfl rfl) rfl ?_
        refine SQ.yg rfl rfl (OV.neqB u4 rfl rfl) rfl ?_
        refine SQ.y (OV.pickT rfl rfl) rfl ?_
        refine SQ.nil ?_
        refine SC.then ?_
        cases hdn : (s k).dn with
        | true =>
          refine SC.cond rfl (fun e => absurd e (by decide)) (fun _ => ?_)
          refine SC.skip ?_
          refine SC.then ?_
          refine SC.seq ?_
          refine SC.region ?_
          refine SL.y (OV.move rfl) rfl ?_
          refine SL.y (OV.move rfl) rfl ?_
          refine SL.y (OV.move rfl) rfl ?_
          refine SL.callV (σ := Int × Int) (V := fun _ => .bool false) (M := fun z => [(br, rrow D bN cm z.1 z.2), (bN, nrow D (p2 rc s (D.n + 1))), (bs, row 121 (fcs3 0 (k + 1) true ++ sp))]) (G := fun _ => True) pf44 rfl (fun ρ hρ => by rw [args2 rfl rfl ρ hρ]; rfl) (fun w' hM => (call44 (k := k) hk1 hk hD ht (by rw [p2_vt]; exact hvt k hk1 hk) (by rw [p2_dc' hdn]; exact hdc k hk1 hk) (hC.go hM) (hA.go hM)).mono fun e w'' ⟨z', he, _, hM'⟩ => ⟨z', by rw [he, p2_dn, hdn]; rfl, trivial, by have h2 := Mm.callR hM hM'; rw [p2_k hdn] at h2; exact h2⟩) rfl ?_
          intro z' _
          refine SL.nil ?_
          refine SC.then ?_
          refine SC.cond rfl (fun e => by cases e) (fun _ => ?_)
          refine SC.skip ?_
          refine SE.nb ?_
          exact SE.round (.A (k + 1) true, (bs, C, sp), z') ⟨⟨by omega, by omega⟩, hlen, hcap⟩ (by show 1 + (D.n + 1 - (k + 1)) < 1 + (D.n + 1 - k); omega) (by repeat' (first | exact trivial | refine ⟨rfl, ?_⟩)) (List.Sublist.refl _)
        | false =>
          refine SC.cond rfl (fun _ => ?_) (fun e => absurd e (by decide))
          refine SC.exit ?_
          repeat (refine SE.thenE ?_)
          refine SE.inBlock ?_
          exact SE.round (.A (k + 1) true, (bs, C, sp), z) ⟨⟨by omega, by omega⟩, hlen, hcap⟩ (by show 1 + (D.n + 1 - (k + 1)) < 1 + (D.n + 1 - k); omega) (by repeat' (first | exact trivial | refine ⟨rfl, ?_⟩)) (List.Sublist.refl _)
  | B k l =>
    obtain ⟨hk1, hk2, hdn⟩ := hok
    have hlen' : 6 + sp.length = C * 3 := hlen
    cases l with
    | false =>
      refine SC.weaken (env' := [(8, .slice (some ⟨bs, 0, none⟩) 2 C), (0, pt br), (1, (.func (.func 44) #[] #[pt c2, pt c3, pt c4, pt c5, pt c6] : Value)), (2, (.func (.func 46) #[] #[pt c2] : Value)), (3, (.func (.func 47) #[] #[pt c2] : Value))]) (m' := [(br, rrow D bN cm z.1 z.2), (bN, nrow D (p2 rc s (k + 1))), (bs, row 121 (fcs3 0 (k + 1) false ++ fcs3 k (k + 1) false ++ sp))]) (by repeat' (first | exact trivial | refine ⟨rfl, ?_⟩)) (List.Sublist.refl _) ?_
      refine SC.seq ?_
      refine SC.region ?_
      refine SL.y (OV.move rfl) rfl ?_
      refine SL.y (OV.len u122 rfl) rfl ?_
      refine SL.y ((OV.gtr rfl rfl).yes (by decide)) rfl ?_
      refine SL.nil ?_
      refine SC.then ?_
      refine SC.cond rfl (fun _ => ?_) (fun e => by cases e)
      refine SC.skip ?_
      refine SC.then ?_
      refine SC.block ?_
      refine SC.seq ?_
      refine SC.region ?_
      refine SL.y (OV.move rfl) rfl ?_
      refine SL.y (OV.move rfl) rfl ?_
      refine SL.y (OV.len u122 rfl) rfl ?_
      refine SL.y (OV.sub (r := 1) rfl rfl (by rfl)) rfl ?_
      refine SL.y (OV.idx 1 u122 hi1 hs1 rfl rfl rfl (by decide)) rfl ?_
      refine SL.y (OV.assign rfl) rfl ?_
      refine SL.nil ?_
      refine SC.then ?_
      refine SC.seq ?_
      refine SC.seq ?_
      refine SC.quiet mixed (by kernel_rfl) ?_
      refine SQ.y (OV.move rfl) rfl ?_
      refine SQ.y (OV.nilCheck rfl) rfl ?_
      refine SQ.y (OV.fld fo121_1 rfl) rfl ?_
      refine SQ.y (OV.loadF 2 sc3 rfl rfl rfl) rfl ?_
      refine SQ.y (OV.move rfl) rfl ?_
      refine SQ.y (OV.nilCheck rfl) rfl ?_
      refine SQ.y (OV.fld fo88_2 rfl) rfl ?_
      refine SQ.y (OV.loadF 0 sc86 rfl rfl rfl) rfl ?_
      refine SQ.y (OV.move rfl) rfl ?_
      refine SQ.y (OV.nilCheck rfl) rfl ?_
      refine SQ.y (OV.fld fo121_0 rfl) rfl ?_
      refine SQ.y (OV.loadF 2 sc3 rfl rfl rfl) rfl ?_
      refine SQ.y (OV.idx k u86 hi hs rfl rfl rfl (by omega)) rfl ?_
      refine SQ.y (OV.fld fo92_1 rfl) rfl ?_
      refine SQ.y (OV.loadT 1 sc3 rfl rfl (by omega) (nc1 D _ k)) rfl ?_
      refine SQ.y (OV.eql rfl rfl) rfl ?_
      refine SQ.nil ?_
      refine SC.then ?_
      rw [endOf_pos hk1]
      refine SC.condP rfl (fun heq => ?_) (fun hne => absurd rfl hne)
      refine SC.seq ?_
      refine SC.seq ?_
      refine SC.region ?_
      refine SL.y (OV.move rfl) rfl ?_
      refine SL.y (OV.neqFn fn119 rfl) rfl ?_
      refine SL.y (OV.move rfl) rfl ?_
      refine SL.yg rfl rfl (OV.move rfl) rfl ?_
      refine SL.yg rfl rfl (OV.nilCheck rfl) rfl ?_
      refine SL.yg rfl rfl (OV.fld fo121_2 rfl) rfl ?_
      refine SL.yg rfl rfl (OV.loadF 2 sc4 rfl rfl rfl) rfl ?_
      refine SL.yg rfl rfl (OV.not rfl) rfl ?_
      refine SL.y (OV.pickT rfl rfl) rfl ?_
      refine SL.nil ?_
      refine SC.then ?_
      refine SC.cond rfl (fun _ => ?_) (fun e => absurd e (by decide))
      refine SC.seq ?_
      refine SC.region ?_
      refine SL.y (OV.move rfl) rfl ?_
      refine SL.y (OV.move rfl) rfl ?_
      refine SL.y (OV.move rfl) rfl ?_
      refine SL.y (OV.nilCheck rfl) rfl ?_
      refine SL.y (OV.fld fo121_0 rfl) rfl ?_
      refine SL.y (OV.loadF 2 sc3 rfl rfl rfl) rfl ?_
      refine SL.y (OV.add (r := ((k + 1 : Nat) : Int)) rfl rfl (by rw [wrap_i64 (by omega) (by omega)]; omega)) rfl ?_
      refine SL.y (OV.nilCheck rfl) rfl ?_
      refine SL.y (OV.fld fo121_1 rfl) rfl ?_
      refine SL.s (OS.store1 2 sz3 rfl rfl rfl rfl (by simp only [List.length_append]; show _ < 3 + 3 + _; omega)) ?_
      refine SL.y (OV.nilCheck rfl) rfl ?_
      refine SL.y (OV.fld fo121_2 rfl) rfl ?_
      refine SL.s (OS.store1 2 sz4 rfl rfl rfl rfl (by rw [List.length_set]; simp only [List.length_append]; show _ < 3 + 3 + _; omega)) ?_
      refine SL.nil ?_
      refine SC.then ?_
      refine SC.exit ?_
      repeat (refine SE.thenE ?_)
      refine SE.inBlock ?_
      exact SE.round (.B k true, (bs, C, sp), z) ⟨⟨hk1, hk2, hdn⟩, hlen, hcap⟩ (by show D.n + 3 + 4 * (D.n - k) + 1 < D.n + 3 + 4 * (D.n - k) + 2; omega) (by repeat' (first | exact trivial | refine ⟨rfl, ?_⟩)) (List.Sublist.refl _)
    | true =>
      refine SC.weaken (env' := [(8, .slice (some ⟨bs, 0, none⟩) 2 C), (0, pt br), (1, (.func (.func 44) #[] #[pt c2, pt c3, pt c4, pt c5, pt c6] : Value)), (2, (.func (.func 46) #[] #[pt c2] : Value)), (3, (.func (.func 47) #[] #[pt c2] : Value))]) (m' := [(br, rrow D bN cm z.1 z.2), (bN, nrow D (p2 rc s (k + 1))), (bs, row 121 (fcs3 0 (k + 1) false ++ fcs3 k (k + 1) true ++ sp))]) (by repeat' (first | exact trivial | refine ⟨rfl, ?_⟩)) (List.Sublist.refl _) ?_
      refine SC.seq ?_
      refine SC.region ?_
      refine SL.y (OV.move rfl) rfl ?_
      refine SL.y (OV.len u122 rfl) rfl ?_
      refine SL.y ((OV.gtr rfl rfl).yes (by decide)) rfl ?_
      refine SL.nil ?_
      refine SC.then ?_
      refine SC.cond rfl (fun _ => ?_) (fun e => by cases e)
      refine SC.skip ?_
      refine SC.then ?_
      refine SC.block ?_
      refine SC.seq ?_
      refine SC.region ?_
      refine SL.y (OV.move rfl) rfl ?_
      refine SL.y (OV.move rfl) rfl ?_
      refine SL.y (OV.len u122 rfl) rfl ?_
      refine SL.y (OV.sub (r := 1) rfl rfl (by rfl)) rfl ?_
      refine SL.y (OV.idx 1 u122 hi1 hs1 rfl rfl rfl (by decide)) rfl ?_
      refine SL.y (OV.assign rfl) rfl ?_
      refine SL.nil ?_
      refine SC.then ?_
      refine SC.seq ?_
      refine SC.seq ?_
      refine SC.quiet mixed (by kernel_rfl) ?_
      refine SQ.y (OV.move rfl) rfl ?_
      refine SQ.y (OV.nilCheck rfl) rfl ?_
      refine SQ.y (OV.fld fo121_1 rfl) rfl ?_
      refine SQ.y (OV.loadF 2 sc3 rfl rfl rfl) rfl ?_
      refine SQ.y (OV.move rfl) rfl ?_
      refine SQ.y (OV.nilCheck rfl) rfl ?_
      refine SQ.y (OV.fld fo88_2 rfl) rfl ?_
      refine SQ.y (OV.loadF 0 sc86 rfl rfl rfl) rfl ?_
      refine SQ.y (OV.move rfl) rfl ?_
      refine SQ.y (OV.nilCheck rfl) rfl ?_
      refine SQ.y (OV.fld fo121_0 rfl) rfl ?_
      refine SQ.y (OV.loadF 2 sc3 rfl rfl rfl) rfl ?_
      refine SQ.y (OV.idx k u86 hi hs rfl rfl rfl (by omega)) rfl ?_
      refine SQ.y (OV.fld fo92_1 rfl) rfl ?_
      refine SQ.y (OV.loadT 1 sc3 rfl rfl (by omega) (nc1 D _ k)) rfl ?_
      refine SQ.y (OV.eql rfl rfl) rfl ?_
      refine SQ.nil ?_
      refine SC.then ?_
      rw [endOf_pos hk1]
      refine SC.condP rfl (fun heq => ?_) (fun hne => absurd rfl hne)
      refine SC.seq ?_
      refine SC.seq ?_
      refine SC.region ?_
      refine SL.y (OV.move rfl) rfl ?_
      refine SL.y (OV.neqFn fn119 rfl) rfl ?_
      refine SL.y (OV.move rfl) rfl ?_
      refine SL.yg rfl rfl (OV.move rfl) rfl ?_
      refine SL.yg rfl rfl (OV.nilCheck rfl) rfl ?_
      refine SL.yg rfl rfl (OV.fld fo121_2 rfl) rfl ?_
      refine SL.yg rfl rfl (OV.loadF 2 sc4 rfl rfl rfl) rfl ?_
      refine SL.yg rfl rfl (OV.not rfl) rfl ?_
      refine SL.y (OV.pickT rfl rfl) rfl ?_
      refine SL.nil ?_
      refine SC.then ?_
      refine SC.cond rfl (fun e => absurd e (by decide)) (fun _ => ?_)
      refine SC.skip ?_
      refine SC.then ?_
      refine SC.seq ?_
      refine SC.region ?_
      refine SL.y (OV.move rfl) rfl ?_
      refine SL.y (OV.move rfl) rfl ?_
      refine SL.y (OV.len u122 rfl) rfl ?_
      refine SL.y (OV.sub (r := 1) rfl rfl (by rfl)) rfl ?_
      refine SL.y (OV.sliceTo 1 u122 hi1 rfl rfl rfl (by omega)) rfl ?_
      refine SL.y (OV.assign rfl) rfl ?_
      refine SL.nil ?_
      refine SC.then ?_
      refine SC.seq ?_
      refine SC.seq ?_
      refine SC.region ?_
      refine SL.y (OV.move rfl) rfl ?_
      refine SL.y (OV.len u122 rfl) rfl ?_
      refine SL.y ((OV.gtr rfl rfl).yes (by decide)) rfl ?_
      refine SL.y (OV.move rfl) rfl ?_
      refine SL.yg rfl rfl (OV.move rfl) rfl ?_
      refine SL.yg rfl rfl (OV.neqFn fn104 rfl) rfl ?_
      refine SL.y (OV.pickT rfl rfl) rfl ?_
      refine SL.nil ?_
      refine SC.then ?_
      refine SC.cond rfl (fun _ => ?_) (fun e => by cases e)
      refine SC.held 12 [(br, rrow D bN cm z.1 z.2), (bN, nrow D (p2 rc s (k + 1))), (bs, row 121 (fcs3 0 (k + 1) false ++ fcs3 k (k + 1) true ++ sp))] [] mixed ?_
      refine SA.takeZ (i := 0) [12] (by repeat (first | exact hPQ | refine PanicOk.then ?_ | refine PanicOk.block ?_ | exact PanicOk.body)) rfl rfl (by kernel_rfl) (by kernel_rfl) (by kernel_rfl) rfl (by kernel_rfl) (by kernel_rfl) (by kernel_rfl) (by first | exact List.nil_sublist _ | exact List.Sublist.refl _ | (repeat (first | exact List.Sublist.refl _ | exact List.nil_sublist _ | refine List.Sublist.cons_cons _ ?_ | refine List.Sublist.cons _ ?_))) (yiN (OV.move rfl)) rfl ?_
      refine SA.takeZ (i := 1) [2, 3, 4, 12] (by repeat (first | exact hPQ | refine PanicOk.then ?_ | refine PanicOk.block ?_ | exact PanicOk.body)) rfl rfl (by kernel_rfl) (by kernel_rfl) (by kernel_rfl) rfl (by kernel_rfl) (by kernel_rfl) (by kernel_rfl) (by first | exact List.nil_sublist _ | exact List.Sublist.refl _ | (repeat (first | exact List.Sublist.refl _ | exact List.nil_sublist _ | refine List.Sublist.cons_cons _ ?_ | refine List.Sublist.cons _ ?_))) (yiN (OV.move rfl)) rfl ?_
      refine SA.takeZ (i := 2) [3, 4, 12] (by repeat (first | exact hPQ | refine PanicOk.then ?_ | refine PanicOk.block ?_ | exact PanicOk.body)) rfl rfl (by kernel_rfl) (by kernel_rfl) (by kernel_rfl) rfl (by kernel_rfl) (by kernel_rfl) (by kernel_rfl) (by first | exact List.nil_sublist _ | exact List.Sublist.refl _ | (repeat (first | exact List.Sublist.refl _ | exact List.nil_sublist _ | refine List.Sublist.cons_cons _ ?_ | refine List.Sublist.cons _ ?_))) (yiN (OV.nilCheck rfl)) rfl ?_
      refine SA.takeZ (i := 3) [4, 12] (by repeat (first | exact hPQ | refine PanicOk.then ?_ | refine PanicOk.block ?_ | exact PanicOk.body)) rfl rfl (by kernel_rfl) (by kernel_rfl) (by kernel_rfl) rfl (by kernel_rfl) (by kernel_rfl) (by kernel_rfl) (by first | exact List.nil_sublist _ | exact List.Sublist.refl _ | (repeat (first | exact List.Sublist.refl _ | exact List.nil_sublist _ | refine List.Sublist.cons_cons _ ?_ | refine List.Sublist.cons _ ?_))) (yiN (OV.fld fo121_0 rfl)) rfl ?_
      refine SA.takeZ (i := 4) [12] (by repeat (first | exact hPQ | refine PanicOk.then ?_ | refine PanicOk.block ?_ | exact PanicOk.body)) rfl rfl (by kernel_rfl) (by kernel_rfl) (by kernel_rfl) rfl (by kernel_rfl) (by kernel_rfl) (by kernel_rfl) (by first | exact List.nil_sublist _ | exact List.Sublist.refl _ | (repeat (first | exact List.Sublist.refl _ | exact List.nil_sublist _ | refine List.Sublist.cons_cons _ ?_ | refine List.Sublist.cons _ ?_))) (yiN (OV.loadF 2 sc3 rfl rfl rfl)) rfl ?_
      refine SA.takeZ (i := 5) [9, 10, 11, 12] (by repeat (first | exact hPQ | refine PanicOk.then ?_ | refine PanicOk.block ?_ | exact PanicOk.body)) rfl rfl (by kernel_rfl) (by kernel_rfl) (by kernel_rfl) rfl (by kernel_rfl) (by kernel_rfl) (by kernel_rfl) (by first | exact List.nil_sublist _ | exact List.Sublist.refl _ | (repeat (first | exact List.Sublist.refl _ | exact List.nil_sublist _ | refine List.Sublist.cons_cons _ ?_ | refine List.Sublist.cons _ ?_))) (yiN (OV.move rfl)) rfl ?_
      refine SA.takeZ (i := 6) [7, 8, 9, 10, 11, 12] (by repeat (first | exact hPQ | refine PanicOk.then ?_ | refine PanicOk.block ?_ | exact PanicOk.body)) rfl rfl (by kernel_rfl) (by kernel_rfl) (by kernel_rfl) rfl (by kernel_rfl) (by kernel_rfl) (by kernel_rfl) (by first | exact List.nil_sublist _ | exact List.Sublist.refl _ | (repeat (first | exact List.Sublist.refl _ | exact List.nil_sublist _ | refine List.Sublist.cons_cons _ ?_ | refine List.Sublist.cons _ ?_))) (yiN (OV.move rfl)) rfl ?_
      refine SA.takeZ (i := 7) [8, 9, 10, 11, 12] (by repeat (first | exact hPQ | refine PanicOk.then ?_ | refine PanicOk.block ?_ | exact PanicOk.body)) rfl rfl (by kernel_rfl) (by kernel_rfl) (by kernel_rfl) rfl (by kernel_rfl) (by kernel_rfl) (by kernel_rfl) (by first | exact List.nil_sublist _ | exact List.Sublist.refl _ | (repeat (first | exact List.Sublist.refl _ | exact List.nil_sublist _ | refine List.Sublist.cons_cons _ ?_ | refine List.Sublist.cons _ ?_))) (yiN (OV.len u122 rfl)) rfl ?_
      refine SA.takeZ (i := 8) [9, 10, 11, 12] (by repeat (first | exact hPQ | refine PanicOk.then ?_ | refine PanicOk.block ?_ | exact PanicOk.body)) rfl rfl (by kernel_rfl) (by kernel_rfl) (by kernel_rfl) rfl (by kernel_rfl) (by kernel_rfl) (by kernel_rfl) (by first | exact List.nil_sublist _ | exact List.Sublist.refl _ | (repeat (first | exact List.Sublist.refl _ | exact List.nil_sublist _ | refine List.Sublist.cons_cons _ ?_ | refine List.Sublist.cons _ ?_))) (yiN (OV.sub (r := 0) rfl rfl (by rfl))) rfl ?_
      refine SA.takeZ (i := 9) [10, 11, 12] (by repeat (first | exact hPQ | refine PanicOk.then ?_ | refine PanicOk.block ?_ | exact PanicOk.body)) rfl rfl (by kernel_rfl) (by kernel_rfl) (by kernel_rfl) rfl (by kernel_rfl) (by kernel_rfl) (by kernel_rfl) (by first | exact List.nil_sublist _ | exact List.Sublist.refl _ | (repeat (first | exact List.Sublist.refl _ | exact List.nil_sublist _ | refine List.Sublist.cons_cons _ ?_ | refine List.Sublist.cons _ ?_))) (yiN (OV.idx 0 u122 hi1 hs1 rfl rfl rfl (by decide))) rfl ?_
      refine SA.takeZ (i := 10) [11, 12] (by repeat (first | exact hPQ | refine PanicOk.then ?_ | refine PanicOk.block ?_ | exact PanicOk.body)) rfl rfl (by kernel_rfl) (by kernel_rfl) (by kernel_rfl) rfl (by kernel_rfl) (by kernel_rfl) (by kernel_rfl) (by first | exact List.nil_sublist _ | exact List.Sublist.refl _ | (repeat (first | exact List.Sublist.refl _ | exact List.nil_sublist _ | refine List.Sublist.cons_cons _ ?_ | refine List.Sublist.cons _ ?_))) (yiN (OV.fld fo121_0 rfl)) rfl ?_
      refine SA.takeZ (i := 11) [12] (by repeat (first | exact hPQ | refine PanicOk.then ?_ | refine PanicOk.block ?_ | exact PanicOk.body)) rfl rfl (by kernel_rfl) (by kernel_rfl) (by kernel_rfl) rfl (by kernel_rfl) (by kernel_rfl) (by kernel_rfl) (by first | exact List.nil_sublist _ | exact List.Sublist.refl _ | (repeat (first | exact List.Sublist.refl _ | exact List.nil_sublist _ | refine List.Sublist.cons_cons _ ?_ | refine List.Sublist.cons _ ?_))) (yiN (OV.loadF 2 sc3 rfl rfl rfl)) rfl ?_
      refine SA.all (rs := [12]) (by kernel_rfl) (by simp) (all_cons ?_ (all_nil))
      · skip
        refine SO.callV (σ := Int × Int) (V := fun _ => .tuple #[]) (M := fun z => [(br, rrow D bN cm z.1 z.2), (bN, nrow D (p2 rc s (k + 1))), (bs, row 121 (fcs3 0 (k + 1) false ++ fcs3 k (k + 1) true ++ sp))]) (G := fun _ => True) rfl pf46 rfl (fun ρ hρ => by rw [args2 rfl rfl ρ hρ]; rfl) (fun w' hM => (call46 (k := k) hk2 (Mm.oldCell hM hC.o2 hC.h2) hC.o2 (hA.go hM)).mono fun e w'' ⟨z', he, _, hM'⟩ => ⟨z', he, trivial, Mm.callR hM hM'⟩) rfl (fun _ => List.nil_sublist _) ?_
        intro z' _
        refine SA.done (by kernel_rfl) ?_
        refine SC.then ?_
        refine SC.exit ?_
        repeat (refine SE.thenE ?_)
        refine SE.inBlock ?_
        exact SE.round (.A (k + 1) false, (bs, C, fcs3 k (k + 1) true ++ sp), z') ⟨⟨by omega, by omega⟩, by show 3 + (sp.length + 1 + 1 + 1) = C * 3; omega, hcap⟩ (by show D.n + 3 + 4 * (D.n + 1 - (k + 1)) < D.n + 3 + 4 * (D.n - k) + 1; omega) (by repeat' (first | exact trivial | refine ⟨rfl, ?_⟩)) (List.Sublist.refl _)
end
end Go.Proofs.Ybulkdrci.A
