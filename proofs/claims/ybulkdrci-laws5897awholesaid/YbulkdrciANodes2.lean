import Derived.Test.YbulkdrciANodes
namespace Go.Proofs.Ybulkdrci.A
open Go Go.RowKit Go.Proofs.Ybulkdrci.A.Sym
set_option linter.unusedVariables false
set_option linter.unusedSimpArgs false
set_option maxRecDepth 100000

abbrev scn (co : ByteArray) (cf : Int) (ct : ByteArray) (bp n : Nat) (calls term : Int) : Value := .agg #[.string co, .int .u8 cf, .string ct, .slice (some ⟨bp, 0, none⟩) n n, .int .i64 calls, .bool false, .int .u8 0, .bool false, .int .u8 term]
def cRow (co : ByteArray) (cf : Int) (bp n : Nat) : List Value := [.string co, .int .u8 cf, .bool false, .slice (some ⟨bp, 0, none⟩) n n]
inductive N3 where
  | A (i : Nat)
  | B (i : Nat)
  | F
def fr2 (a : Nat) (r : Value) : List Value := [.int .i64 a, r]
def offI (n i : Nat) : Nat := if i = n then (n - 1) * 4 else i * 4
def rs (n bp i : Nat) : Value := .slice (some ⟨bp, offI n i, none⟩) (n - i) (n - i)
def N3.len : N3 → Nat
  | .A _ => 1
  | .B _ => 2
  | .F => 0
def N3.nlen (n : Nat) : N3 → Nat
  | .A i => i + 1
  | .B i => i + 2
  | .F => n + 1
def N3.frs (n bp : Nat) : N3 → List Value
  | .A i => fr2 0 (rs n bp i)
  | .B i => fr2 0 (rs n bp (i + 1)) ++ fr2 (i + 1) (.slice none 0 0)
  | .F => []
def N3.cells (n bc bp : Nat) : N3 → Nat → Value
  | .A i => pn bc bp i (eA i)
  | .B i => pn bc bp (i + 1) (eA i)
  | .F => pn bc bp n (eF n)
def N3.ok (n : Nat) : N3 → Prop
  | .A i => i ≤ n
  | .B i => i < n
  | .F => True
def N3.mu (n : Nat) : N3 → Nat
  | .A i => 2 * (n - i) + 1
  | .B i => 2 * (n - (i + 1)) + 2
  | .F => 0
theorem fr2_one (a : Nat) : ∀ u ∈ fr2 a (.slice none 0 0), u.oneCell' = true := by
  intro u hu
  simp [fr2] at hu
  rcases hu with rfl | rfl <;> rfl
theorem offI_next {n i : Nat} (h : i < n) : (if n - i = 1 then offI n i else offI n i + 1 * 4) = offI n (i + 1) := by
  by_cases e : i + 1 = n
  · have h2 : n - i = 1 := by omega
    rw [if_pos h2]
    unfold offI
    rw [if_neg (by omega), if_pos e]
    omega
  · have h2 : ¬ n - i = 1 := by omega
    rw [if_neg h2]
    unfold offI
    rw [if_neg (by omega), if_neg e]
    omega
/-- nodes -/
theorem call23 {w : World} {co : ByteArray} {cf : Int} {ct : ByteArray} {bp n : Nat} {calls term : Int} (hn : n ≤ 100000) (hp : ∀ i, i < n → w.cell? ⟨bp, i * 4 + 3, none⟩ = some (.slice none 0 0)) :
    Calls Yba.prog 23 #[scn co cf ct bp n calls term] w fun e w' => ∃ z : Nat × Nat, e = .returned (.slice (some ⟨z.2, 0, none⟩) (n + 1) (n + 1)) ∧ True ∧ Mm w [] [(z.2, row 92 (tab ((n + 1) * 5) (pn z.1 bp n (eF n)))), (z.1, row 28 (cRow co cf bp n))] w' := by
  obtain ⟨i92, hi, hz, hs, hb⟩ := info_parts info92
  obtain ⟨i28, hi28, hz28, hs28, hb28⟩ := info_parts info28
  obtain ⟨i112, hi1, hz1, hs1, hb1⟩ := info_parts info112
  refine Calls.of_SC (args := [scn co cf ct bp n calls term]) Yba.func23 rfl (by simp [Yba.f23]) (Mm.start w) ?_
  refine SC.seq ?_
  refine SC.region ?_
  refine SL.e (OE.box rfl) rfl ?_
  intro b1
  refine SL.y (OV.assign rfl) rfl ?_
  refine SL.nil ?_
  refine SC.then ?_
  refine SC.seq ?_
  refine SC.region ?_
  refine SL.y (OV.fld fo36_3 rfl) rfl ?_
  refine SL.y (OV.loadF 0 sc24 rfl rfl rfl) rfl ?_
  refine SL.y (OV.len u24 rfl) rfl ?_
  refine SL.y (OV.add (r := ((n + 1 : Nat) : Int)) rfl rfl (by rw [wrap_i64 (by omega) (by omega)]; omega)) rfl ?_
  refine SL.e (OE.makeS 1 (n + 1) u86 hi hz hs rfl rfl rfl rfl (by omega) (by rw [hb]; omega) (by omega)) rfl ?_
  intro bN
  refine SL.y (OV.assign rfl) rfl ?_
  refine SL.nil ?_
  refine SC.then ?_
  refine SC.seq ?_
  refine SC.region ?_
  refine SL.y (OV.move rfl) rfl ?_
  refine SL.y (OV.fld fo36_0 rfl) rfl ?_
  refine SL.y (OV.loadF 0 sc9 rfl rfl rfl) rfl ?_
  refine SL.y (OV.fld fo36_1 rfl) rfl ?_
  refine SL.y (OV.loadF 0 sc26 rfl rfl rfl) rfl ?_
  refine SL.y (OV.fld fo36_3 rfl) rfl ?_
  refine SL.y (OV.loadF 0 sc24 rfl rfl rfl) rfl ?_
  refine SL.y (OV.build (parts3 rfl rfl rfl) (bld28 _ _ _ _ _)) rfl ?_
  refine SL.e (OE.box rfl) rfl ?_
  intro bc
  refine SL.y (OV.build (parts1 rfl) (bld92 _)) rfl ?_
  refine SL.y (OV.idx 0 u86 hi hs rfl rfl rfl (by omega)) rfl ?_
  refine SL.s (OS.store 1 hi rfl rfl rfl (by rw [hs]; rfl) (nd5_one (some ⟨bc, 0, none⟩)) (by rw [zn_made, length_tab]; show 0 + 0 * 5 + 5 ≤ (n + 1) * 5; omega)) ?_
  refine SL.nil ?_
  refine SC.then ?_
  refine SC.seq ?_
  refine SC.region ?_
  refine SL.y (OV.fld fo36_3 rfl) rfl ?_
  refine SL.y (OV.loadF 0 sc24 rfl rfl rfl) rfl ?_
  refine SL.y (OV.build (parts2 rfl rfl) (bld112 _ _ _ _)) rfl ?_
  refine SL.e (OE.bsliceN (s := 2) (cs := #[.int .i64 0, .slice (some ⟨bp, 0, none⟩) n n]) u113 hi1 hz1 hs1 (by decide) (by decide) (parts1 rfl) (fill112 _ _ _ _)) rfl ?_
  intro bs0
  refine SL.y (OV.assign rfl) rfl ?_
  refine SL.nil ?_
  refine SC.then ?_
  refine SC.weaken (env' := [(4, .slice (some ⟨bs0, 0, none⟩) 1 1), (3, .slice (some ⟨bN, 0, none⟩) 1 (n + 1))]) (m' := [(bN, row 92 (tab ((n + 1) * 5) (pn bc bp 0 (eA 0)))), (bc, row 28 (cRow co cf bp n)), (bs0, row 112 (fr2 0 (rs n bp 0) ++ []))]) (by repeat' (first | exact trivial | refine ⟨rfl, ?_⟩)) ?_ ?_
  · refine List.Sublist.cons _ ?_
    have e1 : rs n bp 0 = .slice (some ⟨bp, 0, none⟩) n n := by
      unfold rs offI
      split <;> simp <;> omega
    rw [e1, ← pn_first (bc := bc) (bp := bp) (N := (n + 1) * 5) (by omega), ← zn_made]
    exact List.Sublist.refl _
  refine SC.perm (m' := [(bs0, row 112 (fr2 0 (rs n bp 0) ++ [])), (bN, row 92 (tab ((n + 1) * 5) (pn bc bp 0 (eA 0)))), (bc, row 28 (cRow co cf bp n))]) ((List.Perm.cons _ (List.Perm.swap _ _ _)).trans (List.Perm.swap _ _ _)) ?_
  refine SC.seq ?_
  refine SC.block ?_
  refine SC.loop (fun σ : N3 × (Nat × Nat × List Value) => [(4, .slice (some ⟨σ.2.1, 0, none⟩) σ.1.len σ.2.2.1), (3, .slice (some ⟨bN, 0, none⟩) (σ.1.nlen n) (n + 1))]) (fun σ => [(σ.2.1, row 112 (σ.1.frs n bp ++ σ.2.2.2)), (bN, row 92 (tab ((n + 1) * 5) (σ.1.cells n bc bp))), (bc, row 28 (cRow co cf bp n))]) (fun σ => σ.1.ok n ∧ (σ.1.frs n bp).length + σ.2.2.2.length = σ.2.2.1 * 2 ∧ σ.2.2.1 ≤ maxLen) (fun σ => σ.1.mu n) (.A 0, (bs0, 1, [])) ⟨Nat.zero_le _, rfl, by show (1 : Nat) ≤ maxLen; decide⟩ (by repeat' (first | exact trivial | refine ⟨rfl, ?_⟩)) (List.Sublist.refl _) ?_
  rintro ⟨p, bs, C, sp⟩ ⟨hok, hlen, hcap⟩
  refine SC.seq ?_
  cases p with
  | F =>
    refine SC.seq ?_
    refine SC.region ?_
    refine SL.y (OV.move rfl) rfl ?_
    refine SL.y (OV.len u113 rfl) rfl ?_
    refine SL.y ((OV.gtr rfl rfl).no (by show ¬ (0 : Int) < 0; decide)) rfl ?_
    refine SL.nil ?_
    refine SC.then ?_
    refine SC.cond rfl (fun e => by cases e) (fun _ => ?_)
    refine SC.exit ?_
    refine SE.thenE (SE.thenE (SE.inBlock ?_))
    refine SC.then ?_
    refine SC.seq ?_
    refine SC.region ?_
    refine SL.y (OV.move rfl) rfl ?_
    refine SL.y (OV.assign rfl) rfl ?_
    refine SL.nil ?_
    refine SC.then ?_
    refine SC.ret ?_
    exact SE.ret1 Yba.results23 rfl (fun w' hM => ⟨(bc, bN), rfl, trivial, hM.weaken (List.Sublist.cons _ (List.Sublist.refl _))⟩)
  | A i =>
    have hok' : i ≤ n := hok
    have hlen' : 2 + sp.length = C * 2 := hlen
    refine SC.weaken (env' := [(4, .slice (some ⟨bs, 0, none⟩) 1 C), (3, .slice (some ⟨bN, 0, none⟩) (i + 1) (n + 1))]) (m' := [(bs, row 112 (fr2 0 (rs n bp i) ++ sp)), (bN, row 92 (tab ((n + 1) * 5) (pn bc bp i (eA i)))), (bc, row 28 (cRow co cf bp n))]) (by repeat' (first | exact trivial | refine ⟨rfl, ?_⟩)) (List.Sublist.refl _) ?_
    refine SC.seq ?_
    refine SC.region ?_
    refine SL.y (OV.move rfl) rfl ?_
    refine SL.y (OV.len u113 rfl) rfl ?_
    refine SL.y ((OV.gtr rfl rfl).yes (by decide)) rfl ?_
    refine SL.nil ?_
    refine SC.then ?_
    refine SC.cond rfl (fun _ => ?_) (fun e => by cases e)
    refine SC.skip ?_
    refine SC.then ?_
    refine SC.block ?_
    refine SC.seq ?_
    refine SC.region ?_
    refine SL.y (OV.move rfl) rfl ?_
    refine SL.y (OV.move rfl) rfl ?_
    refine SL.y (OV.len u113 rfl) rfl ?_
    refine SL.y (OV.sub (r := 0) rfl rfl (by rfl)) rfl ?_
    refine SL.y (OV.idx 0 u113 hi1 hs1 rfl rfl rfl (by decide)) rfl ?_
    refine SL.y (OV.assign rfl) rfl ?_
    refine SL.nil ?_
    refine SC.then ?_
    refine SC.seq ?_
    refine SC.seq ?_
    refine SC.region ?_
    refine SL.y (OV.move rfl) rfl ?_
    refine SL.y (OV.nilCheck rfl) rfl ?_
    refine SL.y (OV.fld fo112_1 rfl) rfl ?_
    refine SL.y (OV.loadF 0 sc24 rfl rfl rfl) rfl ?_
    refine SL.y (OV.len u24 rfl) rfl ?_
    refine SL.y (OV.eql rfl rfl) rfl ?_
    refine SL.nil ?_
    refine SC.then ?_
    refine SC.condP rfl (fun heq => ?_) (fun hne => ?_)
    · have hin : i = n := by omega
      subst hin
      refine SC.seq ?_
      refine SC.region ?_
      refine SL.y (OV.move rfl) rfl ?_
      refine SL.y (OV.move rfl) rfl ?_
      refine SL.y (OV.nilCheck rfl) rfl ?_
      refine SL.y (OV.fld fo112_0 rfl) rfl ?_
      refine SL.y (OV.loadF 0 sc3 rfl rfl rfl) rfl ?_
      refine SL.y (OV.move rfl) rfl ?_
      refine SL.y (OV.len u86 rfl) rfl ?_
      refine SL.y (OV.idx 0 u86 hi hs rfl rfl rfl (by omega)) rfl ?_
      refine SL.y (OV.fld fo92_1 rfl) rfl ?_
      refine SL.s (OS.store1 1 sz3 rfl rfl rfl rfl (by rw [length_tab]; omega)) ?_
      refine SL.nil ?_
      refine SC.then ?_
      rw [pn_end (k := 0) (v := i + 1) (e' := eF i) (by omega) (by unfold eF; rw [if_pos rfl]) (fun q hq => by unfold eF; rw [if_neg hq])]
      refine SC.seq ?_
      refine SC.region ?_
      refine SL.y (OV.move rfl) rfl ?_
      refine SL.y (OV.move rfl) rfl ?_
      refine SL.y (OV.len u113 rfl) rfl ?_
      refine SL.y (OV.sub (r := 0) rfl rfl (by rfl)) rfl ?_
      refine SL.y (OV.sliceTo 0 u113 hi1 rfl rfl rfl (by omega)) rfl ?_
      refine SL.y (OV.assign rfl) rfl ?_
      refine SL.nil ?_
      refine SC.then ?_
      refine SC.exit ?_
      repeat (refine SE.thenE ?_)
      refine SE.inBlock ?_
      exact SE.round (.F, (bs, C, fr2 0 (rs i bp i) ++ sp)) ⟨trivial, by show 0 + (sp.length + 1 + 1) = C * 2; omega, hcap⟩ (by show 0 < 2 * (i - i) + 1; omega) (by repeat' (first | exact trivial | refine ⟨rfl, ?_⟩)) (List.Sublist.refl _)
    · have hin : i < n := by omega
      have eo : offI n i + 0 * 4 = i * 4 := by unfold offI; rw [if_neg (by omega)]; omega
      refine SC.skip ?_
      refine SC.then ?_
      refine SC.seq ?_
      refine SC.region ?_
      refine SL.y (OV.move rfl) rfl ?_
      refine SL.y (OV.nilCheck rfl) rfl ?_
      refine SL.y (OV.fld fo112_1 rfl) rfl ?_
      refine SL.y (OV.loadF 0 sc24 rfl rfl rfl) rfl ?_
      refine SL.y (OV.idx 0 u24 hi28 hs28 rfl rfl rfl (by omega)) rfl ?_
      refine SL.y (OV.assign rfl) rfl ?_
      refine SL.nil ?_
      refine SC.then ?_
      rw [eo]
      refine SC.seq ?_
      refine SC.region ?_
      refine SL.y (OV.move rfl) rfl ?_
      refine SL.y (OV.move rfl) rfl ?_
      refine SL.y (OV.nilCheck rfl) rfl ?_
      refine SL.y (OV.fld fo112_1 rfl) rfl ?_
      refine SL.y (OV.loadF 0 sc24 rfl rfl rfl) rfl ?_
      refine SL.y (OV.sliceFrom 1 u24 hi28 hs28 rfl rfl rfl (by omega) (offI_next hin)) rfl ?_
      refine SL.y (OV.nilCheck rfl) rfl ?_
      refine SL.y (OV.fld fo112_1 rfl) rfl ?_
      refine SL.s (OS.store1 0 sz24 rfl rfl rfl rfl (by simp only [List.length_append]; show _ < 2 + _; omega)) ?_
      refine SL.nil ?_
      refine SC.then ?_
      refine SC.seq ?_
      refine SC.region ?_
      refine SL.y (OV.move rfl) rfl ?_
      refine SL.y (OV.move rfl) rfl ?_
      refine SL.y (OV.len u86 rfl) rfl ?_
      refine SL.y (OV.move rfl) rfl ?_
      refine SL.y (OV.nilCheck rfl) rfl ?_
      refine SL.y (OV.fld fo28_3 rfl) rfl ?_
      refine SL.y (OV.loadOld sc24 rfl (by simp) (hp i hin)) rfl ?_
      refine SL.y (OV.build (parts2 rfl rfl) (bld112 _ _ _ _)) rfl ?_
      refine SL.e (OE.bsliceN (s := 2) (cs := #[.int .i64 ((i + 1 : Nat) : Int), .slice none 0 0]) u113 hi1 hz1 hs1 (by decide) (by decide) (parts1 rfl) (fill112 _ _ _ _)) rfl ?_
      intro nb
      refine SL.e (OE.appG (cs := fr2 0 (rs n bp (i + 1))) (sp := sp) (ys := fr2 (i + 1) (.slice none 0 0)) u113 hi1 hz1 hs1 rfl rfl rfl (List.Perm.refl _) (Src.own0 3 rfl) rfl (fr2_one _) rfl hlen hcap (by decide) (by rw [hb1]; decide)) rfl ?_
      intro st
      refine SL.y (OV.assign rfl) rfl ?_
      refine SL.nil ?_
      refine SC.then ?_
      refine SC.region ?_
      refine SL.y (OV.move rfl) rfl ?_
      refine SL.y (OV.move rfl) rfl ?_
      refine SL.y (OV.build (parts1 rfl) (bld92 _)) rfl ?_
      refine SL.e (OE.bsliceN (s := 5) (cs := (nd5 (some ⟨bp, i * 4, none⟩)).toArray) u86 hi hz hs (by decide) (by decide) (parts1 rfl) (fill92 _)) rfl ?_
      intro nb2
      refine SL.e (OE.appR (N := (n + 1) * 5) (f := pn bc bp i (eA i)) (f' := pn bc bp (i + 1) (eA i)) (ys := nd5 (some ⟨bp, i * 4, none⟩)) 1 u86 hi hs rfl rfl rfl (Src.own0 4 rfl) rfl (nd5_one _) (by omega) (by show (i + 1) * 5 + 5 ≤ _; omega) pn_more1 pn_more2) rfl ?_
      intro _
      refine SL.y (OV.assign rfl) rfl ?_
      refine SL.nil ?_
      refine SE.nb ?_
      refine SE.weaken (env' := [(4, .slice (some ⟨st.1.1, 0, none⟩) 2 st.1.2.1), (3, .slice (some ⟨bN, 0, none⟩) (i + 2) (n + 1))]) (m' := [(st.1.1, row 112 (fr2 0 (rs n bp (i + 1)) ++ fr2 (i + 1) (.slice none 0 0) ++ st.1.2.2)), (bN, row 92 (tab ((n + 1) * 5) (pn bc bp (i + 1) (eA i)))), (bc, row 28 (cRow co cf bp n))]) (by repeat' (first | exact trivial | refine ⟨rfl, ?_⟩)) ((((List.nil_sublist _).cons_cons _).cons_cons _).cons_cons _) ?_
      exact SE.round (.B i, (st.1.1, st.1.2.1, st.1.2.2)) ⟨hin, st.2.2.2, st.2.1⟩ (by show 2 * (n - (i + 1)) + 2 < 2 * (n - i) + 1; omega) (by repeat' (first | exact trivial | refine ⟨rfl, ?_⟩)) (List.Sublist.refl _)
  | B i =>
    have hin : i < n := hok
    have hlen' : 4 + sp.length = C * 2 := hlen
    refine SC.weaken (env' := [(4, .slice (some ⟨bs, 0, none⟩) 2 C), (3, .slice (some ⟨bN, 0, none⟩) (i + 2) (n + 1))]) (m' := [(bs, row 112 (fr2 0 (rs n bp (i + 1)) ++ fr2 (i + 1) (.slice none 0 0) ++ sp)), (bN, row 92 (tab ((n + 1) * 5) (pn bc bp (i + 1) (eA i)))), (bc, row 28 (cRow co cf bp n))]) (by repeat' (first | exact trivial | refine ⟨rfl, ?_⟩)) (List.Sublist.refl _) ?_
    refine SC.seq ?_
    refine SC.region ?_
    refine SL.y (OV.move rfl) rfl ?_
    refine SL.y (OV.len u113 rfl) rfl ?_
    refine SL.y ((OV.gtr rfl rfl).yes (by decide)) rfl ?_
    refine SL.nil ?_
    refine SC.then ?_
    refine SC.cond rfl (fun _ => ?_) (fun e => by cases e)
    refine SC.skip ?_
    refine SC.then ?_
    refine SC.block ?_
    refine SC.seq ?_
    refine SC.region ?_
    refine SL.y (OV.move rfl) rfl ?_
    refine SL.y (OV.move rfl) rfl ?_
    refine SL.y (OV.len u113 rfl) rfl ?_
    refine SL.y (OV.sub (r := 1) rfl rfl (by rfl)) rfl ?_
    refine SL.y (OV.idx 1 u113 hi1 hs1 rfl rfl rfl (by decide)) rfl ?_
    refine SL.y (OV.assign rfl) rfl ?_
    refine SL.nil ?_
    refine SC.then ?_
    refine SC.seq ?_
    refine SC.seq ?_
    refine SC.region ?_
    refine SL.y (OV.move rfl) rfl ?_
    refine SL.y (OV.nilCheck rfl) rfl ?_
    refine SL.y (OV.fld fo112_1 rfl) rfl ?_
    refine SL.y (OV.loadF 0 sc24 rfl rfl rfl) rfl ?_
    refine SL.y (OV.len u24 rfl) rfl ?_
    refine SL.y (OV.eql rfl rfl) rfl ?_
    refine SL.nil ?_
    refine SC.then ?_
    refine SC.condP rfl (fun heq => ?_) (fun hne => absurd rfl hne)
    refine SC.seq ?_
    refine SC.region ?_
    refine SL.y (OV.move rfl) rfl ?_
    refine SL.y (OV.move rfl) rfl ?_
    refine SL.y (OV.nilCheck rfl) rfl ?_
    refine SL.y (OV.fld fo112_0 rfl) rfl ?_
    refine SL.y (OV.loadF 0 sc3 rfl rfl rfl) rfl ?_
    refine SL.y (OV.move rfl) rfl ?_
    refine SL.y (OV.len u86 rfl) rfl ?_
    refine SL.y (OV.idx (i + 1) u86 hi hs rfl rfl rfl (by omega)) rfl ?_
    refine SL.y (OV.fld fo92_1 rfl) rfl ?_
    refine SL.s (OS.store1 1 sz3 rfl rfl rfl rfl (by rw [length_tab]; omega)) ?_
    refine SL.nil ?_
    refine SC.then ?_
    rw [pn_end (k := i + 1) (v := i + 2) (e' := eA (i + 1)) (by omega) (by unfold eA; rw [if_pos (by omega)]) (fun q hq => by unfold eA; have : (1 ≤ q ∧ q ≤ i + 1) ↔ (1 ≤ q ∧ q ≤ i) := (by omega); simp only [this])]
    refine SC.seq ?_
    refine SC.region ?_
    refine SL.y (OV.move rfl) rfl ?_
    refine SL.y (OV.move rfl) rfl ?_
    refine SL.y (OV.len u113 rfl) rfl ?_
    refine SL.y (OV.sub (r := 1) rfl rfl (by rfl)) rfl ?_
    refine SL.y (OV.sliceTo 1 u113 hi1 rfl rfl rfl (by omega)) rfl ?_
    refine SL.y (OV.assign rfl) rfl ?_
    refine SL.nil ?_
    refine SC.then ?_
    refine SC.exit ?_
    repeat (refine SE.thenE ?_)
    refine SE.inBlock ?_
    exact SE.round (.A (i + 1), (bs, C, fr2 (i + 1) (.slice none 0 0) ++ sp)) ⟨hin, by show 2 + (sp.length + 1 + 1) = C * 2; omega, hcap⟩ (by show 2 * (n - (i + 1)) + 1 < 2 * (n - (i + 1)) + 2; omega) (by repeat' (first | exact trivial | refine ⟨rfl, ?_⟩)) (List.Sublist.refl _)
theorem pf23 : plainFunc Yba.prog 23 = true := by kernel_rfl
end Go.Proofs.Ybulkdrci.A
