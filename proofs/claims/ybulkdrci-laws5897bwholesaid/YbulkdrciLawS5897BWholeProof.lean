/-
  'Rows.LawS5897BWholeSaid' PROVED. The frame is the shell's; the walk lies in YbulkdrciLaw1 .. YbulkdrciLaw4 (the law), YbulkdrciApart, YbulkdrciApart2 (setApart), the plain law in YbulkdrciPlain .. YbulkdrciPlain4.
-/
import Derived.Test.YbulkdrciRows
import Derived.Test.YbulkdrciLawBDone
import Derived.WalkKit
import Derived.ProofKit
import Derived.OpenShut
import Derived.ShutString
import Derived.ChangeOld
import Derived.Below
namespace Go.Proofs.Ybulkdrci.lawS5897BWhole
open Go.ChangeShapes Go.WideShapes Go.ChangeAt Go.RowKit
open Go.ChangeMaps (open_string shut_string)
set_option linter.unusedVariables false

theorem own : ownKnob Yba.prog.godebug = none := by kernel_rfl
theorem laidOut : laidOutB Yba.prog = true := by kernel_rfl

/-- WHAT THE WALK IS TOLD OF A SLICE OF INTEGERS THAT CAME IN: it is nil; or it leads to a row of 'cap' cells, the numbers 'zs' (the first 'len' are its elements, the rest its spare room), each fitting its kind. -/
def IsRow (k : IntKind) (w : World) (a : Option Addr) (len cap : Nat) (zs : List Int) : Prop :=
  (a = none ∧ len = 0 ∧ cap = 0 ∧ zs = []) ∨
  ∃ x, a = some x ∧ len ≤ cap ∧ cap ≤ maxLen ∧ zs.length = cap ∧ (∀ i, i < zs.length → w.cell? (x.add i) = some (.int k (zs.getD i 0))) ∧ ∀ n ∈ zs, (Lit.int k n).wf = true

/-! ### STEP 1: THE WALK: the Go text returns true, AND WRITES NOTHING THAT WAS THERE: 'Below w.heap.size w w'' (Derived/Below.lean: '.refl', '.alloc', '.drew', '.setCell' at a new block, '.trans'). Open each 'IsRow' by 'rcases' AHEAD of 'go_enter'; part every test ahead of the walk. -/
theorem walk (a0 : Option Addr) (len0 cap0 : Nat) (z0 : List Int) (a1 : Option Addr) (len1 cap1 : Nat) (z1 : List Int) (a2 : Option Addr) (len2 cap2 : Nat) (z2 : List Int) (a3 : Int) (a4 : Int) (a5 : Int) (w : World) (w0 : IsRow .u8 w a0 len0 cap0 z0) (w1 : IsRow .u8 w a1 len1 cap1 z1) (w2 : IsRow .u8 w a2 len2 cap2 z2) (w3 : (Lit.int .u8 a3).wf = true) (w4 : (Lit.int .u8 a4).wf = true) (w5 : (Lit.int .u8 a5).wf = true) :
    Calls Yba.prog 4 #[.slice a0 len0 cap0, .slice a1 len1 cap1, .slice a2 len2 cap2, .int .u8 a3, .int .u8 a4, .int .u8 a5] w fun e w' => e = .returned (.bool true) ∧ Below w.heap.size w w' := by
  obtain ⟨r0, r1⟩ := bounds_u8 w3
  obtain ⟨r2, r3⟩ := bounds_u8 w4
  obtain ⟨r4, r5⟩ := bounds_u8 w5
  by_cases hbig : 4096 < len0
  · exact LawB.walkBig hbig
  obtain ⟨T, hT⟩ : ∃ T : Nat, a3.tmod 6 = (T : Int) - 1 ∧ 1 ≤ T ∧ T ≤ 6 := by
    have e : a3.tmod 6 = a3 % 6 := Int.tmod_eq_emod_of_nonneg r0
    exact ⟨(a3 % 6).toNat + 1, by rw [e]; omega, by omega, by omega⟩
  obtain ⟨I, hI⟩ : ∃ I : Nat, a4.tmod 5 = (I : Int) - 1 ∧ 1 ≤ I ∧ I ≤ 5 := by
    have e : a4.tmod 5 = a4 % 5 := Int.tmod_eq_emod_of_nonneg r2
    exact ⟨(a4 % 5).toNat + 1, by rw [e]; omega, by omega, by omega⟩
  let D : LawB.LB := { a0 := a0, a1 := a1, a2 := a2, n := len0, c0 := cap0, l1 := len1, c1 := cap1, l2 := len2, c2 := cap2, T := T, I := I, m5 := a5, kd := fun p => if (z0.getD p 0).tmod 2 = 1 then 2 else 1, tx := fun p => if p < len1 then ((z1.getD p 0).tmod T).toNat else 0, it := fun p => if p < len2 then ((z2.getD p 0).tmod I).toNat else 0, alive := fun t => decide (IntKind.u8.wrap ((BitVec.ofInt IntKind.u8.bits (a5.fdiv (2 ^ (min (t : Int).toNat IntKind.u8.bits))) &&& BitVec.ofInt IntKind.u8.bits 1).toNat : Int) = 0) }
  have row : ∀ {a : Option Addr} {len cap : Nat} {z : List Int}, IsRow .u8 w a len cap z → ∀ p, p < len → ∃ A, a = some A ∧ w.cell? (A.add p) = some (.int .u8 (z.getD p 0)) ∧ 0 ≤ z.getD p 0 ∧ z.getD p 0 ≤ 255 := by
    intro a len cap z h p hp
    rcases h with ⟨_, h1, _⟩ | ⟨x, rfl, h1, h2, h3, h4, h5⟩
    · omega
    · have hlt : p < z.length := by omega
      refine ⟨x, rfl, h4 p hlt, ?_⟩
      have hmem : z.getD p 0 ∈ z := by
        simp [hlt]
      exact bounds_u8 (h5 _ hmem)
  have modlt : ∀ (z : Int) (M : Nat), 1 ≤ M → (z.tmod M).toNat < M := by
    intro z M hM
    have := Int.tmod_lt_of_pos z (show (0 : Int) < (M : Int) by omega)
    omega
  have H : LawB.LH D w := {
    nle := by show len0 ≤ 4096; omega
    T1 := hT.2.1
    T6 := hT.2.2
    I1 := hI.2.1
    I5 := hI.2.2
    m0 := r4
    m255 := r5
    hkd := fun p hp => by
      obtain ⟨A, h1, h2, h3, h4⟩ := row w0 p hp
      exact ⟨A, _, h1, h2, rfl⟩
    htx := fun p _ hp => by
      obtain ⟨A, h1, h2, h3, h4⟩ := row w1 p hp
      refine ⟨A, _, h1, h2, h3, h4, ?_⟩
      show (z1.getD p 0).tmod (T : Int) = ((if p < len1 then ((z1.getD p 0).tmod T).toNat else 0 : Nat) : Int)
      rw [if_pos hp, Int.tmod_eq_emod_of_nonneg h3]
      have := Int.emod_nonneg (z1.getD p 0) (show (T : Int) ≠ 0 by have := hT.2.1; omega)
      omega
    htx0 := fun p hp => by
      show (if p < len1 then _ else 0) = 0
      rw [if_neg hp]
    hit := fun p _ hp => by
      obtain ⟨A, h1, h2, h3, h4⟩ := row w2 p hp
      refine ⟨A, _, h1, h2, h3, h4, ?_⟩
      show (z2.getD p 0).tmod (I : Int) = ((if p < len2 then ((z2.getD p 0).tmod I).toNat else 0 : Nat) : Int)
      rw [if_pos hp, Int.tmod_eq_emod_of_nonneg h3]
      have := Int.emod_nonneg (z2.getD p 0) (show (I : Int) ≠ 0 by have := hI.2.1; omega)
      omega
    hit0 := fun p hp => by
      show (if p < len2 then _ else 0) = 0
      rw [if_neg hp]
    txT := fun p => by
      show (if p < len1 then ((z1.getD p 0).tmod T).toNat else 0) < T
      split
      · exact modlt _ _ hT.2.1
      · have := hT.2.1; omega
    itI := fun p => by
      show (if p < len2 then ((z2.getD p 0).tmod I).toNat else 0) < I
      split
      · exact modlt _ _ hI.2.1
      · have := hI.2.1; omega
    hal := fun t _ r hr => by subst hr; rfl }
  exact LawB.walkB (D := D) H (LawB.agree D H.txT) hT.1 hI.1

/-! ### THE ROW's STEP: WRITTEN OUT: LEAVE IT -/
set_option maxRecDepth 100000 in
theorem lifted (os : Os) (started : os.Started) (H : Type) (enc : TypeId × Value → H) :
    ReturnsInHanded {} Yba.checked os 4 .any (Rows.lawS5897BWholeSpec.pre6 enc Yba.prog Yba.f4 Rows.lawS5897BWholeRow.domain false) (Rows.lawS5897BWholeSpec.post enc Yba.prog Yba.f4 false true false false) := by
  refine returnsInHanded_of_change (C := Yba.checked) own started (by kernel_rfl) Yba.func4
    (ChangeSpec.witness6 (enc := enc) (C := Yba.checked) false ⟨#[], #[.slice none 0 0, .slice none 0 0, .slice none 0 0, .int .u8 0, .int .u8 0, .int .u8 0], []⟩ 8 (by kernel_rfl) (by kernel_rfl) (by kernel_rfl) (by kernel_rfl)) ?_
  intro W base args ds gs before hval0 hW hcnd _
  have hval : ∀ (j : Nat) t v, Yba.f4.params[j]? = some t → args[j]? = some v → Value.okWide Yba.prog W .any base t v := hval0
  have hW' := hW
  obtain ⟨p, q, hA0, hV, rfl, hfz, hnd⟩ := hW
  have hA : DataW.TrodAll enc Yba.prog W 0 (fun _ => true) true Yba.f4.params.toList args.toList ds p := hA0
  rw [Yba.params4] at hA hval
  obtain ⟨v0, vs0, d0, ds0, p0, q0, hargs, rfl, rfl, h0, r0⟩ := trodAll_cons hA
  obtain ⟨v1, vs1, d1, ds1, p1, q1, rfl, rfl, rfl, h1, r1⟩ := trodAll_cons r0
  obtain ⟨v2, vs2, d2, ds2, p2, q2, rfl, rfl, rfl, h2, r2⟩ := trodAll_cons r1
  obtain ⟨v3, vs3, d3, ds3, p3, q3, rfl, rfl, rfl, h3, r3⟩ := trodAll_cons r2
  obtain ⟨v4, vs4, d4, ds4, p4, q4, rfl, rfl, rfl, h4, r4⟩ := trodAll_cons r3
  obtain ⟨v5, vs5, d5, ds5, p5, q5, rfl, rfl, rfl, h5, r5⟩ := trodAll_cons r4
  obtain ⟨rfl, rfl, rfl⟩ := trodAll_nil r5
  obtain rfl : args = #[v0, v1, v2, v3, v4, v5] := by cases args; simp_all
  obtain ⟨rfl, rfl⟩ := trodVars_none hV
  obtain ⟨a0, len0, cap0, rfl⟩ := okWide_slice Yba.underlying22 (hval 0 22 v0 rfl rfl)
  have k0 := h0
  have lt0 : ∀ x ∈ p0, x.block < W.heap.size := by obtain ⟨m, hm⟩ := k0; exact DataW.trod_lt m _ _ _ hm
  obtain ⟨z0, w0⟩ : ∃ zs, IsRow .u8 W a0 len0 cap0 zs := by
    obtain ⟨fuel, hf⟩ := h0
    rcases open_ints Yba.underlying22 Yba.underlying5 (by kernel_rfl) hf with ⟨hcs, _⟩ | ⟨x, l, c, zs, hcs, _, hl, hm, hz, _, hcell, hwz⟩
    · simp [Value.cells] at hcs
      obtain ⟨rfl, rfl, rfl⟩ := hcs
      exact ⟨[], .inl ⟨rfl, rfl, rfl, rfl⟩⟩
    · simp [Value.cells] at hcs
      obtain ⟨rfl, rfl, rfl⟩ := hcs
      exact ⟨zs, .inr ⟨_, rfl, hl, hm, by simpa using hz, hcell, hwz⟩⟩
  obtain ⟨a1, len1, cap1, rfl⟩ := okWide_slice Yba.underlying22 (hval 1 22 v1 rfl rfl)
  have k1 := h1
  have lt1 : ∀ x ∈ p1, x.block < W.heap.size := by obtain ⟨m, hm⟩ := k1; exact DataW.trod_lt m _ _ _ hm
  obtain ⟨z1, w1⟩ : ∃ zs, IsRow .u8 W a1 len1 cap1 zs := by
    obtain ⟨fuel, hf⟩ := h1
    rcases open_ints Yba.underlying22 Yba.underlying5 (by kernel_rfl) hf with ⟨hcs, _⟩ | ⟨x, l, c, zs, hcs, _, hl, hm, hz, _, hcell, hwz⟩
    · simp [Value.cells] at hcs
      obtain ⟨rfl, rfl, rfl⟩ := hcs
      exact ⟨[], .inl ⟨rfl, rfl, rfl, rfl⟩⟩
    · simp [Value.cells] at hcs
      obtain ⟨rfl, rfl, rfl⟩ := hcs
      exact ⟨zs, .inr ⟨_, rfl, hl, hm, by simpa using hz, hcell, hwz⟩⟩
  obtain ⟨a2, len2, cap2, rfl⟩ := okWide_slice Yba.underlying22 (hval 2 22 v2 rfl rfl)
  have k2 := h2
  have lt2 : ∀ x ∈ p2, x.block < W.heap.size := by obtain ⟨m, hm⟩ := k2; exact DataW.trod_lt m _ _ _ hm
  obtain ⟨z2, w2⟩ : ∃ zs, IsRow .u8 W a2 len2 cap2 zs := by
    obtain ⟨fuel, hf⟩ := h2
    rcases open_ints Yba.underlying22 Yba.underlying5 (by kernel_rfl) hf with ⟨hcs, _⟩ | ⟨x, l, c, zs, hcs, _, hl, hm, hz, _, hcell, hwz⟩
    · simp [Value.cells] at hcs
      obtain ⟨rfl, rfl, rfl⟩ := hcs
      exact ⟨[], .inl ⟨rfl, rfl, rfl, rfl⟩⟩
    · simp [Value.cells] at hcs
      obtain ⟨rfl, rfl, rfl⟩ := hcs
      exact ⟨zs, .inr ⟨_, rfl, hl, hm, by simpa using hz, hcell, hwz⟩⟩
  obtain ⟨a3, rfl, rfl, rfl, w3⟩ := open_int Yba.underlying5 (hval 3 5 v3 rfl rfl) h3
  obtain ⟨a4, rfl, rfl, rfl, w4⟩ := open_int Yba.underlying5 (hval 4 5 v4 rfl rfl) h4
  obtain ⟨a5, rfl, rfl, rfl, w5⟩ := open_int Yba.underlying5 (hval 5 5 v5 rfl rfl) h5
  clear hA0 hval0
  refine (walk a0 len0 cap0 z0 a1 len1 cap1 z1 a2 len2 cap2 z2 a3 a4 a5 W w0 w1 w2 w3 w4 w5).mono fun e W' ⟨he, bel⟩ => ?_
  subst he
  exact ⟨_, rfl, _, _, _, [], _, [], hW', trodAll_mk1 (shut_bool Yba.underlying4 _), (trodAll_cons_mk (Below.trod laidOut (by kernel_rfl) (of_decide_eq_true (by kernel_rfl)) k0 bel lt0) (trodAll_cons_mk (Below.trod laidOut (by kernel_rfl) (of_decide_eq_true (by kernel_rfl)) k1 bel lt1) (trodAll_cons_mk (Below.trod laidOut (by kernel_rfl) (of_decide_eq_true (by kernel_rfl)) k2 bel lt2) (trodAll_cons_mk (shut_int Yba.underlying5 w3) (trodAll_cons_mk (shut_int Yba.underlying5 w4) (trodAll_cons_mk (shut_int Yba.underlying5 w5) trodAll_mk0)))))), rfl, bel.frame _, fun h => by cases h⟩

theorem over : Rows.lawS5897BWholeRow.holds Yba.pinned (OpenSpec.ofChange Rows.lawS5897BWholeSpec) :=
  OpenClaim.holds_of_wide 4 Yba.f4 rfl rfl rfl rfl rfl rfl rfl ⟨rfl, rfl, rfl, rfl, rfl⟩ rfl rfl rfl rfl rfl (by kernel_rfl) Yba.func4 (by kernel_rfl)
    (of_decide_eq_true (by kernel_rfl)) (by unfold Func.isWrapper; first | (rw [if_pos (by decide +kernel)]; kernel_rfl) | (rw [if_neg (by decide +kernel)]; exact ⟨rfl, rfl⟩))
    (fun os started H enc _ => lifted os started H enc)

/-- ████ THE STATEMENT ████ -/
theorem proved : Rows.LawS5897BWholeSaid := over
#print axioms proved
end Go.Proofs.Ybulkdrci.lawS5897BWhole
