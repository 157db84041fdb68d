/-
  'Rows.LawS5902AWholeSaid' PROVED. The walk lies in YbulkdrfaLess .. YbulkdrfaLaw.
-/
import Derived.Test.YbulkdrfaRows
import Derived.Test.YbulkdrfaLaw
import Derived.WalkKit
import Derived.ProofKit
import Derived.OpenShut
import Derived.ShutString
import Derived.ChangeOld
import Derived.Below
import Derived.Deep.Slices
import Derived.Laws.Cover2
namespace Go.Proofs.Ybulkdrfa.lawS5902AWhole
open Go.ChangeShapes Go.WideShapes Go.ChangeAt Go.RowKit
set_option linter.unusedVariables false

theorem own : ownKnob Yba.prog.godebug = none := by kernel_rfl
theorem laidOut : laidOutB Yba.prog = true := by kernel_rfl
theorem c23 : Yba.prog.cellsOf 23 = 1 := by kernel_rfl

theorem open23 {H : Type} {enc : TypeId × Value → H} {w : World} {base : Nat} {spare : Nat → Bool} {held : Bool} {fuel : Nat} {cs : List Value} {x : DataW H × List MemPlace} (h : DataW.trod enc Yba.prog w base spare held fuel 23 cs = some x) :
    ∃ b, cs = [.float .f64 b] := by
  cases fuel with
  | zero => simp [DataW.trod] at h
  | succ n =>
    unfold DataW.trod at h
    rw [Yba.underlying23] at h
    split at h <;> simp_all

theorem walk' (a : Option Addr) (n c : Nat) (m : Int) (e : Nat) (w : World) (hm1 : -9223372036854775808 ≤ m) (hm2 : m ≤ 9223372036854775807) (hE : ∀ p, p < n → ∃ z, ∃ x : Addr, a = some x ∧ w.cell? (x.add p) = some (.float .f64 z)) :
    Calls Yba.prog 3 #[.slice a n c, .int .i64 m, .float .f64 e] w fun e w' => e = .returned (.bool true) ∧ Below w.heap.size w w' := by
  obtain ⟨Z, hZ⟩ : ∃ Z : Nat → Nat, ∀ p, p < n → ∃ x : Addr, a = some x ∧ w.cell? (x.add p) = some (.float .f64 (Z p)) :=
    ⟨fun p => if h : p < n then (hE p h).choose else 0, fun p hp => by
      simp only [hp, dite_true]
      exact (hE p hp).choose_spec⟩
  refine walk (z := (Array.range n).map Z) hm1 hm2 (by simp) fun i hi => ?_
  have hi' : i < n := by simpa using hi
  obtain ⟨x, hx, hc⟩ := hZ i hi'
  refine ⟨x, hx, ?_⟩
  rw [hc]
  simp [hi']

set_option maxRecDepth 100000 in
theorem lifted (os : Os) (started : os.Started) (H : Type) (enc : TypeId × Value → H) :
    ReturnsInHanded {} Yba.checked os 3 .any (Rows.lawS5902AWholeSpec.pre6 enc Yba.prog Yba.f3 Rows.lawS5902AWholeRow.domain false) (Rows.lawS5902AWholeSpec.post enc Yba.prog Yba.f3 false true false false) := by
  refine returnsInHanded_of_change (C := Yba.checked) own started (by kernel_rfl) Yba.func3
    (ChangeSpec.witness6 (enc := enc) (C := Yba.checked) false ⟨#[], #[.slice none 0 0, .int .i64 0, .float .f64 0], []⟩ 8 (by kernel_rfl) (by kernel_rfl) (by kernel_rfl) (by kernel_rfl)) ?_
  intro W base args ds gs before hval0 hW hcnd _
  have hval : ∀ (j : Nat) t v, Yba.f3.params[j]? = some t → args[j]? = some v → Value.okWide Yba.prog W .any base t v := hval0
  have hW' := hW
  obtain ⟨p, q, hA0, hV, rfl, hfz, hnd⟩ := hW
  have hA : DataW.TrodAll enc Yba.prog W 0 (fun _ => true) true Yba.f3.params.toList args.toList ds p := hA0
  rw [Yba.params3] at hA hval
  obtain ⟨v0, vs0, d0, ds0, p0, q0, hargs, rfl, rfl, h0, r0⟩ := trodAll_cons hA
  obtain ⟨v1, vs1, d1, ds1, p1, q1, rfl, rfl, rfl, h1, r1⟩ := trodAll_cons r0
  obtain ⟨v2, vs2, d2, ds2, p2, q2, rfl, rfl, rfl, h2, r2⟩ := trodAll_cons r1
  obtain ⟨rfl, rfl, rfl⟩ := trodAll_nil r2
  obtain rfl : args = #[v0, v1, v2] := by cases args; simp_all
  obtain ⟨rfl, rfl⟩ := trodVars_none hV
  obtain ⟨m, rfl, rfl, rfl, wfm⟩ := open_int Yba.underlying3 (hval 1 3 v1 rfl rfl) h1
  obtain ⟨e, rfl, rfl, rfl, wfe⟩ := open_float Yba.underlying23 (hval 2 23 v2 rfl rfl) h2
  obtain ⟨a0, len0, cap0, rfl⟩ := okWide_slice Yba.underlying22 (hval 0 22 v0 rfl rfl)
  have k0 := h0
  have lt0 : ∀ x ∈ p0, x.block < W.heap.size := by obtain ⟨m, hm⟩ := k0; exact DataW.trod_lt m _ _ _ hm
  have w0 : ∀ p, p < len0 → ∃ z, ∃ x : Addr, a0 = some x ∧ W.cell? (x.add p) = some (.float .f64 z) := by
    obtain ⟨fuel, hf⟩ := h0
    rcases Go.Deep.open_slice Yba.underlying22 hf with ⟨hcs, _⟩ | ⟨x, len, cap, m, n, Dd, Pl, hcs, hb, hl, hm, hmm, hx, hel⟩
    · simp [Value.cells] at hcs
      obtain ⟨rfl, rfl, rfl⟩ := hcs
      intro p hp; omega
    · simp [Value.cells] at hcs
      obtain ⟨rfl, rfl, rfl⟩ := hcs
      have hlm : len0 ≤ m := by rw [hmm]; split <;> omega
      intro p hp
      obtain ⟨cs', e1, e2⟩ := hel p (by omega)
      rw [c23] at e1
      obtain ⟨_, hlen', hcell'⟩ := World.cells?_some e1
      obtain ⟨z, rfl⟩ := open23 e2
      refine ⟨z, x, rfl, ?_⟩
      have := hcell' 0 (by omega)
      rw [Nat.mul_one] at this
      have e : (x.add p).add 0 = x.add p := by obtain ⟨xb, xo, xs⟩ := x; cases xs <;> simp [Addr.add]
      rw [e] at this
      rw [this]
      rfl
  clear hA0 hval0
  refine (walk' a0 len0 cap0 m e W (bounds_i64 wfm).1 (bounds_i64 wfm).2 w0).mono fun e W' ⟨he, bel⟩ => ?_
  subst he
  exact ⟨_, rfl, _, _, _, [], _, [], hW', trodAll_mk1 (shut_bool Yba.underlying4 _), (trodAll_cons_mk (Below.trod laidOut (by kernel_rfl) (of_decide_eq_true (by kernel_rfl)) k0 bel lt0) (trodAll_cons_mk (shut_int Yba.underlying3 wfm) (trodAll_cons_mk (shut_float Yba.underlying23 wfe) trodAll_mk0))), rfl, bel.frame _, fun h => by cases h⟩

theorem over : Rows.lawS5902AWholeRow.holds Yba.pinned (OpenSpec.ofChange Rows.lawS5902AWholeSpec) :=
  OpenClaim.holds_of_wide 3 Yba.f3 rfl rfl rfl rfl rfl rfl rfl ⟨rfl, rfl, rfl, rfl, rfl⟩ rfl rfl rfl rfl rfl (by kernel_rfl) Yba.func3 (by kernel_rfl)
    (of_decide_eq_true (by kernel_rfl)) (by unfold Func.isWrapper; first | (rw [if_pos (by decide +kernel)]; kernel_rfl) | (rw [if_neg (by decide +kernel)]; exact ⟨rfl, rfl⟩))
    (fun os started H enc _ => lifted os started H enc)

/-- ████ THE STATEMENT ████ -/
theorem proved : Rows.LawS5902AWholeSaid := over
#print axioms proved
end Go.Proofs.Ybulkdrfa.lawS5902AWhole
