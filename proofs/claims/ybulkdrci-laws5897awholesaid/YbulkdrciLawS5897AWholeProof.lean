/-
  'Rows.LawS5897AWholeSaid' PROVED. The walk lies in YbulkdrciARun .. YbulkdrciALaw5.
-/
import Derived.Test.YbulkdrciRows
import Derived.Test.YbulkdrciALaw5
import Derived.WalkKit
import Derived.ProofKit
import Derived.OpenShut
import Derived.ShutString
import Derived.ChangeOld
import Derived.Below
import Derived.Deep.Slices
namespace Go.Proofs.Ybulkdrci.lawS5897AWhole
open Go.ChangeShapes Go.WideShapes Go.ChangeAt Go.RowKit
open Go.ChangeMaps (open_string shut_string)
set_option linter.unusedVariables false

theorem own : ownKnob Yba.prog.godebug = none := by kernel_rfl
theorem laidOut : laidOutB Yba.prog = true := by kernel_rfl
theorem c5 : Yba.prog.cellsOf 5 = 1 := by kernel_rfl
theorem c4 : Yba.prog.cellsOf 4 = 1 := by kernel_rfl

section
variable {H : Type} {enc : TypeId × Value → H} {w : World} {base : Nat} {spare : Nat → Bool} {held : Bool} {fuel : Nat} {cs : List Value} {x : DataW H × List MemPlace}
theorem open5 (h : DataW.trod enc Yba.prog w base spare held fuel 5 cs = some x) : ∃ b, cs = [.int .u8 b] := by
  obtain ⟨n, hcs, _, _⟩ := DataW.trod_int Yba.underlying5 h
  exact ⟨n, hcs⟩
theorem open4 (h : DataW.trod enc Yba.prog w base spare held fuel 4 cs = some x) : ∃ b, cs = [.bool b] := by
  obtain ⟨b, hcs, _⟩ := DataW.trod_bool Yba.underlying4 h
  exact ⟨b, hcs⟩
end
/-- What the walk is told of a slice of one-cell elements. -/
def Els {α : Type} (V : α → Value) (w : World) (a : Option Addr) (n : Nat) : Prop := ∀ p, p < n → ∃ z : α, ∃ x : Addr, a = some x ∧ w.cell? (x.add p) = some (V z)
theorem Els.choose {α : Type} [Inhabited α] {V : α → Value} {w : World} {a : Option Addr} {n : Nat} (h : Els V w a n) : ∃ Z : Nat → α, ∀ p, p < n → ∃ x : Addr, a = some x ∧ w.cell? (x.add p) = some (V (Z p)) :=
  ⟨fun p => if hp : p < n then (h p hp).choose else default, fun p hp => by
    simp only [hp, dite_true]
    exact (h p hp).choose_spec⟩
theorem walk' (co ct : ByteArray) (cf calls term : Int) (sA rA : Option Addr) (n cF nr cR : Nat) (w : World) (h1 : Els (fun z : Int => Value.int .u8 z) w sA n) (h2 : Els (fun z : Bool => Value.bool z) w rA nr) :
    Calls Yba.prog 3 #[.string co, .int .u8 cf, .string ct, .int .i64 calls, .int .u8 term, .slice sA n cF, .slice rA nr cR] w fun e w' => e = .returned (.bool true) ∧ Below w.heap.size w w' := by
  obtain ⟨Fl, hF⟩ := h1.choose
  obtain ⟨Rf, hR⟩ := h2.choose
  exact A.walk (Fl := Fl) (Rf := Rf) ⟨hF, hR⟩

set_option maxRecDepth 100000 in
theorem lifted (os : Os) (started : os.Started) (H : Type) (enc : TypeId × Value → H) :
    ReturnsInHanded {} Yba.checked os 3 .any (Rows.lawS5897AWholeSpec.pre6 enc Yba.prog Yba.f3 Rows.lawS5897AWholeRow.domain false) (Rows.lawS5897AWholeSpec.post enc Yba.prog Yba.f3 false true false false) := by
  refine returnsInHanded_of_change (C := Yba.checked) own started (by kernel_rfl) Yba.func3
    (ChangeSpec.witness6 (enc := enc) (C := Yba.checked) false ⟨#[], #[.string ⟨#[]⟩, .int .u8 0, .string ⟨#[]⟩, .int .i64 0, .int .u8 0, .slice none 0 0, .slice none 0 0], []⟩ 8 (by kernel_rfl) (by kernel_rfl) (by kernel_rfl) (by kernel_rfl)) ?_
  intro W base args ds gs before hval0 hW hcnd _
  have hval : ∀ (j : Nat) t v, Yba.f3.params[j]? = some t → args[j]? = some v → Value.okWide Yba.prog W .any base t v := hval0
  have hW' := hW
  obtain ⟨p, q, hA0, hV, rfl, hfz, hnd⟩ := hW
  have hA : DataW.TrodAll enc Yba.prog W 0 (fun _ => true) true Yba.f3.params.toList args.toList ds p := hA0
  rw [Yba.params3] at hA hval
  obtain ⟨v0, vs0, d0, ds0, p0, q0, hargs, rfl, rfl, h0, r0⟩ := trodAll_cons hA
  obtain ⟨v1, vs1, d1, ds1, p1, q1, rfl, rfl, rfl, h1, r1⟩ := trodAll_cons r0
  obtain ⟨v2, vs2, d2, ds2, p2, q2, rfl, rfl, rfl, h2, r2⟩ := trodAll_cons r1
  obtain ⟨v3, vs3, d3, ds3, p3, q3, rfl, rfl, rfl, h3, r3⟩ := trodAll_cons r2
  obtain ⟨v4, vs4, d4, ds4, p4, q4, rfl, rfl, rfl, h4, r4⟩ := trodAll_cons r3
  obtain ⟨v5, vs5, d5, ds5, p5, q5, rfl, rfl, rfl, h5, r5⟩ := trodAll_cons r4
  obtain ⟨v6, vs6, d6, ds6, p6, q6, rfl, rfl, rfl, h6, r6⟩ := trodAll_cons r5
  obtain ⟨rfl, rfl, rfl⟩ := trodAll_nil r6
  obtain rfl : args = #[v0, v1, v2, v3, v4, v5, v6] := by cases args; simp_all
  obtain ⟨rfl, rfl⟩ := trodVars_none hV
  obtain ⟨co, rfl, rfl, rfl, wco⟩ := open_string Yba.underlying9 (hval 0 9 v0 rfl rfl) h0
  obtain ⟨cf, rfl, rfl, rfl, wcf⟩ := open_int Yba.underlying5 (hval 1 5 v1 rfl rfl) h1
  obtain ⟨ct, rfl, rfl, rfl, wct⟩ := open_string Yba.underlying9 (hval 2 9 v2 rfl rfl) h2
  obtain ⟨calls, rfl, rfl, rfl, wcalls⟩ := open_int Yba.underlying3 (hval 3 3 v3 rfl rfl) h3
  obtain ⟨term, rfl, rfl, rfl, wterm⟩ := open_int Yba.underlying5 (hval 4 5 v4 rfl rfl) h4
  obtain ⟨a5, len5, cap5, rfl⟩ := okWide_slice Yba.underlying22 (hval 5 22 v5 rfl rfl)
  obtain ⟨a6, len6, cap6, rfl⟩ := okWide_slice Yba.underlying23 (hval 6 23 v6 rfl rfl)
  have k5 := h5
  have k6 := h6
  have lt5 : ∀ x ∈ p5, x.block < W.heap.size := by obtain ⟨m, hm⟩ := k5; exact DataW.trod_lt m _ _ _ hm
  have lt6 : ∀ x ∈ p6, x.block < W.heap.size := by obtain ⟨m, hm⟩ := k6; exact DataW.trod_lt m _ _ _ hm
  have w5 : Els (fun z : Int => Value.int .u8 z) W a5 len5 := by
    obtain ⟨fuel, hf⟩ := h5
    rcases Go.Deep.open_slice Yba.underlying22 hf with ⟨hcs, _⟩ | ⟨x, len, cap, m, n, Dd, Pl, hcs, hb, hl, hm, hmm, hx, hel⟩
    · simp [Value.cells] at hcs
      obtain ⟨rfl, rfl, rfl⟩ := hcs
      intro p hp; omega
    · simp [Value.cells] at hcs
      obtain ⟨rfl, rfl, rfl⟩ := hcs
      have hlm : len5 ≤ m := by rw [hmm]; split <;> omega
      intro p hp
      obtain ⟨cs', e1, e2⟩ := hel p (by omega)
      rw [c5] at e1
      obtain ⟨_, hlen', hcell'⟩ := World.cells?_some e1
      obtain ⟨z, rfl⟩ := open5 e2
      refine ⟨z, x, rfl, ?_⟩
      have := hcell' 0 (by omega)
      rw [Nat.mul_one] at this
      have e : (x.add p).add 0 = x.add p := by obtain ⟨xb, xo, xs⟩ := x; cases xs <;> simp [Addr.add]
      rw [e] at this
      rw [this]
      rfl
  have w6 : Els (fun z : Bool => Value.bool z) W a6 len6 := by
    obtain ⟨fuel, hf⟩ := h6
    rcases Go.Deep.open_slice Yba.underlying23 hf with ⟨hcs, _⟩ | ⟨x, len, cap, m, n, Dd, Pl, hcs, hb, hl, hm, hmm, hx, hel⟩
    · simp [Value.cells] at hcs
      obtain ⟨rfl, rfl, rfl⟩ := hcs
      intro p hp; omega
    · simp [Value.cells] at hcs
      obtain ⟨rfl, rfl, rfl⟩ := hcs
      have hlm : len6 ≤ m := by rw [hmm]; split <;> omega
      intro p hp
      obtain ⟨cs', e1, e2⟩ := hel p (by omega)
      rw [c4] at e1
      obtain ⟨_, hlen', hcell'⟩ := World.cells?_some e1
      obtain ⟨z, rfl⟩ := open4 e2
      refine ⟨z, x, rfl, ?_⟩
      have := hcell' 0 (by omega)
      rw [Nat.mul_one] at this
      have e : (x.add p).add 0 = x.add p := by obtain ⟨xb, xo, xs⟩ := x; cases xs <;> simp [Addr.add]
      rw [e] at this
      rw [this]
      rfl
  clear hA0 hval0
  refine (walk' co ct cf calls term a5 a6 len5 cap5 len6 cap6 W w5 w6).mono fun e W' ⟨he, bel⟩ => ?_
  subst he
  exact ⟨_, rfl, _, _, _, [], _, [], hW', trodAll_mk1 (shut_bool Yba.underlying4 _), (trodAll_cons_mk (shut_string Yba.underlying9 wco) (trodAll_cons_mk (shut_int Yba.underlying5 wcf) (trodAll_cons_mk (shut_string Yba.underlying9 wct) (trodAll_cons_mk (shut_int Yba.underlying3 wcalls) (trodAll_cons_mk (shut_int Yba.underlying5 wterm) (trodAll_cons_mk (Below.trod laidOut (by kernel_rfl) (of_decide_eq_true (by kernel_rfl)) k5 bel lt5) (trodAll_cons_mk (Below.trod laidOut (by kernel_rfl) (of_decide_eq_true (by kernel_rfl)) k6 bel lt6) trodAll_mk0))))))), rfl, bel.frame _, fun h => by cases h⟩

theorem over : Rows.lawS5897AWholeRow.holds Yba.pinned (OpenSpec.ofChange Rows.lawS5897AWholeSpec) :=
  OpenClaim.holds_of_wide 3 Yba.f3 rfl rfl rfl rfl rfl rfl rfl ⟨rfl, rfl, rfl, rfl, rfl⟩ rfl rfl rfl rfl rfl (by kernel_rfl) Yba.func3 (by kernel_rfl)
    (of_decide_eq_true (by kernel_rfl)) (by unfold Func.isWrapper; first | (rw [if_pos (by decide +kernel)]; kernel_rfl) | (rw [if_neg (by decide +kernel)]; exact ⟨rfl, rfl⟩))
    (fun os started H enc _ => lifted os started H enc)

/-- ████ THE STATEMENT ████ -/
theorem proved : Rows.LawS5897AWholeSaid := over
#print axioms proved
end Go.Proofs.Ybulkdrci.lawS5897AWhole
