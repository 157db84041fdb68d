/-
  'Rows.LawS5900CWholeSaid' PROVED. The walk lies in YbulkdrdyFnd .. YbulkdrdyLaw3.
-/
import Derived.Test.YbulkdrdyRows
import Derived.Test.YbulkdrdyLaw3
import Derived.WalkKit
import Derived.ProofKit
import Derived.OpenShut
import Derived.ShutString
import Derived.ChangeOld
import Derived.Below
import Derived.Deep.Slices
namespace Go.Proofs.Ybulkdrdy.lawS5900CWhole
open Go.ChangeShapes Go.WideShapes Go.ChangeAt Go.RowKit
open Go.ChangeMaps (open_string shut_string)
set_option linter.unusedVariables false

theorem own : ownKnob Yba.prog.godebug = none := by kernel_rfl
theorem laidOut : laidOutB Yba.prog = true := by kernel_rfl
theorem c32 : Yba.prog.cellsOf 32 = 3 := by kernel_rfl
theorem c5 : Yba.prog.cellsOf 5 = 1 := by kernel_rfl
theorem c2 : Yba.prog.cellsOf 2 = 1 := by kernel_rfl

/-- One entry, read as data. -/
theorem open32 {H : Type} {enc : TypeId × Value → H} {w : World} {base : Nat} {spare : Nat → Bool} {held : Bool} {fuel : Nat} {cs : List Value} {x : DataW H × List MemPlace} (h : DataW.trod enc Yba.prog w base spare held fuel 32 cs = some x) :
    ∃ z : Int × Int × Int, cs = [.int .u8 z.1, .int .u8 z.2.1, .int .i64 z.2.2] ∧ (0 ≤ z.1 ∧ z.1 ≤ 255) ∧ (0 ≤ z.2.1 ∧ z.2.1 ≤ 255) := by
  obtain ⟨xs, k, hk, hxy, hlen, hxl, hf⟩ := DataW.trod_struct Yba.underlying32 h
  rw [c32] at hlen
  match xs, hxl, cs, hlen with
  | [y0, y1, y2], _, [v0, v1, v2], _ =>
    have g0 := hf 0 _ rfl
    have g1 := hf 1 _ rfl
    have g2 := hf 2 _ rfl
    simp [c5, c2] at g0 g1 g2
    obtain ⟨n0, e0, f0, wf0⟩ := DataW.trod_int Yba.underlying5 g0
    obtain ⟨n1, e1, f1, wf1⟩ := DataW.trod_int Yba.underlying5 g1
    obtain ⟨n2, e2, f2, wf2⟩ := DataW.trod_int Yba.underlying2 g2
    simp only [List.cons.injEq, and_true] at e0 e1 e2
    subst e0 e1 e2
    exact ⟨(n0, n1, n2), rfl, bounds_u8 wf0, bounds_u8 wf1⟩

/-- What the walk is told of the entries. -/
def IsEnts (w : World) (a : Option Addr) (n : Nat) : Prop := ∀ p, p < n → ∃ z : Int × Int × Int, (0 ≤ z.1 ∧ z.1 ≤ 255) ∧ (0 ≤ z.2.1 ∧ z.2.1 ≤ 255) ∧ ∃ x : Addr, a = some x ∧ ∀ q v, ([.int .u8 z.1, .int .u8 z.2.1, .int .i64 z.2.2] : List Value)[q]? = some v → w.cell? ((x.add (p * 3)).add q) = some v

theorem spot_none {w : World} {x : Addr} {v : Value} (h : w.cell? x = some v) : x.spot = none := by
  unfold World.cell? at h
  split at h
  · split at h
    · cases h
    · rename_i hns; simpa using hns
  · cases h

theorem walk (path : ByteArray) (a : Option Addr) (n c : Nat) (w : World) (hE : IsEnts w a n) :
    Calls Yba.prog 3 #[.string path, .slice a n c] w fun e w' => e = .returned (.bool true) ∧ Below w.heap.size w w' := by
  by_cases hbig : 1048576 < n
  · exact walkBig hbig
  obtain ⟨Z, hZ⟩ : ∃ Z : Nat → Int × Int × Int, ∀ p, p < n → (0 ≤ (Z p).1 ∧ (Z p).1 ≤ 255) ∧ (0 ≤ (Z p).2.1 ∧ (Z p).2.1 ≤ 255) ∧ ∃ x : Addr, a = some x ∧ ∀ q v, ([.int .u8 (Z p).1, .int .u8 (Z p).2.1, .int .i64 (Z p).2.2] : List Value)[q]? = some v → w.cell? ((x.add (p * 3)).add q) = some v :=
    ⟨fun p => if h : p < n then (hE p h).choose else (0, 0, 0), fun p hp => by
      simp only [hp, dite_true]
      exact (hE p hp).choose_spec⟩
  refine Ybulkdrdy.walk (D := ⟨path, a, n, c, fun p => (Z p).1, fun p => (Z p).2.1, fun p => (Z p).2.2⟩) ⟨by show n ≤ _; omega, fun p hp => ?_, fun p hp => (hZ p hp).1, fun p hp => (hZ p hp).2.1⟩
  have hp' : p < n := hp
  obtain ⟨_, _, x, hx, hc⟩ := hZ p hp'
  obtain ⟨_, _, x0, hx0, hc0⟩ := hZ 0 (by omega)
  have hs : x0.spot = none := by
    have := hc0 0 _ rfl
    have e : (x0.add (0 * 3)).add 0 = x0 := by simp [Addr.add]
    rw [e] at this
    exact spot_none this
  have hxx : x = x0 := by rw [hx] at hx0; exact Option.some.inj hx0
  subst hxx
  obtain ⟨ab, ao, sp⟩ := x
  simp only at hs
  subst hs
  refine ⟨ab, ao, hx, fun q v hq => ?_⟩
  have := hc q v hq
  rwa [Sym.add_none, Sym.add_none] at this

set_option maxRecDepth 100000 in
theorem lifted (os : Os) (started : os.Started) (H : Type) (enc : TypeId × Value → H) :
    ReturnsInHanded {} Yba.checked os 3 .any (Rows.lawS5900CWholeSpec.pre6 enc Yba.prog Yba.f3 Rows.lawS5900CWholeRow.domain false) (Rows.lawS5900CWholeSpec.post enc Yba.prog Yba.f3 false true false false) := by
  refine returnsInHanded_of_change (C := Yba.checked) own started (by kernel_rfl) Yba.func3
    (ChangeSpec.witness6 (enc := enc) (C := Yba.checked) false ⟨#[], #[.string ⟨#[]⟩, .slice none 0 0], []⟩ 8 (by kernel_rfl) (by kernel_rfl) (by kernel_rfl) (by kernel_rfl)) ?_
  intro W base args ds gs before hval0 hW hcnd _
  have hval : ∀ (j : Nat) t v, Yba.f3.params[j]? = some t → args[j]? = some v → Value.okWide Yba.prog W .any base t v := hval0
  have hW' := hW
  obtain ⟨p, q, hA0, hV, rfl, hfz, hnd⟩ := hW
  have hA : DataW.TrodAll enc Yba.prog W 0 (fun _ => true) true Yba.f3.params.toList args.toList ds p := hA0
  rw [Yba.params3] at hA hval
  obtain ⟨v0, vs0, d0, ds0, p0, q0, hargs, rfl, rfl, h0, r0⟩ := trodAll_cons hA
  obtain ⟨v1, vs1, d1, ds1, p1, q1, rfl, rfl, rfl, h1, r1⟩ := trodAll_cons r0
  obtain ⟨rfl, rfl, rfl⟩ := trodAll_nil r1
  obtain rfl : args = #[v0, v1] := by cases args; simp_all
  obtain ⟨rfl, rfl⟩ := trodVars_none hV
  obtain ⟨path, rfl, rfl, rfl, hpath⟩ := open_string Yba.underlying9 (hval 0 9 v0 rfl rfl) h0
  obtain ⟨a1, len1, cap1, rfl⟩ := okWide_slice Yba.underlying22 (hval 1 22 v1 rfl rfl)
  have k1 := h1
  have lt1 : ∀ x ∈ p1, x.block < W.heap.size := by obtain ⟨m, hm⟩ := k1; exact DataW.trod_lt m _ _ _ hm
  have w1 : IsEnts W a1 len1 := by
    obtain ⟨fuel, hf⟩ := h1
    rcases Go.Deep.open_slice Yba.underlying22 hf with ⟨hcs, _⟩ | ⟨x, len, cap, m, n, Dd, Pl, hcs, hb, hl, hm, hmm, hx, hel⟩
    · simp [Value.cells] at hcs
      obtain ⟨rfl, rfl, rfl⟩ := hcs
      intro p hp; omega
    · simp [Value.cells] at hcs
      obtain ⟨rfl, rfl, rfl⟩ := hcs
      have hlm : len1 ≤ m := by rw [hmm]; split <;> omega
      intro p hp
      obtain ⟨cs', e1, e2⟩ := hel p (by omega)
      rw [c32] at e1
      obtain ⟨_, hlen', hcell'⟩ := World.cells?_some e1
      obtain ⟨z, rfl, hz1, hz2⟩ := open32 e2
      refine ⟨z, hz1, hz2, x, rfl, fun q v hq => ?_⟩
      have hq3 : q < 3 := (List.getElem?_eq_some_iff.1 hq).1
      rw [hcell' q hq3]
      exact hq
  clear hA0 hval0
  refine (walk path a1 len1 cap1 W w1).mono fun e W' ⟨he, bel⟩ => ?_
  subst he
  exact ⟨_, rfl, _, _, _, [], _, [], hW', trodAll_mk1 (shut_bool Yba.underlying4 _), (trodAll_cons_mk (shut_string Yba.underlying9 hpath) (trodAll_cons_mk (Below.trod laidOut (by kernel_rfl) (of_decide_eq_true (by kernel_rfl)) k1 bel lt1) trodAll_mk0)), rfl, bel.frame _, fun h => by cases h⟩

theorem over : Rows.lawS5900CWholeRow.holds Yba.pinned (OpenSpec.ofChange Rows.lawS5900CWholeSpec) :=
  OpenClaim.holds_of_wide 3 Yba.f3 rfl rfl rfl rfl rfl rfl rfl ⟨rfl, rfl, rfl, rfl, rfl⟩ rfl rfl rfl rfl rfl (by kernel_rfl) Yba.func3 (by kernel_rfl)
    (of_decide_eq_true (by kernel_rfl)) (by unfold Func.isWrapper; first | (rw [if_pos (by decide +kernel)]; kernel_rfl) | (rw [if_neg (by decide +kernel)]; exact ⟨rfl, rfl⟩))
    (fun os started H enc _ => lifted os started H enc)

/-- ████ THE STATEMENT ████ -/
theorem proved : Rows.LawS5900CWholeSaid := over
#print axioms proved
end Go.Proofs.Ybulkdrdy.lawS5900CWhole
