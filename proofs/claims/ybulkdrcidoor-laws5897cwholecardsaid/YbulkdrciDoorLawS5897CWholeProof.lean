/-
  'Rows.LawS5897CWholeSaid' and its card PROVED. The walk lies in YbulkdrciDoorForms .. YbulkdrciDoorLaw2, the plain law in YbulkdrciDoorPlain.
-/
import Derived.Test.YbulkdrciDoorRows
import Derived.Test.YbulkdrciDoorTie
import Derived.Test.YbulkdrciDoorCards
import Derived.Test.YbulkdrciDoorLaw2
import Derived.WalkKit
import Derived.ProofKit
import Derived.OpenShut
import Derived.Carry
import Derived.ShutString
import Derived.ChangeOld
import Derived.ChangeVars
import Derived.Below
import Derived.LaidByTextLater
import Derived.Deep.Slices
import Derived.Stop.Joined
import Derived.SevenTiedAt
namespace Go.Proofs.YbulkdrciDoor.lawS5897CWhole
open Go.ChangeShapes Go.WideShapes Go.ChangeAt Go.RowKit
open Go.ChangeMaps (open_string shut_string)
set_option linter.unusedVariables false

theorem own : ownKnob Ybad.prog.godebug = none := by kernel_rfl
theorem laidOut : laidOutB Ybad.prog = true := by kernel_rfl
/-- The variable's name, off the given row. -/
def formsName : String := Rows.lawS5897CWholeSpec.vars.headD ""
theorem gForms : Ybad.prog.globalNamed formsName = some 0 := by kernel_rfl
theorem tForms : (Ybad.prog.globals[0]?).map (·.type) = some 42 := by kernel_rfl
theorem c30 : Ybad.prog.cellsOf 30 = 4 := by kernel_rfl
theorem c9 : Ybad.prog.cellsOf 9 = 1 := by kernel_rfl
theorem c4 : Ybad.prog.cellsOf 4 = 1 := by kernel_rfl
theorem c28 : Ybad.prog.cellsOf 28 = 1 := by kernel_rfl

/-- One form, read as data. -/
theorem open30 {H : Type} {enc : TypeId × Value → H} {w : World} {base : Nat} {spare : Nat → Bool} {held : Bool} {fuel : Nat} {cs : List Value} {x : DataW H × List MemPlace} (h : DataW.trod enc Ybad.prog w base spare held fuel 30 cs = some x) :
    ∃ c : CF, cs = c.cells ∧ x.1 = .agg [.lit (.string c.whn.data.toList), .lit (.string c.point.data.toList), .lit (.bool c.to), .lit (.int .u8 c.fail)] := by
  obtain ⟨xs, k, hk, hxy, hlen, hxl, hf⟩ := DataW.trod_struct Ybad.underlying30 h
  rw [c30] at hlen
  match xs, hxl, cs, hlen with
  | [y0, y1, y2, y3], _, [v0, v1, v2, v3], _ =>
    have g0 := hf 0 _ rfl
    have g1 := hf 1 _ rfl
    have g2 := hf 2 _ rfl
    have g3 := hf 3 _ rfl
    simp [c9, c4, c28] at g0 g1 g2 g3
    obtain ⟨s0, e0, f0, _⟩ := DataW.trod_string Ybad.underlying9 g0
    obtain ⟨s1, e1, f1, _⟩ := DataW.trod_string Ybad.underlying9 g1
    obtain ⟨b2, e2, f2⟩ := DataW.trod_bool Ybad.underlying4 g2
    obtain ⟨n3, e3, f3, _⟩ := DataW.trod_int Ybad.underlying28 g3
    simp only [List.cons.injEq, and_true] at e0 e1 e2 e3
    subst e0 e1 e2 e3
    refine ⟨⟨s0, s1, b2, n3⟩, rfl, ?_⟩
    rw [hxy]
    simp [f0, f1, f2, f3]

theorem bytes_of {b : ByteArray} {l : List UInt8} (h : b.data.toList = l) : b = ⟨l.toArray⟩ := by
  cases b
  simp only at h
  congr 1
  rw [← h]

/-- WHAT THE CONDITION GIVES THE WALK: the variable's cell, the six forms. -/
theorem of_laid {W : World} (h : laidMetH Ybad.prog Rows.lawS5897CWholeRow.laid W) : ∃ gb g0 gc, W.cell? ⟨0, 0, none⟩ = some (.slice (some ⟨gb, g0, none⟩) 6 gc) ∧ ∀ i, i < 6 → ∀ (q : Nat) v, (cf i).cells[q]? = some v → W.cell? ⟨gb, g0 + i * 4 + q, none⟩ = some v := by
  rw [MakeChecks.laidMetH_plain _ _ _ (by kernel_rfl)] at h
  obtain ⟨ps, ⟨g0, t0, cs0, f0, p0, q0, hg0, ht0, hv0, hd0, _⟩, _, _⟩ := h
  obtain rfl := Option.some.inj (gForms.symm.trans hg0)
  obtain rfl := Option.some.inj (tForms.symm.trans ht0)
  rcases Go.Deep.open_slice Ybad.underlying42 hd0 with ⟨_, hx⟩ | ⟨a, len, cap, m, n, D, Pl, hcs, hb, hl, hm, hmm, hx, hel⟩
  · simp [Rows.laid_example_com_serialis_serialis_crashForms] at hx
  simp only [Prod.mk.injEq] at hx
  have hlm : len ≤ m := by rw [hmm]; split <;> omega
  obtain ⟨hx, _⟩ := hx
  unfold Rows.laid_example_com_serialis_serialis_crashForms at hx
  simp only [DataW.slice.injEq] at hx
  obtain ⟨hx, _⟩ := hx
  have hlen : len = 6 := by
    have := congrArg List.length hx
    simpa using this.symm
  subst hlen
  rw [c30] at hel
  have hcell : W.cell? ⟨0, 0, none⟩ = some (.slice (some a) 6 cap) := by
    have := World.var?_cell hg0 hv0 0
    rw [Array.eq_one_of_toList hcs] at this
    simpa using this
  have each : ∀ i, i < 6 → (∀ (q : Nat) v, (cf i).cells[q]? = some v → W.cell? ((a.add (i * 4)).add q) = some v) := by
    intro i hi q v hq
    obtain ⟨cs', h1, h2⟩ := hel i (by omega)
    obtain ⟨_, hlen', hcell'⟩ := World.cells?_some h1
    obtain ⟨c, rfl, hc⟩ := open30 h2
    have hDi : c = cf i := by
      have e := congrArg (fun l => l[i]?) hx
      simp only [List.getElem?_map] at e
      obtain ⟨s0, s1, b2, n3⟩ := c
      have hc' : D i = .agg [.lit (.string s0.data.toList), .lit (.string s1.data.toList), .lit (.bool b2), .lit (.int .u8 n3)] := hc
      match i, hi with
      | 0, _ | 1, _ | 2, _ | 3, _ | 4, _ | 5, _ =>
        simp at e
        rw [hc'] at e
        simp only [DataW.agg.injEq, List.cons.injEq, DataW.lit.injEq, Lit.string.injEq, Lit.bool.injEq, Lit.int.injEq, true_and, and_true] at e
        obtain ⟨e0, e1, e2, e3⟩ := e
        rw [bytes_of e0.symm, bytes_of e1.symm, ← e2, ← e3]
        rfl
    subst hDi
    have hq4 : q < 4 := (List.getElem?_eq_some_iff.1 hq).1
    rw [hcell' q hq4]
    exact hq
  have hspot : a.spot = none := by
    have := each 0 (by decide) 0 _ rfl
    have e : (a.add (0 * 4)).add 0 = a := by simp [Addr.add]
    rw [e] at this
    unfold World.cell? at this
    split at this
    · split at this
      · cases this
      · rename_i hns; simpa using hns
    · cases this
  obtain ⟨gb, g0, sp⟩ := a
  simp only at hspot
  subst hspot
  refine ⟨gb, g0, cap, hcell, fun i hi q v hq => ?_⟩
  have := each i hi q v hq
  rwa [Sym.add_none, Sym.add_none] at this

/-- The variable reads behind the call as it did. -/
theorem var_stays {H : Type} {enc : TypeId × Value → H} {W W' : World} {gs : List (DataW H)} {q : List MemPlace} (bel : Below W.heap.size W W') (hlt : ∀ x ∈ q, x.block < W.heap.size) (h : DataW.TrodVars enc Ybad.prog W (fun _ => true) [formsName] gs q) :
    DataW.TrodVars enc Ybad.prog W' (fun b => decide (b < W.heap.size)) [formsName] gs q := by
  obtain ⟨g, t, cs, f, d, p, rfl, h1, h2, h3, h4, rfl⟩ := trodVars_one h
  obtain rfl := Option.some.inj (gForms.symm.trans h1)
  obtain rfl := Option.some.inj (tForms.symm.trans h2)
  obtain ⟨v, hv⟩ : ∃ v : Value, cs.toList = v.cells.toList := by
    rcases Go.Deep.open_slice Ybad.underlying42 h4 with ⟨e, _⟩ | ⟨a, len, cap, m, n, D, Pl, e, _⟩
    · exact ⟨.slice none 0 0, e⟩
    · exact ⟨.slice (some a) len cap, e⟩
  rw [hv] at h4
  obtain ⟨f', h5⟩ := Below.trod laidOut (by kernel_rfl) (of_decide_eq_true (by kernel_rfl)) ⟨f, h4⟩ bel (fun x hx => hlt x (List.mem_append_right _ hx))
  rw [← hv] at h5
  refine trodVars_mk1 h1 h2 ?_ h5
  unfold World.var? at h3 ⊢
  rw [h1] at h3 ⊢
  simp only [Option.bind_some] at h3 ⊢
  have hg : 0 < W.heap.size := by
    cases hh : W.heap[0]? with
    | none => rw [hh] at h3; cases h3
    | some o => exact (Array.getElem?_eq_some_iff.1 hh).1
  rw [bel.block 0 hg]; exact h3

/-- The door's own heap meets the condition. -/
theorem door_met (os : Os) (args : Array Value) : laidMetH Ybad.prog Rows.lawS5897CWholeRow.laid (({ World.holding Ybad.prog os ⟨#[], #[], []⟩ with heap := (varsWorld Ybad.prog 400 (varsId Ybad.prog) os (fun _ _ => 0)).heap } : World).forCall (fun _ _ => 0) ⟨#[], args, []⟩).memory :=
  laidMetH_of_parts3 (fuel := 8) (laidMet_of_run' 8 (by kernel_rfl) (by kernel_rfl)) (by kernel_rfl) (by kernel_rfl)

/-- WHAT THE WALK IS TOLD OF A SLICE OF INTEGERS THAT CAME IN. -/
def IsRow (k : IntKind) (w : World) (a : Option Addr) (len cap : Nat) (zs : List Int) : Prop :=
  (a = none ∧ len = 0 ∧ cap = 0 ∧ zs = []) ∨
  ∃ x, a = some x ∧ len ≤ cap ∧ cap ≤ maxLen ∧ zs.length = cap ∧ (∀ i, i < zs.length → w.cell? (x.add i) = some (.int k (zs.getD i 0))) ∧ ∀ n ∈ zs, (Lit.int k n).wf = true

theorem walk (a0 : Option Addr) (len0 cap0 : Nat) (z0 : List Int) (raw : ByteArray) (w : World) (w0 : IsRow .u8 w a0 len0 cap0 z0) (hL : laidMetH Ybad.prog Rows.lawS5897CWholeRow.laid w) :
    Calls Ybad.prog 3 #[.slice a0 len0 cap0, .string raw] w fun e w' => e = .returned (.bool true) ∧ Below w.heap.size w w' := by
  by_cases hbig : 1048576 < len0
  · exact walkBig hbig
  obtain ⟨gb, g0, gc, hG, hcf⟩ := of_laid hL
  refine YbulkdrciDoor.walk (z := fun p => z0.getD p 0) (by omega) (fun p hp => ?_) hG hcf
  rcases w0 with ⟨_, h1, _⟩ | ⟨x, rfl, h1, h2, h3, h4, h5⟩
  · omega
  · have hlt : p < z0.length := by omega
    have hmem : z0.getD p 0 ∈ z0 := by simp [hlt]
    exact ⟨x, rfl, h4 p hlt, bounds_u8 (h5 _ hmem)⟩

set_option maxRecDepth 100000 in
theorem lifted (os : Os) (started : os.Started) (H : Type) (enc : TypeId × Value → H) :
    ReturnsInHanded {} Ybad.checked os 3 .any (fun w args => (Rows.lawS5897CWholeSpec.pre enc Ybad.prog Ybad.f3 [] false w args ∧ laidMetH Ybad.prog Rows.lawS5897CWholeRow.laid w) ∧ sizedMet enc Ybad.prog Ybad.f3 (OpenSpec.ofChange Rows.lawS5897CWholeSpec) false w args)
      (Rows.lawS5897CWholeSpec.post enc Ybad.prog Ybad.f3 false true false false) := by
  refine returnsInHanded_of_change_and (C := Ybad.checked) (X := fun w _ => laidMetH Ybad.prog Rows.lawS5897CWholeRow.laid w) (fun _ _ _ hh h => h.of_heap hh) own started (by kernel_rfl) Ybad.func3
    (ChangeSpec.witness_shaped (enc := enc) (C := Ybad.checked) (os := os) (X := fun w _ => laidMetH Ybad.prog Rows.lawS5897CWholeRow.laid w) false { World.holding Ybad.prog os ⟨#[], #[], []⟩ with heap := (varsWorld Ybad.prog 400 (varsId Ybad.prog) os (fun _ _ => 0)).heap } #[.slice none 0 0, .string ⟨#[]⟩] 8 rfl (World.shaped_of_RefB (by kernel_rfl) (by kernel_rfl)) (by kernel_rfl) (by kernel_rfl) (by kernel_rfl) (door_met os _)) ?_
  intro W base args ds gs before hval0 hW _ _ hL _
  have hval : ∀ (j : Nat) t v, Ybad.f3.params[j]? = some t → args[j]? = some v → Value.okWide Ybad.prog W .any base t v := hval0
  have hW' := hW
  obtain ⟨p, q, hA0, hV, rfl, hfz, hnd⟩ := hW
  have hA : DataW.TrodAll enc Ybad.prog W 0 (fun _ => true) true Ybad.f3.params.toList args.toList ds p := hA0
  rw [Ybad.params3] at hA hval
  obtain ⟨v0, vs0, d0, ds0, p0, q0, hargs, rfl, rfl, h0, r0⟩ := trodAll_cons hA
  obtain ⟨v1, vs1, d1, ds1, p1, q1, rfl, rfl, rfl, h1, r1⟩ := trodAll_cons r0
  obtain ⟨rfl, rfl, rfl⟩ := trodAll_nil r1
  obtain rfl : args = #[v0, v1] := by cases args; simp_all
  have hV' := hV
  obtain ⟨g1, t1, cs1, f1, dv, pv, rfl, _, _, _, _, _⟩ := trodVars_one hV'
  obtain ⟨a0, len0, cap0, rfl⟩ := okWide_slice Ybad.underlying22 (hval 0 22 v0 rfl rfl)
  have k0 := h0
  have lt0 : ∀ x ∈ p0, x.block < W.heap.size := by obtain ⟨m, hm⟩ := k0; exact DataW.trod_lt m _ _ _ hm
  obtain ⟨z0, w0⟩ : ∃ zs, IsRow .u8 W a0 len0 cap0 zs := by
    obtain ⟨fuel, hf⟩ := h0
    rcases open_ints Ybad.underlying22 Ybad.underlying5 (by kernel_rfl) hf with ⟨hcs, _⟩ | ⟨x, l, c, zs, hcs, _, hl, hm, hz, _, hcell, hwz⟩
    · simp [Value.cells] at hcs
      obtain ⟨rfl, rfl, rfl⟩ := hcs
      exact ⟨[], .inl ⟨rfl, rfl, rfl, rfl⟩⟩
    · simp [Value.cells] at hcs
      obtain ⟨rfl, rfl, rfl⟩ := hcs
      exact ⟨zs, .inr ⟨_, rfl, hl, hm, by simpa using hz, hcell, hwz⟩⟩
  obtain ⟨raw, rfl, rfl, rfl, hraw⟩ := open_string Ybad.underlying9 (hval 1 9 v1 rfl rfl) h1
  clear hA0 hval0
  refine (walk a0 len0 cap0 z0 raw W w0 hL).mono fun e W' ⟨he, bel⟩ => ?_
  subst he
  exact ⟨_, rfl, _, _, _, [], _, _, hW', trodAll_mk1 (shut_bool Ybad.underlying4 _), (trodAll_cons_mk (Below.trod laidOut (by kernel_rfl) (of_decide_eq_true (by kernel_rfl)) k0 bel lt0) (trodAll_cons_mk (shut_string Ybad.underlying9 hraw) trodAll_mk0)), var_stays bel hV.lt hV, bel.frame _, fun h => by cases h⟩

theorem over : Rows.LawS5897CWholeSaid :=
  OpenClaim.holds_of_wide 3 Ybad.f3 rfl rfl rfl rfl rfl rfl rfl ⟨rfl, rfl, rfl, rfl, rfl⟩ rfl rfl rfl rfl rfl (by kernel_rfl) Ybad.func3 (by kernel_rfl)
    (of_decide_eq_true (by kernel_rfl)) (by unfold Func.isWrapper; first | (rw [if_pos (by decide +kernel)]; kernel_rfl) | (rw [if_neg (by decide +kernel)]; exact ⟨rfl, rfl⟩))
    (fun os started H enc _ => lifted os started H enc)

/-- ████ THE CARD ████ -/
theorem proved : Rows.LawS5897CWholeCardSaid :=
  Claim7.holds_tied_plain_at .later [] [.data] true (true, "f2ec611f290c9098b79bedd867dd760b4dfc192aedca24be988907d3957b5b09") false
    over (fun _ h => by cases h) (by kernel_rfl) (fun _ h => by cases h) lawS5897CWhole_row_tie rfl ⟨rfl, rfl⟩ (by kernel_rfl) rfl
    (fun f fn hf hfn => by
      obtain rfl : f = 3 := Option.some.inj ((show Ybad.prog.funcNamed Rows.lawS5897CWholeRow.func = some 3 by kernel_rfl).symm.trans hf) |>.symm
      obtain rfl : fn = Ybad.f3 := (Option.some.inj (Ybad.func3.symm.trans hfn)).symm
      exact ⟨by kernel_rfl, fun j t ht => by
        rw [Ybad.params3] at ht
        have hm : t ∈ [22, 9] := by simpa using Array.mem_of_getElem? ht
        have hall : ([22, 9].all fun u => !Ybad.prog.wantsStandIn u) = true := by kernel_rfl
        exact (show Ybad.prog.wantsStandIn t = false by simpa using List.all_eq_true.1 hall t hm)⟩)
    (by kernel_rfl)
#print axioms proved
end Go.Proofs.YbulkdrciDoor.lawS5897CWhole
