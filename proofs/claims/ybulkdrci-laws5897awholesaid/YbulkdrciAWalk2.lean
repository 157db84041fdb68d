import Derived.Test.YbulkdrciAWalk
namespace Go.Proofs.Ybulkdrci.A
open Go Go.RowKit Go.Proofs.Ybulkdrci.A.Sym
set_option linter.unusedVariables false
set_option linter.unusedSimpArgs false
set_option maxRecDepth 100000

section
variable {D : RD} {br bN : Nat} {cm : Bool} {x y : Int} {s : NSt} {w : World}
/-- What phase two's closures hold. -/
structure Caps2 (w : World) (br bN c2 c3 c4 c5 c6 till : Nat) (mg rc : Int) : Prop where
  h2 : w.cell? ⟨c2, 0, none⟩ = some (pt br)
  h3 : w.cell? ⟨c3, 0, none⟩ = some (.int .i64 till)
  h4 : w.cell? ⟨c4, 0, none⟩ = some (.bool true)
  h5 : w.cell? ⟨c5, 0, none⟩ = some (.int .u8 mg)
  h6 : w.cell? ⟨c6, 0, none⟩ = some (.int .u8 rc)
  o2 : c2 ∉ [br, bN]
  o3 : c3 ∉ [br, bN]
  o4 : c4 ∉ [br, bN]
  o5 : c5 ∉ [br, bN]
  o6 : c6 ∉ [br, bN]
theorem Caps2.go {w0 w : World} {br bN c2 c3 c4 c5 c6 till : Nat} {mg rc : Int} {m : List Blk} (h : Caps2 w0 br bN c2 c3 c4 c5 c6 till mg rc) (hM : Mm w0 [br, bN] m w) : Caps2 w br bN c2 c3 c4 c5 c6 till mg rc :=
  ⟨Mm.oldCell hM h.o2 h.h2, Mm.oldCell hM h.o3 h.h3, Mm.oldCell hM h.o4 h.h4, Mm.oldCell hM h.o5 h.h5, Mm.oldCell hM h.o6 h.h6, h.o2, h.o3, h.o4, h.o5, h.o6⟩
/-- phaseTwo$3 -/
theorem call47 {k c2 : Nat} (hk : k ≤ D.n) (h2 : w.cell? ⟨c2, 0, none⟩ = some (pt br)) (hA : At D br bN cm x y s w) : Calls Yba.prog 47 #[.int .i64 k, pt c2] w fun e w' => e = .returned (.bool (s k).dn) ∧ Mm w [] [] w' := by
  obtain ⟨i92, hi, hz, hs, hb⟩ := info_parts info92
  have hb5 : w.cell? ⟨br, 0 + 5, none⟩ = some (nsl D bN) := by simp [World.cell?, hA.hr, rrow, row, rcells]
  refine Calls.of_SC (args := [.int .i64 k, pt c2]) Yba.func47 rfl (by simp [Yba.f47]) (Mm.start w) ?_
  refine SC.seq ?_
  refine SC.region ?_
  refine SL.y (OV.assign rfl) rfl ?_
  refine SL.nil ?_
  refine SC.then ?_
  refine SC.seq ?_
  refine SC.region ?_
  refine SL.y (OV.loadOld sc81 rfl (by simp) h2) rfl ?_
  refine SL.y (OV.nilCheck rfl) rfl ?_
  refine SL.y (OV.fld fo88_2 rfl) rfl ?_
  refine SL.y (OV.loadOld sc86 rfl (by simp) hb5) rfl ?_
  refine SL.y (OV.move rfl) rfl ?_
  refine SL.y (OV.idx k u86 hi hs rfl rfl rfl (by omega)) rfl ?_
  refine SL.y (OV.fld fo92_2 rfl) rfl ?_
  refine SL.y (OV.loadOld sc4 rfl (by simp) (cell2 hA.hn hk)) rfl ?_
  refine SL.y (OV.assign rfl) rfl ?_
  refine SL.nil ?_
  refine SC.then ?_
  refine SC.ret ?_
  exact SE.ret1 Yba.results47 rfl (fun w' hM => ⟨rfl, hM⟩)
theorem pf47 : plainFunc Yba.prog 47 = true := by kernel_rfl
/-- phaseTwo$2 -/
theorem call46 {k c2 : Nat} (hk : k ≤ D.n) (h2 : w.cell? ⟨c2, 0, none⟩ = some (pt br)) (o2 : c2 ∉ [br, bN]) (hA : At D br bN cm x y s w) : Does 46 #[.int .i64 k, .int .i64 0, pt c2] w D br bN (.tuple #[]) cm s := by
  refine Calls.of_SC (args := [.int .i64 k, .int .i64 0, pt c2]) Yba.func46 rfl (by simp [Yba.f46]) hA.start ?_
  refine SC.seq ?_
  refine SC.region ?_
  refine SL.y (OV.loadOld sc81 rfl o2 h2) rfl ?_
  refine SL.y (OV.nilCheck rfl) rfl ?_
  refine SL.y (OV.fld fo88_3 rfl) rfl ?_
  refine SL.y (OV.fld fo34_2 rfl) rfl ?_
  refine SL.y (OV.loadF 0 sc4 rfl rfl rfl) rfl ?_
  refine SL.y (OV.not rfl) rfl ?_
  refine SL.nil ?_
  refine SC.then ?_
  refine SC.cond rfl (fun _ => ?_) (fun e => by cases e)
  refine SC.region ?_
  refine SL.y (OV.loadOld sc81 rfl o2 h2) rfl ?_
  refine SL.y (OV.move rfl) rfl ?_
  refine SL.y (OV.move rfl) rfl ?_
  refine SL.callR pf43 (args4 rfl rfl rfl rfl) (fun w' hM => call43 (j := 0) hk (by omega) (hA.go hM)) rfl ?_
  intro z
  refine SL.nil ?_
  exact SE.end0 Yba.results46 (fun w' hM => ⟨z, rfl, trivial, hM⟩)
theorem pf46 : plainFunc Yba.prog 46 = true := by kernel_rfl
/-- phaseTwo$1 -/
def step2 (rc : Int) (s : NSt) (k : Nat) : NSt := if (s k).dn = true then s else setDc s k rc
theorem call44 {k c2 c3 c4 c5 c6 till : Nat} {mg rc : Int} (hk1 : 1 ≤ k) (hk : k ≤ D.n) (hD : D.n ≤ 100000) (ht : D.n < till) (hvt : (s k).vt ≠ 7) (hdc : (s k).dc = 0) (hC : Caps2 w br bN c2 c3 c4 c5 c6 till mg rc) (hA : At D br bN cm x y s w) : Does 44 #[.int .i64 k, .int .i64 0, pt c2, pt c3, pt c4, pt c5, pt c6] w D br bN (.bool (!(s k).dn)) cm (step2 rc s k) := by
  obtain ⟨i92, hi, hz, hs, hb⟩ := info_parts info92
  refine Calls.of_SC (args := [.int .i64 k, .int .i64 0, pt c2, pt c3, pt c4, pt c5, pt c6]) Yba.func44 rfl (by simp [Yba.f44]) hA.start ?_
  refine SC.seq ?_
  refine SC.region ?_
  refine SL.y (OV.assign rfl) rfl ?_
  refine SL.nil ?_
  refine SC.then ?_
  refine SC.seq ?_
  refine SC.region ?_
  refine SL.y (OV.loadOld sc81 rfl hC.o2 hC.h2) rfl ?_
  refine SL.y (OV.nilCheck rfl) rfl ?_
  refine SL.y (OV.fld fo88_2 rfl) rfl ?_
  refine SL.y (OV.loadF 0 sc86 rfl rfl rfl) rfl ?_
  refine SL.y (OV.move rfl) rfl ?_
  refine SL.y (OV.idx k u86 hi hs rfl rfl rfl (by omega)) rfl ?_
  refine SL.y (OV.assign rfl) rfl ?_
  refine SL.nil ?_
  refine SC.then ?_
  refine SC.seq ?_
  cases hdn : (s k).dn with
  | true =>
    have e : step2 rc s k = s := by unfold step2; rw [if_pos hdn]
    rw [e]
    refine SC.seq ?_
    refine SC.region ?_
    refine SL.y (OV.move rfl) rfl ?_
    refine SL.callQ pf25 (args1 rfl) (fun w' hM => (call25 (cell3 (hM.block (j := 1) rfl) hk)).mono fun e w'' ⟨he, hM'⟩ => ⟨by rw [he, decide_eq_false hvt], hM'⟩) (v := .bool false) rfl ?_
    refine SL.y (OV.move rfl) rfl ?_
    refine SL.yg rfl rfl (OV.move rfl) rfl ?_
    refine SL.yg rfl rfl ((OV.eql rfl rfl).yes rfl) rfl ?_
    refine SL.yg rfl rfl (OV.move rfl) rfl ?_
    refine SL.yg rfl rfl (OV.move rfl) rfl ?_
    refine SL.yg rfl rfl (OV.loadOld sc3 rfl hC.o3 hC.h3) rfl ?_
    refine SL.yg rfl rfl ((OV.geq rfl rfl).no (by omega)) rfl ?_
    refine SL.yg rfl rfl (OV.pickT rfl rfl) rfl ?_
    refine SL.y (OV.pickF rfl rfl) rfl ?_
    refine SL.y (OV.move rfl) rfl ?_
    refine SL.yg rfl rfl (OV.move rfl) rfl ?_
    refine SL.yg rfl rfl (OV.nilCheck rfl) rfl ?_
    refine SL.yg rfl rfl (OV.fld fo92_2 rfl) rfl ?_
    refine SL.yg rfl rfl (OV.loadT 1 sc4 rfl rfl (by omega) ((nc2 D s k).trans (by rw [hdn]))) rfl ?_
    refine SL.yg rfl rfl (OV.move rfl) rfl ?_
    refine SL.yg rfl rfl (OV.loadOld sc4 rfl hC.o4 hC.h4) rfl ?_
    refine SL.yg rfl rfl (OV.pickT rfl rfl) rfl ?_
    refine SL.y (OV.pickF rfl rfl) rfl ?_
    refine SL.nil ?_
    refine SC.then ?_
    refine SC.cond rfl (fun _ => ?_) (fun e => by cases e)
    refine SC.seq ?_
    refine SC.region ?_
    refine SL.y (OV.assign rfl) rfl ?_
    refine SL.nil ?_
    refine SC.then ?_
    refine SC.ret ?_
    repeat (first | refine SE.blockR ?_ | refine SE.thenR ?_)
    exact SE.ret1 Yba.results44 rfl (fun w' hM => ⟨(x, y), rfl, trivial, hM⟩)
  | false =>
    have e : step2 rc s k = setDc s k rc := by unfold step2; rw [if_neg (by rw [hdn]; decide)]
    rw [e]
    refine SC.seq ?_
    refine SC.region ?_
    refine SL.y (OV.move rfl) rfl ?_
    refine SL.callQ pf25 (args1 rfl) (fun w' hM => (call25 (cell3 (hM.block (j := 1) rfl) hk)).mono fun e w'' ⟨he, hM'⟩ => ⟨by rw [he, decide_eq_false hvt], hM'⟩) (v := .bool false) rfl ?_
    refine SL.y (OV.move rfl) rfl ?_
    refine SL.yg rfl rfl (OV.move rfl) rfl ?_
    refine SL.yg rfl rfl ((OV.eql rfl rfl).yes rfl) rfl ?_
    refine SL.yg rfl rfl (OV.move rfl) rfl ?_
    refine SL.yg rfl rfl (OV.move rfl) rfl ?_
    refine SL.yg rfl rfl (OV.loadOld sc3 rfl hC.o3 hC.h3) rfl ?_
    refine SL.yg rfl rfl ((OV.geq rfl rfl).no (by omega)) rfl ?_
    refine SL.yg rfl rfl (OV.pickT rfl rfl) rfl ?_
    refine SL.y (OV.pickF rfl rfl) rfl ?_
    refine SL.y (OV.move rfl) rfl ?_
    refine SL.yg rfl rfl (OV.move rfl) rfl ?_
    refine SL.yg rfl rfl (OV.nilCheck rfl) rfl ?_
    refine SL.yg rfl rfl (OV.fld fo92_2 rfl) rfl ?_
    refine SL.yg rfl rfl (OV.loadT 1 sc4 rfl rfl (by omega) ((nc2 D s k).trans (by rw [hdn]))) rfl ?_
    refine SL.yg rfl rfl (OV.move rfl) rfl ?_
    refine SL.skip rfl rfl rfl ?_
    refine SL.yg rfl rfl (OV.pickF rfl rfl) rfl ?_
    refine SL.y (OV.pickF rfl rfl) rfl ?_
    refine SL.nil ?_
    refine SC.then ?_
    refine SC.cond rfl (fun e => by cases e) (fun _ => ?_)
    refine SC.skip ?_
    refine SC.then ?_
    refine SC.seq ?_
    refine SC.seq ?_
    refine SC.region ?_
    refine SL.y (OV.move rfl) rfl ?_
    refine SL.y (OV.nilCheck rfl) rfl ?_
    refine SL.y (OV.fld fo92_2 rfl) rfl ?_
    refine SL.y (OV.loadT 1 sc4 rfl rfl (by omega) ((nc2 D s k).trans (by rw [hdn]))) rfl ?_
    refine SL.nil ?_
    refine SC.then ?_
    refine SC.cond rfl (fun e => by cases e) (fun _ => ?_)
    refine SC.skip ?_
    refine SC.then ?_
    refine SC.seq ?_
    refine SC.seq ?_
    refine SC.region ?_
    refine SL.y (OV.move rfl) rfl ?_
    refine SL.y (OV.nilCheck rfl) rfl ?_
    refine SL.y (OV.fld fo92_4 rfl) rfl ?_
    refine SL.y (OV.loadT 1 sc90 rfl rfl (by omega) (nc4 D s k)) rfl ?_
    refine SL.y ((OV.eql rfl rfl).yes hdc) rfl ?_
    refine SL.nil ?_
    refine SC.then ?_
    refine SC.cond rfl (fun _ => ?_) (fun e => by cases e)
    refine SC.seq ?_
    refine SC.region ?_
    refine SL.y (OV.loadOld sc81 rfl hC.o2 hC.h2) rfl ?_
    refine SL.y (OV.move rfl) rfl ?_
    refine SL.y (OV.loadOld sc90 rfl hC.o6 hC.h6) rfl ?_
    refine SL.callR pf28 (args3 rfl rfl rfl) (fun w' hM => call28 hk (hA.go hM)) rfl ?_
    intro z
    refine SL.nil ?_
    refine SC.then ?_
    refine SC.region ?_
    refine SL.y (OV.move rfl) rfl ?_
    refine SL.y (OV.loadOld sc90 rfl hC.o6 hC.h6) rfl ?_
    refine SL.y (OV.nilCheck rfl) rfl ?_
    refine SL.y (OV.fld fo92_4 rfl) rfl ?_
    refine SL.s (OS.store1 1 sz90 rfl rfl rfl rfl (by rw [length_tab]; omega)) ?_
    refine SL.nil ?_
    rw [nset4 hk]
    refine SC.then ?_
    refine SC.seq ?_
    refine SC.quiet mixed (by kernel_rfl) ?_
    refine SQ.y (OV.loadOld sc81 rfl hC.o2 hC.h2) rfl ?_
    refine SQ.y (OV.move rfl) rfl ?_
    refine SQ.y (OV.loadOld sc42 rfl hC.o5 hC.h5) rfl ?_
    refine SQ.y (OV.move rfl) rfl ?_
    refine SQ.y (OV.nilCheck rfl) rfl ?_
    refine SQ.y (OV.fld fo92_1 rfl) rfl ?_
    refine SQ.y (OV.loadT 1 sc3 rfl rfl (by omega) ((nc1 D _ k).trans (by rw [endOf_pos hk1]))) rfl ?_
    refine SQ.callQ pf34 (args4 rfl rfl rfl rfl) (fun w' hM => call34none (by omega)) rfl ?_
    refine SQ.nil ?_
    refine SC.then ?_
    refine SC.seq ?_
    refine SC.region ?_
    refine SL.y (OV.assign rfl) rfl ?_
    refine SL.nil ?_
    refine SC.then ?_
    refine SC.ret ?_
    exact SE.ret1 Yba.results44 rfl (fun w' hM => ⟨z, rfl, trivial, hM⟩)
theorem pf44 : plainFunc Yba.prog 44 = true := by kernel_rfl

/-! ### walk, in phase two -/
inductive W2 where
  | A (k : Nat) (l : Bool)
  | B (k : Nat) (l : Bool)
  | F
def W2.len : W2 → Nat
  | .A _ _ => 1
  | .B _ _ => 2
  | .F => 0
def W2.frs : W2 → List Value
  | .A k l => fcs3 0 k l
  | .B k l => fcs3 0 (k + 1) false ++ fcs3 k (k + 1) l
  | .F => []
/-- Those before place k that are up have the decision. -/
def p2 (rc : Int) (s : NSt) (k : Nat) : NSt := fun q => if 1 ≤ q ∧ q < k ∧ (s q).dn = false then { s q with dc := rc } else s q
def W2.st (n : Nat) (rc : Int) (s : NSt) : W2 → NSt
  | .A k false => p2 rc s k
  | .A _ true => p2 rc s (n + 1)
  | .B k _ => p2 rc s (k + 1)
  | .F => p2 rc s (n + 1)
def W2.ok (n : Nat) (s : NSt) : W2 → Prop
  | .A k _ => 1 ≤ k ∧ k ≤ n + 1
  | .B k _ => 1 ≤ k ∧ k ≤ n ∧ (s k).dn = false
  | .F => True
def W2.mu (n : Nat) : W2 → Nat
  | .A k false => n + 3 + 4 * (n + 1 - k)
  | .A k true => 1 + (n + 1 - k)
  | .B k l => n + 3 + 4 * (n - k) + (if l then 1 else 2)
  | .F => 0
theorem p2_one (rc : Int) (s : NSt) : p2 rc s 1 = s := by
  funext q
  unfold p2
  rw [if_neg (by omega)]
theorem p2_dn (rc : Int) (s : NSt) (k q : Nat) : (p2 rc s k q).dn = (s q).dn := by unfold p2; split <;> rfl
theorem p2_vt (rc : Int) (s : NSt) (k q : Nat) : (p2 rc s k q).vt = (s q).vt := by unfold p2; split <;> rfl
theorem p2_dc (rc : Int) (s : NSt) (k : Nat) : (p2 rc s k k).dc = (s k).dc := by unfold p2; rw [if_neg (by omega)]
theorem p2_up {rc : Int} {s : NSt} {k : Nat} (h1 : 1 ≤ k) (h : (s k).dn = false) : setDc (p2 rc s k) k rc = p2 rc s (k + 1) := by
  funext q
  unfold setDc
  by_cases e : q = k
  · subst e
    unfold p2
    rw [if_pos rfl, if_neg (by omega), if_pos ⟨h1, by omega, h⟩]
  · rw [if_neg e]
    unfold p2
    by_cases h2 : 1 ≤ q ∧ q < k ∧ (s q).dn = false
    · rw [if_pos h2, if_pos ⟨h2.1, by omega, h2.2.2⟩]
    · rw [if_neg h2, if_neg (fun h3 => h2 ⟨h3.1, by omega, h3.2.2⟩)]
theorem p2_down {rc : Int} {s : NSt} {k : Nat} (h : (s k).dn = true) : p2 rc s k = p2 rc s (k + 1) := by
  funext q
  unfold p2
  by_cases h2 : 1 ≤ q ∧ q < k ∧ (s q).dn = false
  · rw [if_pos h2, if_pos ⟨h2.1, by omega, h2.2.2⟩]
  · rw [if_neg h2, if_neg (fun h3 => h2 ⟨h3.1, by
      have := h3.2.1
      have hne : q ≠ k := fun e => by rw [e, h] at h3; cases h3.2.2
      omega, h3.2.2⟩)]
end
end Go.Proofs.Ybulkdrci.A
