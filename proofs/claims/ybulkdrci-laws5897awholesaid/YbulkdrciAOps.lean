import Derived.Test.YbulkdrciASym
import Derived.WalkSpells
import Derived.OrdersHeld
import Derived.WalkLawsBesides
import Derived.Lib.SliceRun
namespace Go.Proofs.Ybulkdrci.A.Sym
open Go Go.RowKit
set_option linter.unusedVariables false
set_option linter.unusedSimpArgs false

/-- A row of cells, nothing frozen. -/
def row (e : TypeId) (l : List Value) : Obj := .cells l.toArray e (0, 0)

theorem wrap_i64 {n : Int} (h1 : -9223372036854775808 ≤ n) (h2 : n ≤ 9223372036854775807) : IntKind.i64.wrap n = n := by rw [IntKind.wrap_i64]; omega
theorem wrap_i32 {n : Int} (h1 : -2147483648 ≤ n) (h2 : n ≤ 2147483647) : IntKind.i32.wrap n = n := by
  simp only [IntKind.wrap, IntKind.bits, IntKind.signed]; simp; omega
theorem wrap_u32 {n : Int} (h1 : 0 ≤ n) (h2 : n ≤ 4294967295) : IntKind.u32.wrap n = n := by
  simp only [IntKind.wrap, IntKind.bits, IntKind.signed]; simp; omega
theorem wrap_u64 {n : Int} (h1 : 0 ≤ n) (h2 : n ≤ 18446744073709551615) : IntKind.u64.wrap n = n := by
  simp only [IntKind.wrap, IntKind.bits, IntKind.signed]; simp; omega
theorem wrap_u8 {n : Int} (h1 : 0 ≤ n) (h2 : n ≤ 255) : IntKind.u8.wrap n = n := by
  simp only [IntKind.wrap, IntKind.bits, IntKind.signed]; simp; omega

def scalar (P : Program) (t : TypeId) : Bool := match P.underlying t with
  | some (.struct _) | some (.array ..) | none => false
  | some _ => true
def size1 (P : Program) (t : TypeId) : Bool := match P.info? t with
  | some i => i.size == 1
  | none => false

theorem nodup_set_fresh {l : List Nat} {n : Nat} (h : l.Nodup) (hlt : ∀ x ∈ l, x < n) (j : Nat) : (l.set j n).Nodup := by
  induction l generalizing j with
  | nil => simp
  | cons a r ih =>
    rw [List.nodup_cons] at h
    cases j with
    | zero =>
      rw [List.set_cons_zero, List.nodup_cons]
      exact ⟨fun hm => Nat.lt_irrefl _ (hlt n (List.mem_cons_of_mem _ hm)), h.2⟩
    | succ j =>
      rw [List.set_cons_succ, List.nodup_cons]
      refine ⟨fun hm => ?_, ih h.2 (fun x hx => hlt x (List.mem_cons_of_mem _ hx)) j⟩
      rcases List.mem_or_eq_of_mem_set hm with h1 | h1
      · exact h.1 h1
      · exact absurd (hlt a (List.mem_cons_self)) (by omega)

theorem range_map0 {α : Type} (f : Nat → α) : (Array.range 0).map f = #[] := by apply Array.ext'; simp
theorem range_map1 {α : Type} (f : Nat → α) : (Array.range 1).map f = #[f 0] := by apply Array.ext'; simp [List.range_succ]

section
variable {P : Program} {w0 : World} {F : List Nat} {env : Env} {m : List Blk} {d : Option Nat} {ty : TypeId} {pos : String} {af : Array Edge} {g : Option (Nat × Bool)}
variable {x y z : Operand} {k : IntKind} {a b : Int} {T T' : TypeId}

theorem OV.move {v : Value} (hx : ev env x = some v) : OV P env w0 F m ⟨d, .move x, ty, pos, af, g⟩ v := ⟨fun A w hE hM => by simp [execOp, hE x v hx]⟩
theorem OV.assign {v : Value} (hx : ev env x = some v) : OV P env w0 F m ⟨d, .assign x, ty, pos, af, g⟩ v := ⟨fun A w hE hM => by simp [execOp, hE x v hx]⟩
theorem OV.pickT {v : Value} (hx : ev env x = some (.bool true)) (hy : ev env y = some v) : OV P env w0 F m ⟨d, .pick x y z, ty, pos, af, g⟩ v := ⟨fun A w hE hM => by simp [execOp, hE x _ hx, hE y _ hy, asBool]⟩
theorem OV.pickF {v : Value} (hx : ev env x = some (.bool false)) (hz : ev env z = some v) : OV P env w0 F m ⟨d, .pick x y z, ty, pos, af, g⟩ v := ⟨fun A w hE hM => by simp [execOp, hE x _ hx, hE z _ hz, asBool]⟩

theorem OV.lss (hx : ev env x = some (.int k a)) (hy : ev env y = some (.int k b)) : OV P env w0 F m ⟨d, .binOp .lss T x y T', ty, pos, af, g⟩ (.bool (decide (a < b))) :=
  ⟨fun A w hE hM => by simp [execOp, hE x _ hx, hE y _ hy, eqGuard, binOp, Op.intCmp]⟩
theorem OV.gtr (hx : ev env x = some (.int k a)) (hy : ev env y = some (.int k b)) : OV P env w0 F m ⟨d, .binOp .gtr T x y T', ty, pos, af, g⟩ (.bool (decide (b < a))) :=
  ⟨fun A w hE hM => by simp [execOp, hE x _ hx, hE y _ hy, eqGuard, binOp, Op.intCmp]⟩
theorem OV.leq (hx : ev env x = some (.int k a)) (hy : ev env y = some (.int k b)) : OV P env w0 F m ⟨d, .binOp .leq T x y T', ty, pos, af, g⟩ (.bool (decide (a ≤ b))) :=
  ⟨fun A w hE hM => by simp [execOp, hE x _ hx, hE y _ hy, eqGuard, binOp, Op.intCmp]⟩
theorem OV.geq (hx : ev env x = some (.int k a)) (hy : ev env y = some (.int k b)) : OV P env w0 F m ⟨d, .binOp .geq T x y T', ty, pos, af, g⟩ (.bool (decide (b ≤ a))) :=
  ⟨fun A w hE hM => by simp [execOp, hE x _ hx, hE y _ hy, eqGuard, binOp, Op.intCmp]⟩
theorem OV.eql (hx : ev env x = some (.int k a)) (hy : ev env y = some (.int k b)) : OV P env w0 F m ⟨d, .binOp .eql T x y T', ty, pos, af, g⟩ (.bool (decide (a = b))) :=
  ⟨fun A w hE hM => by simp [execOp, hE x _ hx, hE y _ hy, eqGuard, binOp, Op.intCmp]; rfl⟩
theorem OV.neq (hx : ev env x = some (.int k a)) (hy : ev env y = some (.int k b)) : OV P env w0 F m ⟨d, .binOp .neq T x y T', ty, pos, af, g⟩ (.bool (decide (a ≠ b))) :=
  ⟨fun A w hE hM => by simp [execOp, hE x _ hx, hE y _ hy, eqGuard, binOp, Op.intCmp, bne]; by_cases h : a = b <;> simp [h]⟩

theorem OV.add {r : Int} (hx : ev env x = some (.int k a)) (hy : ev env y = some (.int k b)) (hr : k.wrap (a + b) = r) : OV P env w0 F m ⟨d, .binOp .add T x y T', ty, pos, af, g⟩ (.int k r) :=
  ⟨fun A w hE hM => by simp [execOp, hE x _ hx, hE y _ hy, eqGuard, binOp, Op.intArith, hr]⟩
theorem OV.sub {r : Int} (hx : ev env x = some (.int k a)) (hy : ev env y = some (.int k b)) (hr : k.wrap (a - b) = r) : OV P env w0 F m ⟨d, .binOp .sub T x y T', ty, pos, af, g⟩ (.int k r) :=
  ⟨fun A w hE hM => by simp [execOp, hE x _ hx, hE y _ hy, eqGuard, binOp, Op.intArith, hr]⟩
theorem OV.mul {r : Int} (hx : ev env x = some (.int k a)) (hy : ev env y = some (.int k b)) (hr : k.wrap (a * b) = r) : OV P env w0 F m ⟨d, .binOp .mul T x y T', ty, pos, af, g⟩ (.int k r) :=
  ⟨fun A w hE hM => by simp [execOp, hE x _ hx, hE y _ hy, eqGuard, binOp, Op.intArith, hr]⟩
theorem OV.rem {r : Int} (hx : ev env x = some (.int k a)) (hy : ev env y = some (.int k b)) (h0 : b ≠ 0) (hr : a.tmod b = r) : OV P env w0 F m ⟨d, .binOp .rem T x y T', ty, pos, af, g⟩ (.int k r) :=
  ⟨fun A w hE hM => by simp [execOp, hE x _ hx, hE y _ hy, eqGuard, binOp, Op.intDiv, h0, hr]⟩
theorem OV.shr {k' : IntKind} {r : Int} (hx : ev env x = some (.int k a)) (hy : ev env y = some (.int k' b)) (h0 : 0 ≤ b) (hr : a.fdiv (2 ^ (min b.toNat k.bits)) = r) : OV P env w0 F m ⟨d, .binOp .shr T x y T', ty, pos, af, g⟩ (.int k r) :=
  ⟨fun A w hE hM => by simp [execOp, hE x _ hx, hE y _ hy, eqGuard, binOp, Op.shift, Int.not_lt.2 h0, hr]⟩
theorem OV.and {r : Int} (hx : ev env x = some (.int k a)) (hy : ev env y = some (.int k b)) (hr : k.wrap ((BitVec.ofInt k.bits a &&& BitVec.ofInt k.bits b).toNat : Int) = r) : OV P env w0 F m ⟨d, .binOp .and T x y T', ty, pos, af, g⟩ (.int k r) :=
  ⟨fun A w hE hM => by simp only [execOp, hE x _ hx, hE y _ hy, eqGuard, binOp, Op.intBits]; simp at hr; simp [hr]⟩
theorem OV.not {b : Bool} (hx : ev env x = some (.bool b)) : OV P env w0 F m ⟨d, .unOp .not T x, ty, pos, af, g⟩ (.bool (!b)) :=
  ⟨fun A w hE hM => by simp [execOp, hE x _ hx, Op.unary]⟩
theorem OV.conv {k' : IntKind} {r : Int} {D : TypeDesc} (hT : P.underlying T = some D) (hT' : P.underlying T' = some (.int k')) (hx : ev env x = some (.int k a)) (hr : k'.wrap a = r) : OV P env w0 F m ⟨d, .convert T T' x, ty, pos, af, g⟩ (.int k' r) :=
  ⟨fun A w hE hM => by simp [execOp, hE x _ hx, convert, run_underlying hT, run_underlying hT', Conv.intToInt, hr]⟩
theorem OV.len {e : TypeId} {s : Option Addr} {n c : Nat} (hT : P.underlying T = some (.slice e)) (hx : ev env x = some (.slice s n c)) : OV P env w0 F m ⟨d, .call ⟨.builtin .len, #[x], #[T]⟩, ty, pos, af, g⟩ (.int .i64 n) :=
  ⟨fun A w hE hM => by simp [execOp, hE x _ hx, resolve, invoke, builtin, Builtin.len_, run_underlying hT, goInt]⟩
theorem OV.eqlNil {e : TypeId} {s : Option Addr} {n c : Nat} (hT : P.underlying T = some (.slice e)) (hx : ev env x = some (.slice s n c)) : OV P env w0 F m ⟨d, .binOp .eql T x (.const (.slice none 0 0)) T', ty, pos, af, g⟩ (.bool s.isNone) :=
  ⟨fun A w hE hM => by
    have hc : A.eval (.const (.slice none 0 0)) = .slice none 0 0 := rfl
    have hr := Lib.run_eql_slice_nil (P := P) w T e s n c 0 0 hT
    simp [execOp, hE x _ hx, hc, eqGuard, hr]⟩
theorem OV.neqNil {e : TypeId} {s : Option Addr} {n c : Nat} (hT : P.underlying T = some (.slice e)) (hx : ev env x = some (.slice s n c)) : OV P env w0 F m ⟨d, .binOp .neq T x (.const (.slice none 0 0)) T', ty, pos, af, g⟩ (.bool (!s.isNone)) :=
  ⟨fun A w hE hM => by
    have hc : A.eval (.const (.slice none 0 0)) = .slice none 0 0 := rfl
    have hr : (Op.equal T (.slice s n c) (.slice none 0 0)).run P w = .ok s.isNone w := Lib.run_equalIn_slice_nil (P := P) w 9999 T e s n c 0 0 hT
    simp [execOp, hE x _ hx, hc, eqGuard, binOp, hr]⟩
theorem OV.nilCheck {p : Addr} (hx : ev env x = some (.pointer (some p))) : OV P env w0 F m ⟨d, .nilCheck x, ty, pos, af, g⟩ (.pointer (some p)) :=
  ⟨fun A w hE hM => by simp [execOp, hE x _ hx]⟩

theorem add_none (b o n : Nat) : (⟨b, o, none⟩ : Addr).add n = ⟨b, o + n, none⟩ := by unfold Addr.add; split <;> simp_all

theorem OV.idx {e : TypeId} {i : TypeInfo} {b off n c s : Nat} {I : Int} (j : Nat) (hT : P.underlying T = some (.slice e)) (hi : P.info? e = some i) (hs : i.size = s) (hx : ev env x = some (.slice (some ⟨b, off, none⟩) n c)) (hy : ev env y = some (.int k I)) (hI : I = (j : Int)) (hj : j < n) :
    OV P env w0 F m ⟨d, .indexAddr T x y, ty, pos, af, g⟩ (.pointer (some ⟨b, off + j * s, none⟩)) := by
  subst hI
  subst hs
  exact ⟨fun A w hE hM => by simp [execOp, hE x _ hx, hE y _ hy, Instr.indexAt, asIntOf, run_underlying hT, hj, sizeOf, typeInfo, hi, add_none]⟩

theorem OV.load {e : TypeId} {cs : List Value} {o b : Nat} {v : Value} (j : Nat) (hT : scalar P T = true) (hx : ev env x = some (.pointer (some ⟨b, o, none⟩))) (hm : m[j]? = some (b, row e cs)) (hc : cs[o]? = some v) :
    OV P env w0 F m ⟨d, .load T x, ty, pos, af, g⟩ v := ⟨fun A w hE hM => by
  have hb := (hM.own _ (List.mem_of_getElem? hm)).1
  have hcell : w.cell? ⟨b, o, none⟩ = some v := by simp only [row] at hb; simp [World.cell?, hb, hc]
  unfold scalar at hT
  cases hu : P.underlying T with
  | none => simp [hu] at hT
  | some D =>
    cases D <;> simp [hu] at hT <;> simp [execOp, hE x _ hx, Instr.loadAt, Instr.sureAddr, loadVar, isAgg, run_underlying hu, load, Sem.run, hcell]⟩

/-- A cell of what was there before. -/
theorem OV.loadOld {o b : Nat} {v : Value} (hT : scalar P T = true) (hx : ev env x = some (.pointer (some ⟨b, o, none⟩))) (hF : b ∉ F) (hc : w0.cell? ⟨b, o, none⟩ = some v) :
    OV P env w0 F m ⟨d, .load T x, ty, pos, af, g⟩ v := ⟨fun A w hE hM => by
  have hlt : b < w0.heap.size := block_lt_of_cell hc
  have hcell : w.cell? ⟨b, o, none⟩ = some v := by rw [← hc]; exact World.cell?_of_block (hM.old b hlt hF)
  unfold scalar at hT
  cases hu : P.underlying T with
  | none => simp [hu] at hT
  | some D =>
    cases D <;> simp [hu] at hT <;> simp [execOp, hE x _ hx, Instr.loadAt, Instr.sureAddr, loadVar, isAgg, run_underlying hu, load, Sem.run, hcell]⟩

/-- A struct's or an array's cells, out of a listed row. -/
theorem OV.loadAgg {i : TypeInfo} {e : TypeId} {cs vs : List Value} {o b : Nat} (j : Nat) (hT : scalar P T = false) (hT' : (P.underlying T).isSome = true) (hi : P.info? T = some i) (hx : ev env x = some (.pointer (some ⟨b, o, none⟩))) (hm : m[j]? = some (b, row e cs)) (hl : vs.length = i.size) (hc : ∀ q v, vs[q]? = some v → cs[o + q]? = some v) :
    OV P env w0 F m ⟨d, .load T x, ty, pos, af, g⟩ (.agg vs.toArray) := ⟨fun A w hE hM => by
  have hb := (hM.own _ (List.mem_of_getElem? hm)).1
  have hcell : ∀ q v, vs[q]? = some v → w.cell? ((⟨b, o, none⟩ : Addr).add q) = some v := fun q v hq => by
    simp only [row] at hb; rw [add_none]; simp [World.cell?, hb, hc q v hq]
  have hrun := run_loadCells_list (P := P) w ⟨b, o, none⟩ vs hcell
  rw [hl] at hrun
  unfold scalar at hT
  cases hu : P.underlying T with
  | none => simp [hu] at hT'
  | some D =>
    cases D <;> simp [hu] at hT <;> simp [execOp, hE x _ hx, Instr.loadAt, Instr.sureAddr, loadVar, isAgg, run_underlying hu, sizeOf, typeInfo, hi, hrun]⟩

theorem OV.field {fs : Array Field} {f : Field} {i : TypeInfo} {o b s : Nat} {n : Nat} (hT : P.underlying T = some (.struct fs)) (hf : fs[n]? = some f) (hi : P.info? f.type = some i) (hs : i.size ≠ 0) (ho : f.offset = s) (hx : ev env x = some (.pointer (some ⟨b, o, none⟩))) :
    OV P env w0 F m ⟨d, .fieldAddr T x n, ty, pos, af, g⟩ (.pointer (some ⟨b, o + s, none⟩)) := by
  subst ho
  exact ⟨fun A w hE hM => by simp [execOp, hE x _ hx, Instr.fieldAt, run_underlying hT, hf, Instr.sureAddr, fieldPlace, sizeOf, typeInfo, hi, hs, add_none]⟩

def fieldOff (P : Program) (T : TypeId) (n : Nat) : Option Nat := match P.underlying T with
  | some (.struct fs) => match fs[n]? with
    | some f => match P.info? f.type with
      | some i => if i.size = 0 then none else some f.offset
      | none => none
    | none => none
  | _ => none
theorem OV.fld {o b s : Nat} {n : Nat} (hT : fieldOff P T n = some s) (hx : ev env x = some (.pointer (some ⟨b, o, none⟩))) :
    OV P env w0 F m ⟨d, .fieldAddr T x n, ty, pos, af, g⟩ (.pointer (some ⟨b, o + s, none⟩)) := by
  unfold fieldOff at hT
  split at hT
  · rename_i fs hu
    split at hT
    · rename_i f hf
      split at hT
      · rename_i i hi
        split at hT
        · cases hT
        · rename_i hs
          cases hT
          exact OV.field hu hf hi hs rfl hx
      · cases hT
    · cases hT
  · cases hT

theorem OV.neqAgg {xs ys : Array Value} {r : Bool} (hg : P.eqGuardType P.depth T = false) (hx : ev env x = some (.agg xs)) (hy : ev env y = some (.agg ys)) (hr : ∀ w, (Op.equal T (.agg xs) (.agg ys)).run P w = .ok r w) :
    OV P env w0 F m ⟨d, .binOp .neq T x y T', ty, pos, af, g⟩ (.bool (!r)) := ⟨fun A w hE hM => by
  simp [execOp, hE x _ hx, hE y _ hy, eqGuard, hg, binOp, hr]⟩
theorem OV.eqlAgg {xs ys : Array Value} {r : Bool} (hg : P.eqGuardType P.depth T = false) (hx : ev env x = some (.agg xs)) (hy : ev env y = some (.agg ys)) (hr : ∀ w, (Op.equal T (.agg xs) (.agg ys)).run P w = .ok r w) :
    OV P env w0 F m ⟨d, .binOp .eql T x y T', ty, pos, af, g⟩ (.bool r) := ⟨fun A w hE hM => by
  simp [execOp, hE x _ hx, hE y _ hy, eqGuard, hg, binOp, hr]⟩

theorem OV.loadAggOld {i : TypeInfo} {vs : List Value} {o b : Nat} (hT : scalar P T = false) (hT' : (P.underlying T).isSome = true) (hi : P.info? T = some i) (hx : ev env x = some (.pointer (some ⟨b, o, none⟩))) (hF : b ∉ F) (hl : vs.length = i.size) (hc : ∀ q v, vs[q]? = some v → w0.cell? ⟨b, o + q, none⟩ = some v) :
    OV P env w0 F m ⟨d, .load T x, ty, pos, af, g⟩ (.agg vs.toArray) := ⟨fun A w hE hM => by
  have hcell : ∀ q v, vs[q]? = some v → w.cell? ((⟨b, o, none⟩ : Addr).add q) = some v := fun q v hq => by
    have h := hc q v hq
    rw [add_none, ← h]; exact World.cell?_of_block (hM.old b (block_lt_of_cell h) hF)
  have hrun := run_loadCells_list (P := P) w ⟨b, o, none⟩ vs hcell
  rw [hl] at hrun
  unfold scalar at hT
  cases hu : P.underlying T with
  | none => simp [hu] at hT'
  | some D =>
    cases D <;> simp [hu] at hT <;> simp [execOp, hE x _ hx, Instr.loadAt, Instr.sureAddr, loadVar, isAgg, run_underlying hu, sizeOf, typeInfo, hi, hrun]⟩

theorem OV.build {parts : Array (Nat × Operand)} {vs : Array (Nat × Value)} {v : Value} (hp : (∀ (ρ : Operand → Value), (∀ x u, ev env x = some u → ρ x = u) → parts.map (fun p => (p.1, ρ p.2)) = vs)) (hrun : ∀ w, (Instr.build T vs).run P w = .ok v w) :
    OV P env w0 F m ⟨d, .build T parts, ty, pos, af, g⟩ v := ⟨fun A w hE hM => by
  have := hp A.eval hE
  simp only [execOp]
  rw [show (parts.map fun (i, x) => (i, A.eval x)) = vs from this]
  simp [hrun]⟩

/-! ### Operations that make or write memory -/
/-- It yields V s, and leaves the memory M s, for some s. -/
structure OE (P : Program) (env : Env) (w0 : World) (F : List Nat) (m : List Blk) (o : Oper) {σ : Type} (V : σ → Value) (M : σ → List Blk) : Prop where
  out : ∀ (a : Act) (w : World), (∀ x u, ev env x = some u → a.eval x = u) → Mm w0 F m w → ∃ s w', (execOp a.eval o).run P w = .ok (.value (V s)) w' ∧ Mm w0 F (M s) w'
/-- It yields nothing, and leaves the memory m'. -/
structure OS (P : Program) (env : Env) (w0 : World) (F : List Nat) (m : List Blk) (o : Oper) (m' : List Blk) : Prop where
  out : ∀ (a : Act) (w : World), (∀ x u, ev env x = some u → a.eval x = u) → Mm w0 F m w → ∃ w', (execOp a.eval o).run P w = .ok .skip w' ∧ Mm w0 F m' w'

theorem SL.e {Q : Exit → Act → World → Prop} {N : Nat} {ops : Array Oper} {rest : List Oper} {op : Op} {σ : Type} {V : σ → Value} {M : σ → List Blk} {d : Nat} (ho : OE P env w0 F m ⟨some d, op, ty, pos, af, none⟩ V M) (hd : Nat.blt d N = true)
    (h : ∀ s, SL P ops Q rest N ((d, V s) :: env) w0 F (M s)) : SL P ops Q (⟨some d, op, ty, pos, af, none⟩ :: rest) N env w0 F m :=
  ⟨fun a w hF hM => wpList_plain rfl fun K hK => by
    obtain ⟨s, w', hr, hM'⟩ := ho.out a w (fun x u hx => hF.eval hx) hM
    unfold Oper.wp
    rw [hr]
    exact hK _ _ ((h s).out _ w' (hF.put hd _) hM')⟩

theorem SL.s {Q : Exit → Act → World → Prop} {N : Nat} {ops : Array Oper} {rest : List Oper} {op : Op} {m' : List Blk} (ho : OS P env w0 F m ⟨none, op, ty, pos, af, none⟩ m')
    (h : SL P ops Q rest N env w0 F m') : SL P ops Q (⟨none, op, ty, pos, af, none⟩ :: rest) N env w0 F m :=
  ⟨fun a w hF hM => wpList_plain rfl fun K hK => by
    obtain ⟨w', hr, hM'⟩ := ho.out a w (fun x u hx => hF.eval hx) hM
    unfold Oper.wp
    rw [hr]
    exact hK _ _ (h.out _ w' (hF.put_none _) hM')⟩

theorem Mm.setRow {w : World} (h : Mm w0 F m w) {j b : Nat} {e : TypeId} {cs cs' : List Value} (hj : m[j]? = some (b, row e cs)) : Mm w0 F (m.set j (b, row e cs')) (w.setRow b cs'.toArray) := by
  have hb := (h.own _ (List.mem_of_getElem? hj)).1
  exact h.write hj rfl rfl rfl (by simp) (setRow_heap w b _ _ _ _ hb) (fun k hk => setRow_other w b k _ hk)

theorem OS.store {i : TypeInfo} {e : TypeId} {cs : List Value} {o b : Nat} {v : Value} (j : Nat) (hi : P.info? T = some i) (hx : ev env x = some (.pointer (some ⟨b, o, none⟩))) (hy : ev env y = some v) (hm : m[j]? = some (b, row e cs)) (hs : v.cells.size = i.size) (h1 : ∀ u ∈ v.cells.toList, u.oneCell' = true) (hl : o + v.cells.size ≤ cs.length) :
    OS P env w0 F m ⟨d, .store T x y, ty, pos, af, g⟩ (m.set j (b, row e (cs.take o ++ v.cells.toList ++ cs.drop (o + v.cells.size)))) := ⟨fun A w hE hM => by
  have hb := (hM.own _ (List.mem_of_getElem? hm)).1
  have hrun := run_storeCells_at P b o e v.cells.toList 0 cs.toArray w hb (by simpa using hl) h1
  refine ⟨_, ?_, hM.setRow (cs' := cs.take o ++ v.cells.toList ++ cs.drop (o + v.cells.size)) hm⟩
  simp only [Nat.add_zero] at hrun
  simp [execOp, hE x _ hx, hE y _ hy, Instr.storeAt, Instr.sureAddr, storeVar, sizeOf, typeInfo, hi, hs, hrun]⟩

theorem list_set_split (cs : List Value) (o : Nat) (v : Value) (h : o < cs.length) : cs.take o ++ [v] ++ cs.drop (o + 1) = cs.set o v := by
  rw [List.set_eq_take_append_cons_drop, if_pos h]; simp

theorem OS.store1 {e : TypeId} {cs : List Value} {o b : Nat} {v : Value} (j : Nat) (hT : size1 P T = true) (hx : ev env x = some (.pointer (some ⟨b, o, none⟩))) (hy : ev env y = some v) (hm : m[j]? = some (b, row e cs)) (h1 : v.oneCell' = true) (hl : o < cs.length) :
    OS P env w0 F m ⟨d, .store T x y, ty, pos, af, g⟩ (m.set j (b, row e (cs.set o v))) := by
  have hcv : v.cells = #[v] := by cases v <;> first | rfl | simp [Value.oneCell'] at h1
  unfold size1 at hT
  cases hi : P.info? T with
  | none => simp [hi] at hT
  | some i =>
    simp [hi] at hT
    have := OS.store (P := P) (w0 := w0) (F := F) (d := d) (ty := ty) (pos := pos) (af := af) (g := g) j hi hx hy hm (by simp [hcv, hT]) (by simp [hcv, h1]) (by simp [hcv]; omega)
    rw [hcv] at this
    simpa [list_set_split cs o v hl] using this

theorem madeCells_one (z : Value) (n : Nat) : (madeCells #[z] n).toList = List.replicate n z := by
  refine List.ext_getElem (by simp [madeCells]) fun i h1 h2 => ?_
  simp [madeCells, Nat.mod_one]

theorem OE.make {e : TypeId} {i : TypeInfo} {z : Value} {kl kc : IntKind} {L C : Int} (l c : Nat) (hT : P.underlying T = some (.slice e)) (hi : P.info? e = some i) (hz : i.zero = some z) (h1 : i.size = 1) (hz1 : z.cells = #[z]) (hx : ev env x = some (.int kl L)) (hy : ev env y = some (.int kc C)) (hL : L = (l : Int)) (hC : C = (c : Int)) (hlc : l ≤ c) (hb : i.bytes * c ≤ 281474976710656) (h63 : c ≤ 9223372036854775807) :
    OE P env w0 F m ⟨d, .makeSlice T x y, ty, pos, af, g⟩ (fun nb : Nat => .slice (some ⟨nb, 0, none⟩) l c) (fun nb => m ++ [(nb, row e (List.replicate c z))]) := by
  subst hL
  subst hC
  refine ⟨fun A w hE hM => ⟨w.heap.size, _, ?_, hM.alloc _⟩⟩
  have hb' : (i.bytes : Int) * (c : Int) ≤ 281474976710656 := by
    have h : ((i.bytes * c : Nat) : Int) ≤ 281474976710656 := by omega
    rwa [Int.natCast_mul] at h
  have hr := run_make (P := P) w T e i z hT hi hz kl kc l c (by omega) (by omega) hb' (by omega)
  simp only [Int.toNat_natCast, h1, hz1, Nat.mul_one] at hr
  have hrow : Obj.cells (madeCells #[z] c) e = row e (List.replicate c z) := by
    unfold row; rw [← madeCells_one z c]
  rw [hrow] at hr
  simp [execOp, hE x _ hx, hE y _ hy, hr]

/-- '[]T{}': a new row without cells. -/
theorem OE.bslice0 {e : TypeId} {i : TypeInfo} (hT : P.underlying T = some (.slice e)) (hi : P.info? e = some i) :
    OE P env w0 F m ⟨d, .buildSlice T 0 #[], ty, pos, af, g⟩ (fun nb : Nat => .slice (some ⟨nb, 0, none⟩) 0 0) (fun nb => m ++ [(nb, row e [])]) :=
  ⟨fun A w hE hM => ⟨w.heap.size, _, by simp [execOp, Instr.buildSlice, run_underlying hT, sizeOf, typeInfo, hi, Instr.fill, newRow, range_map0]; rfl, hM.alloc _⟩⟩

/-- '[]T{x}', x of one cell: a new row of one cell. -/
theorem OE.bslice1 {e : TypeId} {i : TypeInfo} {z v : Value} (hT : P.underlying T = some (.slice e)) (hi : P.info? e = some i) (h1 : i.size = 1) (hz : i.zero = some z) (hz1 : z.cells = #[z]) (hx : ev env x = some v) (hv : v.cells = #[v]) :
    OE P env w0 F m ⟨d, .buildSlice T 1 #[(0, x)], ty, pos, af, g⟩ (fun nb : Nat => .slice (some ⟨nb, 0, none⟩) 1 1) (fun nb => m ++ [(nb, row e [v])]) :=
  ⟨fun A w hE hM => ⟨w.heap.size, _, by
    simp [execOp, Instr.buildSlice, run_underlying hT, sizeOf, typeInfo, hi, h1, zeroValue, hz, hz1, Instr.fill, newRow, hE x _ hx, hv, range_map1]
    rfl, hM.alloc _⟩⟩

theorem OE.box {v : Value} (hx : ev env x = some v) :
    OE P env w0 F m ⟨d, .box T x, ty, pos, af, g⟩ (fun nb : Nat => .pointer (some ⟨nb, 0, none⟩)) (fun nb => m ++ [(nb, row T v.cells.toList)]) :=
  ⟨fun A w hE hM => ⟨w.heap.size, _, by simp [execOp, Instr.box, newVar, newRow, hE x _ hx]; rfl, hM.alloc _⟩⟩

theorem OE.alloc {z : Value} {i : TypeInfo} (hi : P.info? T = some i) (hz : i.zero = some z) :
    OE P env w0 F m ⟨d, .alloc T, ty, pos, af, g⟩ (fun nb : Nat => .pointer (some ⟨nb, 0, none⟩)) (fun nb => m ++ [(nb, row T z.cells.toList)]) :=
  ⟨fun A w hE hM => ⟨w.heap.size, _, by simp [execOp, Instr.alloc, newVar, newRow, zeroValue, typeInfo, hi, hz]; rfl, hM.alloc _⟩⟩

/-- 's[lo:hi]' of a slice whose row is known. -/
theorem OV.sliceSlice {e : TypeId} {i : TypeInfo} {b off n c : Nat} {lo hi' : Operand} {kl kh : IntKind} {L H : Int} (l h : Nat) (hT : P.underlying T = some (.slice e)) (hi : P.info? e = some i) (h1 : i.size = 1) (hx : ev env x = some (.slice (some ⟨b, off, none⟩) n c)) (hlo : ev env lo = some (.int kl L)) (hhi : ev env hi' = some (.int kh H)) (hL : L = (l : Int)) (hH : H = (h : Int)) (hlh : l ≤ h) (hhc : h ≤ c) {off' : Nat} (ho : (if c = l then off else off + l) = off') :
    OV P env w0 F m ⟨d, .slice T x (some lo) (some hi') none, ty, pos, af, g⟩ (.slice (some ⟨b, off', none⟩) (h - l) (c - l)) := by
  subst hL
  subst hH
  subst ho
  exact ⟨fun A w hE hM => by
    have hlh' : (l : Int) ≤ (h : Int) := by omega
    have hhc' : (h : Int) ≤ (c : Int) := by omega
    simp [execOp, hE x _ hx, hE lo _ hlo, hE hi' _ hhi, Instr.sliceAt, Instr.slice, Instr.sliceBounds, Instr.sliceBound, run_underlying hT, asIntOf, hlh, hhc, sizeOf, typeInfo, hi, h1, add_none]
    split <;> rfl⟩

/-- 's[lo:hi]' of a string. -/
theorem OV.sliceString {s : ByteArray} {lo hi' : Operand} {kl kh : IntKind} {L H : Int} (l h : Nat) (hT : P.underlying T = some .string) (hx : ev env x = some (.string s)) (hlo : ev env lo = some (.int kl L)) (hhi : ev env hi' = some (.int kh H)) (hL : L = (l : Int)) (hH : H = (h : Int)) (hlh : l ≤ h) (hhc : h ≤ s.size) :
    OV P env w0 F m ⟨d, .slice T x (some lo) (some hi') none, ty, pos, af, g⟩ (.string (s.extract l h)) := by
  subst hL
  subst hH
  exact ⟨fun A w hE hM => by
    have hlh' : (l : Int) ≤ (h : Int) := by omega
    have hhc' : (h : Int) ≤ (s.size : Int) := by omega
    simp [execOp, hE x _ hx, hE lo _ hlo, hE hi' _ hhi, Instr.sliceAt, Instr.slice, Instr.sliceBounds, Instr.sliceBound, run_underlying hT, asIntOf, hlh, hhc]⟩

/-- Where the cells ys are read. -/
def Src (w0 : World) (F : List Nat) (m : List Blk) (A : Addr) (ys : List Value) : Prop := ∀ w, Mm w0 F m w → ∀ q u, ys[q]? = some u → w.cell? (A.add q) = some u
theorem Src.own {b o : Nat} {e : TypeId} {cs ys : List Value} (j : Nat) (hm : m[j]? = some (b, row e cs)) (h : ∀ q u, ys[q]? = some u → cs[o + q]? = some u) : Src w0 F m ⟨b, o, none⟩ ys := fun w hM q u hq => by
  have hb := (hM.own _ (List.mem_of_getElem? hm)).1
  simp only [row] at hb; rw [add_none]; simp [World.cell?, hb, h q u hq]
theorem Src.own0 {b : Nat} {e : TypeId} {cs : List Value} (j : Nat) (hm : m[j]? = some (b, row e cs)) : Src w0 F m ⟨b, 0, none⟩ cs := Src.own j hm (fun q u hq => by simpa using hq)
theorem Src.old {b o : Nat} {ys : List Value} (hF : b ∉ F) (h : ∀ q u, ys[q]? = some u → w0.cell? ⟨b, o + q, none⟩ = some u) : Src w0 F m ⟨b, o, none⟩ ys := fun w hM q u hq => by
  have hc := h q u hq
  have hlt : b < w0.heap.size := block_lt_of_cell hc
  rw [add_none, ← hc]; exact World.cell?_of_block (hM.old b hlt hF)

/-- A new block in a listed one's place. -/
theorem Mm.replace {w : World} (hM : Mm w0 F m w) {j : Nat} {p : Blk} (hm : m[j]? = some p) (o : Obj) : Mm w0 F (m.set j (w.heap.size, o)) { w with heap := w.heap.push o } := by
  have hA := hM.alloc o
  have hjl : j < m.length := (List.getElem?_eq_some_iff.1 hm).1
  refine ⟨hA.os, hA.tape, hA.output, hA.size, hA.old, fun p hp => ?_, ?_⟩
  · obtain ⟨q, hq⟩ := List.mem_iff_getElem?.1 hp
    rw [List.getElem?_set] at hq
    split at hq
    · simp [hjl] at hq
      subst hq
      exact hA.own (w.heap.size, o) (by simp)
    · exact hA.own p (List.mem_append_left _ (List.mem_of_getElem? hq))
  · rw [List.map_set]
    exact nodup_set_fresh hM.nodup (fun x hx => by
      obtain ⟨p, hp, rfl⟩ := List.mem_map.1 hx
      exact hM.lt hp) j

/-- 'append(s, ys...)' with room: the row is written. -/
theorem OE.appendRoom {e : TypeId} {i : TypeInfo} {b n c n2 c2 : Nat} {A2 : Addr} {cs ys : List Value} (j : Nat) (hT : P.underlying T = some (.slice e)) (hi : P.info? e = some i) (h1 : i.size = 1) (hx : ev env x = some (.slice (some ⟨b, 0, none⟩) n c)) (hy : ev env y = some (.slice (some A2) n2 c2)) (hm : m[j]? = some (b, row e cs)) (hm2 : Src w0 F m A2 ys) (hl : ys.length = n2) (ho : ∀ u ∈ ys, u.oneCell' = true) (hroom : n + n2 ≤ c) (hfit : n + n2 ≤ cs.length) :
    OE P env w0 F m ⟨d, .call ⟨.builtin .append, #[x, y], #[T, T]⟩, ty, pos, af, g⟩ (fun _ : Unit => .slice (some ⟨b, 0, none⟩) (n + n2) c) (fun _ => m.set j (b, row e (cs.take n ++ ys ++ cs.drop (n + n2)))) := by
  subst hl
  refine ⟨fun A w hE hM => ⟨(), _, ?_, hM.setRow hm⟩⟩
  have hb := (hM.own _ (List.mem_of_getElem? hm)).1
  have hr := run_append_room (P := P) w T ty e i hT hi b n c cs.toArray hb A2 ys.length c2 ys (by simp [h1]) (hm2 w hM) ho hroom (by simp [h1]; exact hfit)
  simp only [h1, Nat.mul_one] at hr
  simp only [execOp, resolve, invoke, builtin, Sem.run_bind, Sem.run_pure, Result.andThen_ok, List.map_toArray, List.map_cons, List.map_nil, hE x _ hx, hE y _ hy, hr]

/-- 'append(s, ys...)' that may grow: the row stays, or is a new one; what it held it holds. -/
theorem OE.append {e : TypeId} {i : TypeInfo} {z : Value} {b n c n2 c2 : Nat} {A2 : Addr} {cs ys : List Value} (j : Nat) (hT : P.underlying T = some (.slice e)) (hi : P.info? e = some i) (hz : i.zero = some z) (h1 : i.size = 1) (hz1 : z.cells = #[z]) (hx : ev env x = some (.slice (some ⟨b, 0, none⟩) n c)) (hy : ev env y = some (.slice (some A2) n2 c2)) (hm : m[j]? = some (b, row e cs)) (hm2 : Src w0 F m A2 ys) (hl : ys.length = n2) (ho : ∀ u ∈ ys, u.oneCell' = true) (hnc : n ≤ c) (hcl : cs.length = c) (hcm : c ≤ maxLen) (h63 : n + n2 ≤ maxLen) (hby : (n + n2) * i.bytes ≤ 140737488355328) :
    OE P env w0 F m ⟨d, .call ⟨.builtin .append, #[x, y], #[T, T]⟩, ty, pos, af, g⟩ (fun s : { s : Nat × Nat × List Value // s.2.1 ≤ maxLen ∧ n + n2 + s.2.2.length = s.2.1 } => .slice (some ⟨s.1.1, 0, none⟩) (n + n2) s.1.2.1) (fun s => m.set j (s.1.1, row e (cs.take n ++ ys ++ s.1.2.2))) := by
  subst hl
  refine ⟨fun A w hE hM => ?_⟩
  have hb := (hM.own _ (List.mem_of_getElem? hm)).1
  by_cases hroom : n + ys.length ≤ c
  · have hr := run_append_room (P := P) w T ty e i hT hi b n c cs.toArray hb A2 ys.length c2 ys (by simp [h1]) (hm2 w hM) ho hroom (by simp [h1]; omega)
    simp only [h1, Nat.mul_one] at hr
    refine ⟨⟨(b, c, cs.drop (n + ys.length)), hcm, by simp; omega⟩, _, ?_, hM.setRow hm⟩
    simp only [execOp, resolve, invoke, builtin, Sem.run_bind, Sem.run_pure, Result.andThen_ok, List.map_toArray, List.map_cons, List.map_nil, hE x _ hx, hE y _ hy, hr]
  · have hr := run_append_grow (P := P) w T ty e i z hT hi hz ⟨b, 0, none⟩ n c (cs.take n) (by simp [h1]; omega) (fun q u hq => by
        simp only [row] at hb; rw [add_none]
        have : cs[q]? = some u := by rw [List.getElem?_take] at hq; split at hq <;> simp_all
        simp [World.cell?, hb, this]) A2 ys.length c2 ys (by simp [h1]) (hm2 w hM) (by omega) (by simp only [maxLen] at h63; omega) (growslice_fits (by omega) hby)
    have hge := grownCap_ge w (n + ys.length) c e
    have hcm' := grownCap_le_maxLen w (n + ys.length) c e h63
    have hM2 := (hM.of_heap (w' := w.drew) rfl rfl rfl rfl)
    refine ⟨⟨(w.heap.size, grownCap w (n + ys.length) c e, (Builtin.zeroCells z.cells (grownCap w (n + ys.length) c e - (n + ys.length))).toList), hcm', by simp [Builtin.zeroCells, hz1]; omega⟩, w.drew.alloc (.cells ((cs.take n).toArray ++ ys.toArray ++ Builtin.zeroCells z.cells (grownCap w (n + ys.length) c e - (n + ys.length))) e), ?_, ?_⟩
    · simp only [execOp, resolve, invoke, builtin, Sem.run_bind, Sem.run_pure, Result.andThen_ok, List.map_toArray, List.map_cons, List.map_nil, hE x _ hx, hE y _ hy, hr]
    · have hrow : (Obj.cells ((cs.take n).toArray ++ ys.toArray ++ Builtin.zeroCells z.cells (grownCap w (n + ys.length) c e - (n + ys.length))) e) = row e (cs.take n ++ ys ++ (Builtin.zeroCells z.cells (grownCap w (n + ys.length) c e - (n + ys.length))).toList) := by
        unfold row; congr 1; apply Array.ext'; simp
      rw [hrow]
      exact hM2.replace hm _

/-- 'append([]T{}, ys...)': a copy. -/
theorem OE.append0 {e : TypeId} {i : TypeInfo} {z : Value} {s b n2 c2 : Nat} {A2 : Addr} {ys : List Value} (j : Nat) (hT : P.underlying T = some (.slice e)) (hi : P.info? e = some i) (hz : i.zero = some z) (hs : i.size = s) (hzs : z.cells.size = s) (hx : ev env x = some (.slice (some ⟨b, 0, none⟩) 0 0)) (hy : ev env y = some (.slice (some A2) n2 c2)) (hm : m[j]? = some (b, row e [])) (hm2 : Src w0 F m A2 ys) (hl : ys.length = n2 * s) (ho : ∀ u ∈ ys, u.oneCell' = true) (h63 : n2 ≤ maxLen) (hby : n2 * i.bytes ≤ 140737488355328) :
    OE P env w0 F m ⟨d, .call ⟨.builtin .append, #[x, y], #[T, T]⟩, ty, pos, af, g⟩ (fun st : { st : Nat × Nat × List Value // st.2.1 ≤ maxLen ∧ n2 ≤ st.2.1 ∧ n2 * s + st.2.2.length = st.2.1 * s } => .slice (some ⟨st.1.1, 0, none⟩) n2 st.1.2.1) (fun st => m.set j (st.1.1, row e (ys ++ st.1.2.2))) := by
  subst hs
  refine ⟨fun A w hE hM => ?_⟩
  have hb := (hM.own _ (List.mem_of_getElem? hm)).1
  by_cases h0 : n2 = 0
  · subst h0
    have hys : ys = [] := List.eq_nil_of_length_eq_zero (by simpa using hl)
    subst hys
    have hr := run_append_room (P := P) w T ty e i hT hi b 0 0 #[] hb A2 0 c2 [] (by simp) (by simp) (by simp) (by simp) (by simp)
    refine ⟨⟨(b, 0, []), by simp, by simp, by simp⟩, _, ?_, hM.setRow hm⟩
    simp only [execOp, resolve, invoke, builtin, Sem.run_bind, Sem.run_pure, Result.andThen_ok, List.map_toArray, List.map_cons, List.map_nil, hE x _ hx, hE y _ hy, hr]
    simp
  · have hr := run_append_grow (P := P) w T ty e i z hT hi hz ⟨b, 0, none⟩ 0 0 [] (by simp) (by simp) A2 n2 c2 ys hl (hm2 w hM) (by omega) (by simp only [maxLen] at h63; omega) (growslice_fits (by omega) (by simpa using hby))
    have hge := grownCap_ge w (0 + n2) 0 e
    have hcm' := grownCap_le_maxLen w (0 + n2) 0 e (by simpa using h63)
    have hM2 := (hM.of_heap (w' := w.drew) rfl rfl rfl rfl)
    refine ⟨⟨(w.heap.size, grownCap w (0 + n2) 0 e, (Builtin.zeroCells z.cells (grownCap w (0 + n2) 0 e - (0 + n2))).toList), hcm', by simpa using hge, ?_⟩, w.drew.alloc (.cells (([] : List Value).toArray ++ ys.toArray ++ Builtin.zeroCells z.cells (grownCap w (0 + n2) 0 e - (0 + n2))) e), ?_, ?_⟩
    · simp only [Nat.zero_add] at hge
      simp only [Builtin.zeroCells, hzs, Nat.zero_add, Array.length_toList, Array.size_map, Array.size_range]
      rw [← Nat.add_mul]; congr 1; omega
    · simp only [execOp, resolve, invoke, builtin, Sem.run_bind, Sem.run_pure, Result.andThen_ok, List.map_toArray, List.map_cons, List.map_nil, hE x _ hx, hE y _ hy, hr, Nat.zero_add]
    · have hrow : (Obj.cells (([] : List Value).toArray ++ ys.toArray ++ Builtin.zeroCells z.cells (grownCap w (0 + n2) 0 e - (0 + n2))) e) = row e (ys ++ (Builtin.zeroCells z.cells (grownCap w (0 + n2) 0 e - (0 + n2))).toList) := by
        unfold row; congr 1; apply Array.ext'; simp
      rw [hrow]
      exact hM2.replace hm _

/-! ### Rows said by functions -/
def tab (n : Nat) (f : Nat → Value) : List Value := (List.range n).map f
def upd {α : Type} (f : Nat → α) (o : Nat) (x : α) : Nat → α := fun q => if q = o then x else f q
def irow (e : TypeId) (k : IntKind) (n : Nat) (f : Nat → Int) : Obj := row e (tab n fun q => .int k (f q))
def brow (e : TypeId) (n : Nat) (f : Nat → Bool) : Obj := row e (tab n fun q => .bool (f q))
def ints (k : IntKind) (xs : List Int) : List Value := xs.map (.int k)
/-- A slice that grows: its elements, and its spare room. -/
def lrow (e : TypeId) (k : IntKind) (xs : List Int) (sp : List Value) : Obj := row e (ints k xs ++ sp)

theorem upd_same {α : Type} (f : Nat → α) (o : Nat) (x : α) : upd f o x o = x := by simp [upd]
theorem upd_ne {α : Type} (f : Nat → α) {o q : Nat} (x : α) (h : q ≠ o) : upd f o x q = f q := by simp [upd, h]
theorem upd_fill {α : Type} (f : Nat → α) (z : α) (k : Nat) : upd (fun q => if q < k then f q else z) k (f k) = fun q => if q < k + 1 then f q else z := by
  funext q
  unfold upd
  by_cases h : q = k
  · subst h; simp
  · by_cases h2 : q < k
    · have : q < k + 1 := by omega
      simp [h, h2, this]
    · have : ¬ q < k + 1 := by omega
      simp [h, h2, this]
theorem upd_fillc {α : Type} (c z : α) (k : Nat) : upd (fun q => if q < k then c else z) k c = fun q => if q < k + 1 then c else z := upd_fill (fun _ => c) z k
theorem length_tab (n : Nat) (f : Nat → Value) : (tab n f).length = n := by simp [tab]
theorem tab_get {n o : Nat} {f : Nat → Value} (h : o < n) : (tab n f)[o]? = some (f o) := by simp [tab, h]
theorem tab_set {n o : Nat} {f : Nat → Value} {v : Value} (h : o < n) : (tab n f).set o v = tab n (upd f o v) := by
  refine List.ext_getElem (by simp [tab]) fun i h1 h2 => ?_
  rw [List.getElem_set]
  simp only [tab, upd, List.getElem_map, List.getElem_range]
  by_cases e : o = i
  · simp [e]
  · rw [if_neg e, if_neg (fun h => e h.symm)]
theorem tab_congr {n : Nat} {f f' : Nat → Value} (h : ∀ q, q < n → f q = f' q) : tab n f = tab n f' := by
  unfold tab; exact List.map_congr_left fun q hq => h q (List.mem_range.1 hq)
theorem irow_congr {e : TypeId} {k : IntKind} {n : Nat} {f f' : Nat → Int} (h : ∀ q, q < n → f q = f' q) : irow e k n f = irow e k n f' := by
  unfold irow; rw [tab_congr fun q hq => by rw [h q hq]]
theorem brow_congr {e : TypeId} {n : Nat} {f f' : Nat → Bool} (h : ∀ q, q < n → f q = f' q) : brow e n f = brow e n f' := by
  unfold brow; rw [tab_congr fun q hq => by rw [h q hq]]
theorem irow_fill {e : TypeId} {k : IntKind} {n : Nat} {f : Nat → Int} {z : Int} : irow e k n (fun q => if q < n then f q else z) = irow e k n f := irow_congr fun q hq => by simp [hq]
theorem brow_fill {e : TypeId} {n : Nat} {f : Nat → Bool} {z : Bool} : brow e n (fun q => if q < n then f q else z) = brow e n f := brow_congr fun q hq => by simp [hq]
theorem replicate_tab (n : Nat) (v : Value) : List.replicate n v = tab n fun _ => v := by
  refine List.ext_getElem (by simp [tab]) fun i h1 h2 => ?_
  simp [tab]

theorem OV.idx1 {e : TypeId} {b n c : Nat} {I : Int} (j : Nat) (hT : P.underlying T = some (.slice e)) (hs : size1 P e = true) (hx : ev env x = some (.slice (some ⟨b, 0, none⟩) n c)) (hy : ev env y = some (.int k I)) (hI : I = (j : Int)) (hj : j < n) :
    OV P env w0 F m ⟨d, .indexAddr T x y, ty, pos, af, g⟩ (.pointer (some ⟨b, j, none⟩)) := by
  unfold size1 at hs
  cases hi : P.info? e with
  | none => simp [hi] at hs
  | some i =>
    simp [hi] at hs
    have := OV.idx (P := P) (w0 := w0) (F := F) (m := m) (d := d) (ty := ty) (pos := pos) (af := af) (g := g) j hT hi hs hx hy hI hj
    simpa using this

theorem OV.idxOff {e : TypeId} {b off n c : Nat} {I : Int} (j : Nat) (hT : P.underlying T = some (.slice e)) (hs : size1 P e = true) (hx : ev env x = some (.slice (some ⟨b, off, none⟩) n c)) (hy : ev env y = some (.int k I)) (hI : I = (j : Int)) (hj : j < n) :
    OV P env w0 F m ⟨d, .indexAddr T x y, ty, pos, af, g⟩ (.pointer (some ⟨b, off + j, none⟩)) := by
  unfold size1 at hs
  cases hi : P.info? e with
  | none => simp [hi] at hs
  | some i =>
    simp [hi] at hs
    have := OV.idx (P := P) (w0 := w0) (F := F) (m := m) (d := d) (ty := ty) (pos := pos) (af := af) (g := g) j hT hi hs hx hy hI hj
    simpa using this

theorem OV.loadI {e : TypeId} {kk : IntKind} {n b o : Nat} {f : Nat → Int} (j : Nat) (hT : scalar P T = true) (hx : ev env x = some (.pointer (some ⟨b, o, none⟩))) (hm : m[j]? = some (b, irow e kk n f)) (ho : o < n) :
    OV P env w0 F m ⟨d, .load T x, ty, pos, af, g⟩ (.int kk (f o)) := OV.load j hT hx hm (tab_get ho)
theorem OV.loadB {e : TypeId} {n b o : Nat} {f : Nat → Bool} (j : Nat) (hT : scalar P T = true) (hx : ev env x = some (.pointer (some ⟨b, o, none⟩))) (hm : m[j]? = some (b, brow e n f)) (ho : o < n) :
    OV P env w0 F m ⟨d, .load T x, ty, pos, af, g⟩ (.bool (f o)) := OV.load j hT hx hm (tab_get ho)
theorem OV.loadL {e : TypeId} {kk : IntKind} {b o : Nat} {xs : List Int} {sp : List Value} (j : Nat) (hT : scalar P T = true) (hx : ev env x = some (.pointer (some ⟨b, o, none⟩))) (hm : m[j]? = some (b, lrow e kk xs sp)) (ho : o < xs.length) :
    OV P env w0 F m ⟨d, .load T x, ty, pos, af, g⟩ (.int kk (xs.getD o 0)) := OV.load j hT hx hm (by
      rw [List.getElem?_append_left (by simpa [ints] using ho)]; simp [ints, ho])
/-- A cell of a struct that is known cell by cell. -/
theorem OV.loadF {e : TypeId} {cs : List Value} {b o : Nat} {v : Value} (j : Nat) (hT : scalar P T = true) (hx : ev env x = some (.pointer (some ⟨b, o, none⟩))) (hm : m[j]? = some (b, row e cs)) (hc : cs[o]? = some v) :
    OV P env w0 F m ⟨d, .load T x, ty, pos, af, g⟩ v := OV.load j hT hx hm hc

theorem OS.storeI {e : TypeId} {kk : IntKind} {n b o : Nat} {f : Nat → Int} {r : Int} (j : Nat) (hT : size1 P T = true) (hx : ev env x = some (.pointer (some ⟨b, o, none⟩))) (hy : ev env y = some (.int kk r)) (hm : m[j]? = some (b, irow e kk n f)) (ho : o < n) :
    OS P env w0 F m ⟨d, .store T x y, ty, pos, af, g⟩ (m.set j (b, irow e kk n (upd f o r))) := by
  have := OS.store1 (P := P) (w0 := w0) (F := F) (d := d) (ty := ty) (pos := pos) (af := af) (g := g) j hT hx hy hm rfl (by rw [length_tab]; exact ho)
  rw [tab_set ho] at this
  have e2 : tab n (upd (fun q => Value.int kk (f q)) o (.int kk r)) = tab n fun q => .int kk (upd f o r q) := tab_congr fun q hq => by
    unfold upd; split <;> rfl
  rw [e2] at this
  exact this
theorem OS.storeB {e : TypeId} {n b o : Nat} {f : Nat → Bool} {r : Bool} (j : Nat) (hT : size1 P T = true) (hx : ev env x = some (.pointer (some ⟨b, o, none⟩))) (hy : ev env y = some (.bool r)) (hm : m[j]? = some (b, brow e n f)) (ho : o < n) :
    OS P env w0 F m ⟨d, .store T x y, ty, pos, af, g⟩ (m.set j (b, brow e n (upd f o r))) := by
  have := OS.store1 (P := P) (w0 := w0) (F := F) (d := d) (ty := ty) (pos := pos) (af := af) (g := g) j hT hx hy hm rfl (by rw [length_tab]; exact ho)
  rw [tab_set ho] at this
  have e2 : tab n (upd (fun q => Value.bool (f q)) o (.bool r)) = tab n fun q => .bool (upd f o r q) := tab_congr fun q hq => by
    unfold upd; split <;> rfl
  rw [e2] at this
  exact this

def infoIs (P : Program) (t : TypeId) (z : Value) (by_ : Nat) : Prop := (P.info? t).map (fun i => (i.zero, i.size, i.bytes)) = some (some z, 1, by_)

theorem OE.makeI {e : TypeId} {kk kl kc : IntKind} {by_ : Nat} {L C : Int} (l c : Nat) (hT : P.underlying T = some (.slice e)) (hi : infoIs P e (.int kk 0) by_) (hx : ev env x = some (.int kl L)) (hy : ev env y = some (.int kc C)) (hL : L = (l : Int)) (hC : C = (c : Int)) (hlc : l ≤ c) (hb : by_ * c ≤ 281474976710656) (h63 : c ≤ 9223372036854775807) :
    OE P env w0 F m ⟨d, .makeSlice T x y, ty, pos, af, g⟩ (fun nb : Nat => .slice (some ⟨nb, 0, none⟩) l c) (fun nb => m ++ [(nb, irow e kk c fun _ => 0)]) := by
  obtain ⟨i, h1, h2, h3, h4⟩ := info_parts hi
  have := OE.make (P := P) (w0 := w0) (F := F) (m := m) (d := d) (ty := ty) (pos := pos) (af := af) (g := g) l c hT h1 h2 h3 rfl hx hy hL hC hlc (by rw [h4]; exact hb) h63
  rw [replicate_tab] at this
  exact this
theorem OE.makeB {e : TypeId} {kl kc : IntKind} {by_ : Nat} {L C : Int} (l c : Nat) (hT : P.underlying T = some (.slice e)) (hi : infoIs P e (.bool false) by_) (hx : ev env x = some (.int kl L)) (hy : ev env y = some (.int kc C)) (hL : L = (l : Int)) (hC : C = (c : Int)) (hlc : l ≤ c) (hb : by_ * c ≤ 281474976710656) (h63 : c ≤ 9223372036854775807) :
    OE P env w0 F m ⟨d, .makeSlice T x y, ty, pos, af, g⟩ (fun nb : Nat => .slice (some ⟨nb, 0, none⟩) l c) (fun nb => m ++ [(nb, brow e c fun _ => false)]) := by
  obtain ⟨i, h1, h2, h3, h4⟩ := info_parts hi
  have := OE.make (P := P) (w0 := w0) (F := F) (m := m) (d := d) (ty := ty) (pos := pos) (af := af) (g := g) l c hT h1 h2 h3 rfl hx hy hL hC hlc (by rw [h4]; exact hb) h63
  rw [replicate_tab] at this
  exact this
/-- 'make([]T, 0, c)': room for c. -/
theorem OE.makeL {e : TypeId} {kk kl kc : IntKind} {by_ : Nat} {C : Int} (c : Nat) (hT : P.underlying T = some (.slice e)) (hi : infoIs P e (.int kk 0) by_) (hx : ev env x = some (.int kl 0)) (hy : ev env y = some (.int kc C)) (hC : C = (c : Int)) (hb : by_ * c ≤ 281474976710656) (h63 : c ≤ 9223372036854775807) :
    OE P env w0 F m ⟨d, .makeSlice T x y, ty, pos, af, g⟩ (fun nb : Nat => .slice (some ⟨nb, 0, none⟩) 0 c) (fun nb => m ++ [(nb, lrow e kk [] (List.replicate c (.int kk 0)))]) := by
  obtain ⟨i, h1, h2, h3, h4⟩ := info_parts hi
  exact OE.make (P := P) (w0 := w0) (F := F) (m := m) (d := d) (ty := ty) (pos := pos) (af := af) (g := g) 0 c hT h1 h2 h3 rfl hx hy rfl hC (Nat.zero_le _) (by rw [h4]; exact hb) h63
theorem OE.bslice1I {e : TypeId} {kk : IntKind} {by_ : Nat} {r : Int} (hT : P.underlying T = some (.slice e)) (hi : infoIs P e (.int kk 0) by_) (hx : ev env x = some (.int kk r)) :
    OE P env w0 F m ⟨d, .buildSlice T 1 #[(0, x)], ty, pos, af, g⟩ (fun nb : Nat => .slice (some ⟨nb, 0, none⟩) 1 1) (fun nb => m ++ [(nb, lrow e kk [r] [])]) := by
  obtain ⟨i, h1, h2, h3, h4⟩ := info_parts hi
  exact OE.bslice1 hT h1 h3 h2 rfl hx rfl
theorem OE.bslice0I {e : TypeId} {kk : IntKind} {by_ : Nat} (hT : P.underlying T = some (.slice e)) (hi : infoIs P e (.int kk 0) by_) :
    OE P env w0 F m ⟨d, .buildSlice T 0 #[], ty, pos, af, g⟩ (fun nb : Nat => .slice (some ⟨nb, 0, none⟩) 0 0) (fun nb => m ++ [(nb, lrow e kk [] [])]) := by
  obtain ⟨i, h1, h2, h3, h4⟩ := info_parts hi
  exact OE.bslice0 hT h1
/-- 'xs = append(xs, r)' where there is room. -/
theorem OE.appendRoomI {e : TypeId} {kk : IntKind} {by_ b n c b2 : Nat} {xs : List Int} {sp : List Value} {r : Int} (j j2 : Nat) (hT : P.underlying T = some (.slice e)) (hi : infoIs P e (.int kk 0) by_) (hx : ev env x = some (.slice (some ⟨b, 0, none⟩) n c)) (hy : ev env y = some (.slice (some ⟨b2, 0, none⟩) 1 1)) (hm : m[j]? = some (b, lrow e kk xs sp)) (hm2 : m[j2]? = some (b2, lrow e kk [r] [])) (hn : n = xs.length) (hsp : n + sp.length = c) (hroom : n < c) :
    OE P env w0 F m ⟨d, .call ⟨.builtin .append, #[x, y], #[T, T]⟩, ty, pos, af, g⟩ (fun _ : Unit => .slice (some ⟨b, 0, none⟩) (n + 1) c) (fun _ => m.set j (b, lrow e kk (xs ++ [r]) (sp.drop 1))) := by
  obtain ⟨i, h1, h2, h3, h4⟩ := info_parts hi
  have := OE.appendRoom (P := P) (w0 := w0) (F := F) (d := d) (ty := ty) (pos := pos) (af := af) (g := g) (ys := [.int kk r]) j hT h1 h3 hx hy hm (Src.own0 j2 hm2) rfl (by simp [Value.oneCell']) (by omega) (by simp [ints]; omega)
  have e2 : (ints kk xs ++ sp).take n ++ [.int kk r] ++ (ints kk xs ++ sp).drop (n + 1) = ints kk (xs ++ [r]) ++ sp.drop 1 := by
    subst hn
    have hl : (ints kk xs).length = xs.length := by simp [ints]
    rw [← hl, List.take_left, List.drop_append]
    simp [ints]
  rw [e2] at this
  exact this
/-- 'xs = append(xs, r)' that may grow. -/
theorem OE.appendI {e : TypeId} {kk : IntKind} {by_ b n c b2 : Nat} {xs : List Int} {sp : List Value} {r : Int} (j j2 : Nat) (hT : P.underlying T = some (.slice e)) (hi : infoIs P e (.int kk 0) by_) (hx : ev env x = some (.slice (some ⟨b, 0, none⟩) n c)) (hy : ev env y = some (.slice (some ⟨b2, 0, none⟩) 1 1)) (hm : m[j]? = some (b, lrow e kk xs sp)) (hm2 : m[j2]? = some (b2, lrow e kk [r] [])) (hn : n = xs.length) (hsp : n + sp.length = c) (hcm : c ≤ maxLen) (h63 : n + 1 ≤ maxLen) (hby : (n + 1) * by_ ≤ 140737488355328) :
    OE P env w0 F m ⟨d, .call ⟨.builtin .append, #[x, y], #[T, T]⟩, ty, pos, af, g⟩ (fun s : { s : Nat × Nat × List Value // s.2.1 ≤ maxLen ∧ n + 1 + s.2.2.length = s.2.1 } => .slice (some ⟨s.1.1, 0, none⟩) (n + 1) s.1.2.1) (fun s => m.set j (s.1.1, lrow e kk (xs ++ [r]) s.1.2.2)) := by
  obtain ⟨i, h1, h2, h3, h4⟩ := info_parts hi
  have := OE.append (P := P) (w0 := w0) (F := F) (d := d) (ty := ty) (pos := pos) (af := af) (g := g) (ys := [.int kk r]) j hT h1 h2 h3 rfl hx hy hm (Src.own0 j2 hm2) rfl (by simp [Value.oneCell']) (by omega) (by simp [ints]; omega) hcm h63 (by rw [h4]; exact hby)
  have e2 : (ints kk xs ++ sp).take n ++ [.int kk r] = ints kk (xs ++ [r]) := by
    subst hn
    have hl : (ints kk xs).length = xs.length := by simp [ints]
    rw [← hl, List.take_left]
    simp [ints]
  simp only [e2] at this
  exact this

/-! ### A region that draws its order and makes or writes memory: whatever yields its value while the blocks 'mS' stand is taken first; the rest in whatever order -/
def PanicOk (Q : Exit → Act → World → Prop) : Prop := ∀ c a d v w, Q (.panic c) (Act.put a d v) w → Q (.panic c) a w
theorem PanicOk.then {Q : Exit → Act → World → Prop} {X : Act → World → Prop} (h : PanicOk Q) : PanicOk (Exit.then X Q) := fun c a d v w hq => h c a d v w hq
theorem PanicOk.block {Q : Exit → Act → World → Prop} {id : Nat} (h : PanicOk Q) : PanicOk (Exit.inBlock id Q) := fun c a d v w hq => h c a d v w hq
theorem PanicOk.body {fn : Func} {R : Ending → World → Prop} : PanicOk (bodyPost P fn R) := fun c a d v w hq => by
  obtain ⟨h1, h2⟩ := hq
  exact ⟨by cases d <;> exact h1, h2⟩

/-- The frame that an operation leaves. -/
theorem wpOp_shape {Q : Exit → Act → World → Prop} {ops : Array Oper} {j : Nat} {oj : Oper} (hj : ops[j]? = some oj) {K : Act → World → Prop} {a : Act} {w : World} (h : wpOp P ops Q j K a w) :
    wpOp P ops Q j (fun a' w' => ((∃ u, a' = a.put oj.dst u) ∨ (∃ u d, a' = ({ a with defers := d :: a.defers } : Act).put oj.dst u)) ∧ K a' w') a w := by
  unfold wpOp at *
  simp only [hj] at *
  split
  · rename_i hw
    simp only [hw, if_true] at h
    rcases h with h | h
    · refine .inl ?_
      unfold Oper.wp at *
      generalize (execOp a.eval oj).run P w = r at *
      cases r with
      | ok n w' =>
        cases n <;> simp only [Oper.upon] at h ⊢
        case value u => exact ⟨.inl ⟨u, rfl⟩, h⟩
        case skip => exact ⟨.inl ⟨_, rfl⟩, h⟩
        case defer d => exact ⟨.inr ⟨_, d, rfl⟩, h⟩
        case enter f args =>
          refine Calls.mono h fun e w'' he => ?_
          cases e with
          | returned u => exact ⟨.inl ⟨u, rfl⟩, he⟩
          | panicked c => exact he
          | outgrown => exact he
        case row row args => exact Rows.mono h fun u w'' he => ⟨.inl ⟨u, rfl⟩, he⟩
      | halt x w' =>
        cases x <;> simp only [Oper.upon] at h ⊢
        all_goals exact h
    · exact .inr h
  · rename_i hw
    simp only [hw] at h
    exact ⟨.inl ⟨_, rfl⟩, h⟩

/-- Whatever order is picked from here on; behind every operation that is carried out 'I' holds of what has come up and of the world. -/
def wpAnyI (P : Program) (ops : Array Oper) (Q : Exit → Act → World → Prop) (I : Array Bool → World → Prop) : Nat → Array Bool → Act → World → Prop
  | 0, listed, a, w => Region.ready .any ops listed = [] ∧ Q .normal a w
  | fuel + 1, listed, a, w =>
    (Region.ready .any ops listed = [] → Q .normal a w) ∧
    ∀ i ∈ Region.ready .any ops listed, wpOp P ops Q i (fun a' w' => I (listed.setIfInBounds i true) w' ∧ wpAnyI P ops Q I fuel (listed.setIfInBounds i true) a' w') a w

theorem wpAny_of_I {Q : Exit → Act → World → Prop} {ops : Array Oper} {I : Array Bool → World → Prop} : ∀ (fuel : Nat) (listed : Array Bool) (a : Act) (w : World), wpAnyI P ops Q I fuel listed a w → wpAny P .any ops Q fuel listed a w
  | 0, _, _, _, h => h
  | fuel + 1, _, _, _, h => ⟨h.1, fun i hi => wpOp_mono (fun a' w' h' => wpAny_of_I fuel _ a' w' h'.2) (h.2 i hi)⟩

/-- An operation may be taken first, if it yields its value in every world that I allows as long as it has not come up. -/
theorem wpAnyI_first {Q : Exit → Act → World → Prop} {ops : Array Oper} {I : Array Bool → World → Prop} {V : Array Bool → Prop} {i : Nat} {oi : Oper} {v : Value} (hi : ops[i]? = some oi) (hsel : ∀ (j : Nat) (o : Oper) cs b, ops[j]? = some o → o.op ≠ .select cs b)
    (hQ : ∀ c a w, Q (.panic c) (a.put oi.dst v) w → Q (.panic c) a w) (hins : ∀ L w, I (L.setIfInBounds i true) w ↔ I L w)
    (hV : ∀ L j, V L → j ≠ i → L.getD i true = false → j ∈ Region.ready .any ops L → V (L.setIfInBounds j true)) :
    ∀ (fuel : Nat) (listed : Array Bool) (a : Act) (w : World),
      (∀ j oj, ops[j]? = some oj → j ≠ i → listed.getD j true = false → (∀ e ∈ oj.after, Region.binds .any e = true → e.on ≠ i) → oi.apart ops oj = true) →
      i ∈ Region.ready .any ops listed → V listed → (∀ L, V L → L.getD i true = false → YieldsIf P ops (I L) oi v a) → I listed w →
      wpAnyI P ops Q I fuel (listed.setIfInBounds i true) (a.put oi.dst v) w → wpAnyI P ops Q I (fuel + 1) listed a w := by
  intro fuel
  induction fuel with
  | zero =>
    intro listed a w _ hr hVl hy hI H
    refine ⟨fun h => (by rw [h] at hr; cases hr), fun j hj => ?_⟩
    by_cases hji : j = i
    · subst hji; exact (hy listed hVl (mem_ready.1 hr).1).wpOp hi hI ⟨(hins _ _).2 hI, H⟩
    · have := ready_mono hj hji
      rw [H.1] at this
      cases this
  | succ fuel ih =>
    intro listed a w hfree hr hVl hy hI H
    refine ⟨fun h => (by rw [h] at hr; cases hr), fun j hj => ?_⟩
    by_cases hji : j = i
    · subst hji; exact (hy listed hVl (mem_ready.1 hr).1).wpOp hi hI ⟨(hins _ _).2 hI, H⟩
    · have h1 := H.2 j (ready_mono hj hji)
      have hiu := (mem_ready.1 hr).1
      obtain ⟨hjun, oj, hoj, hall⟩ := mem_ready.1 hj
      have hnot : ∀ e ∈ oj.after, Region.binds .any e = true → e.on ≠ i := fun e he hb heq => by
        have h1 := hall e he hb
        rw [heq] at h1
        rcases Nat.lt_or_ge i listed.size with h' | h'
        · simp [h'] at hiu h1; rw [hiu] at h1; cases h1
        · simp [Array.getElem?_eq_none h'] at h1
      have hap := hfree j oj hoj hji hjun hnot
      have h2 := wpOp_putIf (S := I listed) hoj hap (fun cs b => hsel i oi cs b hi) (fun cs b => hsel j oj cs b hoj) hQ (hy listed hVl hiu) h1
      obtain ⟨_, _, h3'⟩ := Oper.apart_spec hap
      have hfree' : ∀ k ok, ops[k]? = some ok → k ≠ i → (listed.setIfInBounds j true).getD k true = false →
          (∀ e ∈ ok.after, Region.binds .any e = true → e.on ≠ i) → oi.apart ops ok = true := fun k ok hk hki hun hno => by
        refine hfree k ok hk hki ?_ hno
        by_cases hjk : j = k
        · subst hjk; exact hjun
        · rw [getD_set_ne true hjk] at hun; exact hun
      -- what i yields does not hang on what j leaves
      have hyAll : ∀ L, V L → L.getD i true = false → wpOp P ops Q j (fun a' w' => YieldsIf P ops (I L) oi v a' ∧ (I ((listed.setIfInBounds i true).setIfInBounds j true) w' ∧ wpAnyI P ops Q I fuel ((listed.setIfInBounds i true).setIfInBounds j true) (a'.put oi.dst v) w')) a w := fun L hVL hLi =>
        wpOp_putIf (S := I L) hoj hap (fun cs b => hsel i oi cs b hi) (fun cs b => hsel j oj cs b hoj) hQ (hy L hVL hLi) h1
      have hkeep : ∀ (a' : Act), (∃ u, a' = a.put oj.dst u) ∨ (∃ u d, a' = ({ a with defers := d :: a.defers } : Act).put oj.dst u) → ∀ L, V L → L.getD i true = false → YieldsIf P ops (I L) oi v a' := by
        intro a' ha' L hVL hLi
        rcases ha' with ⟨u, rfl⟩ | ⟨u, d, rfl⟩
        · exact (hy L hVL hLi).of_same (execOp_put oi (fun cs b => hsel i oi cs b hi) a oj.dst u h3') (wanted_put oi a oj.dst u h3')
        · exact (hy L hVL hLi).of_same (execOp_put oi (fun cs b => hsel i oi cs b hi) ({ a with defers := d :: a.defers } : Act) oj.dst u h3') (wanted_put oi ({ a with defers := d :: a.defers } : Act) oj.dst u h3')
      have hwp := wpOp_shape hoj h2
      refine wpOp_mono (fun a' w' h3 => ?_) hwp
      obtain ⟨hsh, h3⟩ := h3
      have hIj : I (listed.setIfInBounds j true) w' := by
        have := h3.2.1
        rw [Array.setIfInBounds_comm _ _ (Ne.symm hji)] at this
        exact (hins _ _).1 this
      refine ⟨hIj, ih (listed.setIfInBounds j true) a' w' hfree' (ready_mono hr (Ne.symm hji)) (hV listed j hVl hji hiu hj) (hkeep a' hsh) hIj ?_⟩
      rw [Array.setIfInBounds_comm _ _ hji]
      exact h3.2.2

/-- Two classes of worlds: till operation k1 has come up the blocks m1 stand, from then on m2. -/
def Two (w0 : World) (F : List Nat) (k1 : Nat) (m1 m2 : List Blk) (L : Array Bool) (w : World) : Prop := Mm w0 F (bif L.getD k1 true then m2 else m1) w

structure SA (P : Program) (ops : Array Oper) (Q : Exit → Act → World → Prop) (k1 : Nat) (m1 m2 : List Blk) (fuel : Nat) (listed : Array Bool) (N : Nat) (env : Env) (w0 : World) (F : List Nat) (m : List Blk) : Prop where
  out : ∀ a w, Fr N env a → Mm w0 F m w → wpAnyI P ops Q (Two w0 F k1 m1 m2) fuel listed a w
structure SO (P : Program) (ops : Array Oper) (Q : Exit → Act → World → Prop) (k1 : Nat) (m1 m2 : List Blk) (i : Nat) (fuel : Nat) (listed : Array Bool) (N : Nat) (env : Env) (w0 : World) (F : List Nat) (m : List Blk) : Prop where
  out : ∀ a w, Fr N env a → Mm w0 F m w → wpOp P ops Q i (fun a' w' => Two w0 F k1 m1 m2 (listed.setIfInBounds i true) w' ∧ wpAnyI P ops Q (Two w0 F k1 m1 m2) fuel (listed.setIfInBounds i true) a' w') a w

def waitsFor (ops : Array Oper) (k1 i : Nat) : Bool := match ops[k1]? with
  | some ok => ok.after.any fun e => Region.binds .any e && e.on == i
  | none => false

section
variable {Q : Exit → Act → World → Prop} {N fuel k1 : Nat} {ops : Array Oper} {m1 m2 : List Blk} {listed : Array Bool}
theorem SC.held {id : Nat} (k1 : Nat) (m1 m2 : List Blk) (hm : P.follows .mixedOrders = true) (h : SA P ops Q k1 m1 m2 ops.size (Array.replicate ops.size false) N env w0 F m) : SC P (.region id ops true) Q N env w0 F m :=
  ⟨fun a w hF hM => wp_region_any hm (wpAny_of_I _ _ _ _ (h.out a _ hF hM.drew))⟩

theorem Two.ins {i : Nat} (hik : Nat.beq i k1 = false) (L : Array Bool) (w : World) : Two w0 F k1 m1 m2 (L.setIfInBounds i true) w ↔ Two w0 F k1 m1 m2 L w := by
  have hne : i ≠ k1 := fun e => by subst e; simp at hik
  unfold Two
  rw [getD_set_ne true hne]

/-- An operation for which k1 waits, taken first while k1 has not come up. -/
theorem SA.takeA {i dd : Nat} {op : Op} {v : Value} (hQ : PanicOk Q) (hi : ops[i]? = some ⟨some dd, op, ty, pos, af, none⟩) (hs : Region.noSelect ops = true) (hf : Region.free .any ops listed i = true) (hr : (Region.ready .any ops listed).contains i = true)
    (hik : Nat.beq i k1 = false) (hk : listed.getD k1 true = false) (hw : waitsFor ops k1 i = true) (hmS : m1.Sublist m) (ho : OV P env w0 F m1 ⟨some dd, op, ty, pos, af, none⟩ v) (hd : Nat.blt dd N = true)
    (h : SA P ops Q k1 m1 m2 fuel (listed.setIfInBounds i true) N ((dd, v) :: env) w0 F m) : SA P ops Q k1 m1 m2 (fuel + 1) listed N env w0 F m :=
  ⟨fun a w hF hM => wpAnyI_first (V := fun L => L.getD k1 true = false) hi (Region.noSelect_spec hs) (fun c a w hq => hQ c a _ _ w hq) (Two.ins hik)
    (fun L j hVL hji hLi hj => by
      by_cases hjk : j = k1
      · subst hjk
        exfalso
        obtain ⟨_, o, ho', hall⟩ := mem_ready.1 hj
        unfold waitsFor at hw
        rw [ho'] at hw
        simp only [Array.any_eq_true'] at hw
        obtain ⟨e, he, hb⟩ := hw
        simp only [Bool.and_eq_true, beq_iff_eq] at hb
        have h1 := hall e he hb.1
        rw [hb.2] at h1
        rcases Nat.lt_or_ge i L.size with h' | h'
        · simp [h'] at hLi h1; rw [hLi] at h1; cases h1
        · simp [Array.getElem?_eq_none h'] at h1
      · rw [getD_set_ne true hjk]; exact hVL) fuel listed a w (Region.free_spec hi hf) (by simpa using hr) hk
    (fun L hVL _ => .inl ⟨rfl, fun w' hM' => ho.out a w' (fun x u hx => hF.eval hx) (by unfold Two at hM'; rw [hVL] at hM'; exact hM')⟩) (by unfold Two; rw [hk]; exact hM.weaken hmS) (h.out _ w (hF.put hd v) hM)⟩

theorem Mm.nil {w : World} (h : Mm w0 F m w) : Mm w0 F [] w := h.weaken (List.nil_sublist _)

/-- An operation that looks at none of the listed blocks, taken first. -/
theorem SA.takeC {i dd : Nat} {op : Op} {v : Value} (hQ : PanicOk Q) (hi : ops[i]? = some ⟨some dd, op, ty, pos, af, none⟩) (hs : Region.noSelect ops = true) (hf : Region.free .any ops listed i = true) (hr : (Region.ready .any ops listed).contains i = true)
    (hik : Nat.beq i k1 = false) (hmS : (bif listed.getD k1 true then m2 else m1).Sublist m) (ho : OV P env w0 F [] ⟨some dd, op, ty, pos, af, none⟩ v) (hd : Nat.blt dd N = true)
    (h : SA P ops Q k1 m1 m2 fuel (listed.setIfInBounds i true) N ((dd, v) :: env) w0 F m) : SA P ops Q k1 m1 m2 (fuel + 1) listed N env w0 F m :=
  ⟨fun a w hF hM => wpAnyI_first (V := fun _ => True) hi (Region.noSelect_spec hs) (fun c a w hq => hQ c a _ _ w hq) (Two.ins hik)
    (fun _ _ _ _ _ _ => trivial) fuel listed a w (Region.free_spec hi hf) (by simpa using hr) trivial
    (fun L _ _ => .inl ⟨rfl, fun w' hM' => ho.out a w' (fun x u hx => hF.eval hx) (by unfold Two at hM'; exact hM'.nil)⟩) (hM.weaken hmS) (h.out _ w (hF.put hd v) hM)⟩

theorem SA.all {rs : List Nat} (hr : Region.ready .any ops listed = rs) (hne : rs ≠ []) (h : ∀ i ∈ rs, SO P ops Q k1 m1 m2 i fuel listed N env w0 F m) : SA P ops Q k1 m1 m2 (fuel + 1) listed N env w0 F m :=
  ⟨fun a w hF hM => ⟨fun h0 => absurd (hr ▸ h0) hne, hr ▸ fun i hi => (h i hi).out a w hF hM⟩⟩

theorem SA.done (hr : Region.ready .any ops listed = []) (h : SE (Q .normal) N env w0 F m) : SA P ops Q k1 m1 m2 fuel listed N env w0 F m :=
  ⟨fun a w hF hM => by
    cases fuel with
    | zero => exact ⟨hr, h.out a w hF hM⟩
    | succ f => exact ⟨fun _ => h.out a w hF hM, by rw [hr]; simp⟩⟩

theorem SO.e {i dd : Nat} {op : Op} {σ : Type} {V : σ → Value} {M : σ → List Blk} (hi : ops[i]? = some ⟨some dd, op, ty, pos, af, none⟩) (ho : OE P env w0 F m ⟨some dd, op, ty, pos, af, none⟩ V M) (hd : Nat.blt dd N = true) (hmS : ∀ s, (bif (listed.setIfInBounds i true).getD k1 true then m2 else m1).Sublist (M s))
    (h : ∀ s, SA P ops Q k1 m1 m2 fuel (listed.setIfInBounds i true) N ((dd, V s) :: env) w0 F (M s)) : SO P ops Q k1 m1 m2 i fuel listed N env w0 F m :=
  ⟨fun a w hF hM => by
    obtain ⟨s, w', hr, hM'⟩ := ho.out a w (fun x u hx => hF.eval hx) hM
    unfold wpOp
    simp only [hi, Region.wanted, if_true, Oper.wp, hr, Oper.upon]
    exact .inl ⟨hM'.weaken (hmS s), (h s).out _ w' (hF.put hd _) hM'⟩⟩

theorem SO.v {i dd : Nat} {op : Op} {v : Value} (hi : ops[i]? = some ⟨some dd, op, ty, pos, af, none⟩) (ho : OV P env w0 F m ⟨some dd, op, ty, pos, af, none⟩ v) (hd : Nat.blt dd N = true) (hmS : (bif (listed.setIfInBounds i true).getD k1 true then m2 else m1).Sublist m)
    (h : SA P ops Q k1 m1 m2 fuel (listed.setIfInBounds i true) N ((dd, v) :: env) w0 F m) : SO P ops Q k1 m1 m2 i fuel listed N env w0 F m :=
  ⟨fun a w hF hM => by
    have hr := ho.out a w (fun x u hx => hF.eval hx) hM
    unfold wpOp
    simp only [hi, Region.wanted, if_true, Oper.wp, hr, Oper.upon]
    exact .inl ⟨hM.weaken hmS, h.out _ w (hF.put hd _) hM⟩⟩

theorem SO.s {i : Nat} {op : Op} {m' : List Blk} (hi : ops[i]? = some ⟨none, op, ty, pos, af, none⟩) (ho : OS P env w0 F m ⟨none, op, ty, pos, af, none⟩ m') (hmS : (bif (listed.setIfInBounds i true).getD k1 true then m2 else m1).Sublist m')
    (h : SA P ops Q k1 m1 m2 fuel (listed.setIfInBounds i true) N env w0 F m') : SO P ops Q k1 m1 m2 i fuel listed N env w0 F m :=
  ⟨fun a w hF hM => by
    obtain ⟨w', hr, hM'⟩ := ho.out a w (fun x u hx => hF.eval hx) hM
    unfold wpOp
    simp only [hi, Region.wanted, if_true, Oper.wp, hr, Oper.upon]
    exact .inl ⟨hM'.weaken hmS, h.out _ w' (hF.put_none _) hM'⟩⟩
end

/-! ### Calls -/
def plainFunc (P : Program) (f : FuncId) : Bool := match P.funcs[f]? with
  | some fn => !(fn.name == "runtime.NumGoroutine") && fn.body.isSome
  | none => false

/-- A call of a function by its name: the contract holds in every world that the memory's list allows. -/
theorem SL.call {Q : Exit → Act → World → Prop} {N : Nat} {ops : Array Oper} {rest : List Oper} {σ : Type} {V : σ → Value} {M : σ → List Blk} {G : σ → Prop} {d f : Nat} {args : Array Operand} {ts : Array TypeId} {vs : Array Value}
    (hf : plainFunc P f = true) (hargs : ∀ (ρ : Operand → Value), (∀ x u, ev env x = some u → ρ x = u) → args.map ρ = vs)
    (hc : ∀ w, Mm w0 F m w → Calls P f vs w fun e w' => ∃ s, e = .returned (V s) ∧ G s ∧ Mm w0 F (M s) w') (hd : Nat.blt d N = true)
    (h : ∀ s, G s → SL P ops Q rest N ((d, V s) :: env) w0 F (M s)) : SL P ops Q (⟨some d, .call ⟨.value (.func f), args, ts⟩, ty, pos, af, none⟩ :: rest) N env w0 F m :=
  ⟨fun a w hF hM => wpList_plain rfl fun K hK => by
    have hr : (execOp a.eval ⟨some d, .call ⟨.value (.func f), args, ts⟩, ty, pos, af, none⟩).run P w = .ok (.enter f vs) w := by
      have hv := hargs a.eval (fun x u hx => hF.eval hx)
      unfold plainFunc at hf
      cases hfn : P.funcs[f]? with
      | none => simp [hfn] at hf
      | some fn =>
        simp [hfn] at hf
        obtain ⟨h1, h2⟩ := hf
        cases hb : fn.body with
        | none => simp [hb] at h2
        | some c => simp [execOp, resolve, Act.eval, Deferred.ofValue, invoke, callFunc, hfn, h1, hb, hv]
    unfold Oper.wp
    rw [hr]
    refine (hc w hM).mono fun e w' ⟨s, he, hG, hM'⟩ => ?_
    subst he
    exact hK _ _ ((h s hG).out _ w' (hF.put hd _) hM')⟩

/-- What a callee has done to the memory, seen by the caller: 'm'' has the caller's blocks, each as it was or as the callee left it, and the callee's new ones behind them. -/
theorem Mm.callee {w w' : World} {F' : List Nat} {M' m' new : List Blk} (h : Mm w0 F m w) (h' : Mm w F' M' w') (hkeys : m'.map (·.1) = m.map (·.1) ++ new.map (·.1)) (hnew : new.Sublist M') (hge : ∀ p ∈ new, p.1 ∉ F')
    (hm' : ∀ p ∈ m', (p ∈ m ∧ p.1 ∉ F') ∨ p ∈ M') (hF' : ∀ b ∈ F', b ∈ m.map (·.1)) : Mm w0 F m' w' := by
  have hnewge : ∀ p ∈ new, w.heap.size ≤ p.1 := fun p hp => ((h'.own p (hnew.subset hp)).2).resolve_left (hge p hp)
  refine ⟨h'.os.trans h.os, h'.tape.trans h.tape, h'.output.trans h.output, Nat.le_trans h.size h'.size, fun k hk hkF => ?_, fun p hp => ?_, ?_⟩
  · have hkF' : k ∉ F' := fun hkin => by
      obtain ⟨p, hp, rfl⟩ := List.mem_map.1 (hF' k hkin)
      rcases (h.own p hp).2 with h1 | h1
      · exact hkF h1
      · omega
    rw [h'.old k (Nat.lt_of_lt_of_le hk h.size) hkF']
    exact h.old k hk hkF
  · have hcase : p.1 ∈ m.map (·.1) ∨ p.1 ∈ new.map (·.1) := by
      have : p.1 ∈ m'.map (·.1) := List.mem_map_of_mem hp
      rw [hkeys] at this
      exact List.mem_append.1 this
    have hside : p.1 ∈ F ∨ w0.heap.size ≤ p.1 := by
      rcases hcase with h1 | h1
      · obtain ⟨q, hq, he⟩ := List.mem_map.1 h1
        rw [← he]; exact (h.own q hq).2
      · obtain ⟨q, hq, he⟩ := List.mem_map.1 h1
        rw [← he]; exact .inr (Nat.le_trans h.size (hnewge q hq))
    refine ⟨?_, hside⟩
    rcases hm' p hp with ⟨h1, h2⟩ | h1
    · rw [h'.old p.1 (h.lt h1) h2]; exact (h.own p h1).1
    · exact (h'.own p h1).1
  · rw [hkeys, List.nodup_append]
    refine ⟨h.nodup, (hnew.map _).nodup h'.nodup, ?_⟩
    intro x hx y hy e
    subst e
    obtain ⟨p, hp, rfl⟩ := List.mem_map.1 hx
    obtain ⟨q, hq, he⟩ := List.mem_map.1 hy
    have := h.lt hp
    have := hnewge q hq
    omega

/-- A callee that writes nothing that was there. -/
theorem Mm.callee0 {w w' : World} {M' : List Blk} (h : Mm w0 F m w) (h' : Mm w [] M' w') : Mm w0 F (m ++ M') w' :=
  h.callee h' (new := M') (by simp) (List.Sublist.refl _) (by simp) (fun p hp => by
    rcases List.mem_append.1 hp with h1 | h1
    · exact .inl ⟨h1, by simp⟩
    · exact .inr h1) (by simp)

theorem Mm.start (w : World) : Mm w [] [] w := ⟨rfl, rfl, rfl, Nat.le_refl _, fun _ _ _ => rfl, by simp, by simp⟩

/-- Blocks that were there, listed: those of F may be written. -/
theorem Mm.start' {w : World} {F : List Nat} {m : List Blk} (hm : ∀ p ∈ m, w.heap[p.1]? = some p.2) (hF : m.map (·.1) = F) (hn : F.Nodup) : Mm w F m w :=
  ⟨rfl, rfl, rfl, Nat.le_refl _, fun _ _ _ => rfl, fun p hp => ⟨hm p hp, .inl (by rw [← hF]; exact List.mem_map_of_mem hp)⟩, by rw [hF]; exact hn⟩

def argEnv : Nat → List Value → Env
  | _, [] => []
  | i, v :: r => (i, v) :: argEnv (i + 1) r

theorem look_argEnv : ∀ (l : List Value) (i n : Nat) (v : Value), look (argEnv i l) n = some v → i ≤ n ∧ l[n - i]? = some v
  | [], _, _, _, h => by simp [argEnv, look] at h
  | u :: r, i, n, v, h => by
    simp only [argEnv] at h
    by_cases e : i = n
    · subst e
      rw [look_cons_self] at h
      cases h
      simp
    · rw [look_cons_ne e] at h
      obtain ⟨h1, h2⟩ := look_argEnv r (i + 1) n v h
      refine ⟨by omega, ?_⟩
      have : n - i = (n - (i + 1)) + 1 := by omega
      rw [this]
      simpa using h2

theorem Calls.of_SC {f : FuncId} {fn : Func} {c : Code} {args : List Value} {w : World} {R : Ending → World → Prop} (hf : P.funcs[f]? = some fn) (hb : fn.body = some c) (hn : args.length ≤ fn.ntmps) (hM : Mm w F m w)
    (h : SC P c (bodyPost P fn R) fn.ntmps (argEnv 0 args) w F m) : Calls P f args.toArray w R := by
  refine calls_of_wp hf hb (h.out _ w ⟨rfl, by simp; omega, fun n v hv => ?_⟩ hM)
  obtain ⟨_, h2⟩ := look_argEnv args 0 n v hv
  have hlt : n < args.length := by
    have := List.getElem?_eq_some_iff.1 h2
    simpa using this.1
  rw [Array.getElem?_append_left (by simpa using hlt)]
  simpa using h2

theorem SE.ret1 {fn : Func} {R : Ending → World → Prop} {N t : Nat} {v : Value} (hr : fn.results = #[.tmp t]) (hv : look env t = some v) (h : ∀ w, Mm w0 F m w → R (.returned v) w) : SE (bodyPost P fn R .ret) N env w0 F m :=
  ⟨fun a w hF hM => by
    have hs := hF.slot t v hv
    exact ⟨hF.defers, v, by simp [results, hr, hs], h w hM⟩⟩

theorem SE.ret0 {fn : Func} {R : Ending → World → Prop} {N : Nat} (hr : fn.results = #[]) (h : ∀ w, Mm w0 F m w → R (.returned (.tuple #[])) w) : SE (bodyPost P fn R .ret) N env w0 F m :=
  ⟨fun a w hF hM => ⟨hF.defers, .tuple #[], by simp [results, hr], h w hM⟩⟩

theorem SE.end0 {fn : Func} {R : Ending → World → Prop} {N : Nat} (hr : fn.results = #[]) (h : ∀ w, Mm w0 F m w → R (.returned (.tuple #[])) w) : SE (bodyPost P fn R .normal) N env w0 F m :=
  ⟨fun a w hF hM => ⟨hF.defers, .tuple #[], by simp [results, hr], h w hM⟩⟩

theorem SE.ret2 {fn : Func} {R : Ending → World → Prop} {N t t' : Nat} {v v' : Value} (hr : fn.results = #[.tmp t, .tmp t']) (hv : look env t = some v) (hv' : look env t' = some v') (h : ∀ w, Mm w0 F m w → R (.returned (.tuple #[v, v'])) w) : SE (bodyPost P fn R .ret) N env w0 F m :=
  ⟨fun a w hF hM => by
    have hs := hF.slot t v hv
    have hs' := hF.slot t' v' hv'
    exact ⟨hF.defers, _, by simp [results, hr, hs, hs'], h w hM⟩⟩
end
end Go.Proofs.Ybulkdrci.A.Sym
