import Derived.Test.YbulkdrciAOps3
import Derived.KernelRfl
import Derived.Laws.ResultCell
namespace Go.Proofs.Ybulkdrci.A.Sym
open Go Go.RowKit
set_option linter.unusedVariables false
set_option linter.unusedSimpArgs false
section
variable {P : Program} {w0 : World} {F : List Nat} {env : Env} {m : List Blk} {d : Option Nat} {ty : TypeId} {pos : String} {af : Array Edge} {g : Option (Nat × Bool)}
variable {x y z : Operand} {k : IntKind} {T T' : TypeId}

theorem bytes_loop (b : ByteArray) : ∀ (n i : Nat) (r : List UInt8), i + n = b.size → ByteArray.toList.loop b i r = r.reverse ++ b.data.toList.drop i := by
  intro n
  induction n with
  | zero =>
    intro i r h
    unfold ByteArray.toList.loop
    have : ¬ i < b.size := by omega
    rw [if_neg this, List.drop_eq_nil_of_le (by simp only [Array.length_toList]; show b.size ≤ i; omega)]
    simp
  | succ n ih =>
    intro i r h
    unfold ByteArray.toList.loop
    have hi : i < b.size := by omega
    rw [if_pos hi, ih (i + 1) _ (by omega)]
    have hi' : i < b.data.toList.length := by simp only [Array.length_toList]; exact hi
    rw [List.drop_eq_getElem_cons hi']
    have e : b.get! i = b.data.toList[i] := by
      have hd : i < b.data.size := hi
      show b.data[i]! = _
      rw [getElem!_pos b.data i hd]
      simp
    simp [e]
theorem bytes_toList (b : ByteArray) : b.toList = b.data.toList := by
  unfold ByteArray.toList
  rw [bytes_loop b b.size 0 [] (by omega)]
  simp
theorem bytes_beq (a b : ByteArray) : (a.toList == b.toList) = decide (a = b) := by
  rw [bytes_toList, bytes_toList]
  by_cases h : a = b
  · subst h; simp
  · rw [decide_eq_false h]
    have : a.data.toList ≠ b.data.toList := fun e => h (by
      cases a; cases b
      simp only at e
      congr 1
      exact Array.ext' e)
    simpa using this

theorem OV.eqlS {a b : ByteArray} (hx : ev env x = some (.string a)) (hy : ev env y = some (.string b)) : OV P env w0 F m ⟨d, .binOp .eql T x y T', ty, pos, af, g⟩ (.bool (decide (a = b))) :=
  ⟨fun A w hE hM => by simp [execOp, hE x _ hx, hE y _ hy, eqGuard, binOp, Op.stringOp, bytes_beq]⟩
theorem OV.neqS {a b : ByteArray} (hx : ev env x = some (.string a)) (hy : ev env y = some (.string b)) : OV P env w0 F m ⟨d, .binOp .neq T x y T', ty, pos, af, g⟩ (.bool (decide (a ≠ b))) :=
  ⟨fun A w hE hM => by simp [execOp, hE x _ hx, hE y _ hy, eqGuard, binOp, Op.stringOp, bytes_beq]⟩
theorem eqIn_bool {dd : Nat} (w : World) {T : TypeId} (h : P.underlying T = some .bool) (a b : Bool) : (Op.equalIn (dd + 1) T (.bool a) (.bool b)).run P w = .ok (a == b) w := by
  simp [Op.equalIn, run_underlying h]
theorem OV.eqlB {a b : Bool} (hT : P.underlying T = some .bool) (hx : ev env x = some (.bool a)) (hy : ev env y = some (.bool b)) : OV P env w0 F m ⟨d, .binOp .eql T x y T', ty, pos, af, g⟩ (.bool (a == b)) :=
  ⟨fun A w hE hM => by
    have hr : (Op.equal T (.bool a) (.bool b)).run P w = .ok (a == b) w := eqIn_bool (dd := 9999) w hT a b
    simp [execOp, hE x _ hx, hE y _ hy, eqGuard, binOp, hr]⟩
theorem OV.neqB {a b : Bool} (hT : P.underlying T = some .bool) (hx : ev env x = some (.bool a)) (hy : ev env y = some (.bool b)) : OV P env w0 F m ⟨d, .binOp .neq T x y T', ty, pos, af, g⟩ (.bool (!(a == b))) :=
  ⟨fun A w hE hM => by
    have hr : (Op.equal T (.bool a) (.bool b)).run P w = .ok (a == b) w := eqIn_bool (dd := 9999) w hT a b
    simp [execOp, hE x _ hx, hE y _ hy, eqGuard, binOp, hr]⟩

/-- An element of an array behind a pointer. -/
theorem OV.idxArr {e : TypeId} {i : TypeInfo} {b off n s : Nat} {I : Int} (j : Nat) (hT : P.underlying T = some (.array n e)) (hi : P.info? e = some i) (hs : i.size = s) (hx : ev env x = some (.pointer (some ⟨b, off, none⟩))) (hy : ev env y = some (.int k I)) (hI : I = (j : Int)) (hj : j < n) :
    OV P env w0 F m ⟨d, .indexAddr T x y, ty, pos, af, g⟩ (.pointer (some ⟨b, off + j * s, none⟩)) := by
  subst hI
  subst hs
  exact ⟨fun A w hE hM => by simp [execOp, hE x _ hx, hE y _ hy, Instr.indexAt, Instr.sureAddr, asIntOf, run_underlying hT, hj, sizeOf, typeInfo, hi, add_none]⟩
theorem OV.extract {vs : Array Value} {v : Value} {i : Nat} (hx : ev env x = some (.tuple vs)) (hv : vs[i]? = some v) : OV P env w0 F m ⟨d, .extract x i, ty, pos, af, g⟩ v :=
  ⟨fun A w hE hM => by simp [execOp, hE x _ hx, Instr.extract, hv]⟩

theorem OV.yes {o : Oper} {p : Prop} [Decidable p] (h : OV P env w0 F m o (.bool (decide p))) (hp : p) : OV P env w0 F m o (.bool true) := by rwa [decide_eq_true hp] at h
theorem OV.no {o : Oper} {p : Prop} [Decidable p] (h : OV P env w0 F m o (.bool (decide p))) (hp : ¬ p) : OV P env w0 F m o (.bool false) := by rwa [decide_eq_false hp] at h
theorem OV.is {o : Oper} {v v' : Value} (h : OV P env w0 F m o v) (e : v = v') : OV P env w0 F m o v' := e ▸ h
theorem OV.idxArr1 {e : TypeId} {b n : Nat} {I : Int} (j : Nat) (hT : P.underlying T = some (.array n e)) (hs : size1 P e = true) (hx : ev env x = some (.pointer (some ⟨b, 0, none⟩))) (hy : ev env y = some (.int k I)) (hI : I = (j : Int)) (hj : j < n) :
    OV P env w0 F m ⟨d, .indexAddr T x y, ty, pos, af, g⟩ (.pointer (some ⟨b, j, none⟩)) := by
  unfold size1 at hs
  cases hi : P.info? e with
  | none => simp [hi] at hs
  | some i =>
    simp [hi] at hs
    have := OV.idxArr (P := P) (w0 := w0) (F := F) (m := m) (d := d) (ty := ty) (pos := pos) (af := af) (g := g) j hT hi hs hx hy hI hj
    simpa using this
theorem OS.storeAll {i : TypeInfo} {e : TypeId} {cs : List Value} {b : Nat} {v : Value} (j : Nat) (hi : P.info? T = some i) (hx : ev env x = some (.pointer (some ⟨b, 0, none⟩))) (hy : ev env y = some v) (hm : m[j]? = some (b, row e cs)) (hs : v.cells.size = i.size) (h1 : ∀ u ∈ v.cells.toList, u.oneCell' = true) (hl : cs.length = i.size) :
    OS P env w0 F m ⟨d, .store T x y, ty, pos, af, g⟩ (m.set j (b, row e v.cells.toList)) := by
  have := OS.store (P := P) (w0 := w0) (F := F) (d := d) (ty := ty) (pos := pos) (af := af) (g := g) j hi hx hy hm hs h1 (by omega)
  have e1 : cs.drop (0 + v.cells.size) = [] := List.drop_eq_nil_of_le (by omega)
  rw [e1] at this
  simpa using this

/-- A slice literal. -/
theorem OE.bsliceN {e : TypeId} {i : TypeInfo} {n s : Nat} {zv : Value} {parts : Array (Nat × Operand)} {vs : List (Nat × Value)} {cs : Array Value} (hT : P.underlying T = some (.slice e)) (hi : P.info? e = some i) (hz : i.zero = some zv) (hs : i.size = s) (hn : n * s ≤ 2 ^ 24) (hn0 : n * s ≠ 0)
    (hp : ∀ (ρ : Operand → Value), (∀ x u, ev env x = some u → ρ x = u) → parts.map (fun p => (p.1, ρ p.2)) = vs.toArray)
    (hc : Instr.fill (fun i => some (i * s, s)) ((Array.range (n * s)).map (zv.cells[· % zv.cells.size]!)) vs = some cs) :
    OE P env w0 F m ⟨d, .buildSlice T n parts, ty, pos, af, g⟩ (fun nb : Nat => .slice (some ⟨nb, 0, none⟩) n n) (fun nb => m ++ [(nb, row e cs.toList)]) :=
  ⟨fun A w hE hM => ⟨w.heap.size, _, by
    have := hp A.eval hE
    subst hs
    simp only [execOp]
    rw [show (parts.map fun (i, x) => (i, A.eval x)) = vs.toArray from this]
    simp [Instr.buildSlice, run_underlying hT, sizeOf, typeInfo, hi, zeroValue, hz, newRow, Nat.not_lt.2 hn]
    simp only [hn0, if_false]
    simp [hc, newRow, zeroValue, typeInfo, hi, hz]
    rfl, hM.alloc _⟩⟩
end

section
variable {P : Program} {w0 : World} {F : List Nat} {env : Env} {m : List Blk} {ty : TypeId} {pos : String} {af : Array Edge}
variable {Q : Exit → Act → World → Prop} {N : Nat} {ops : Array Oper} {rest : List Oper} {d f : Nat} {args : Array Operand} {ts : Array TypeId} {vs : Array Value}

theorem unyielded_of {N : Nat} {env : Env} {a : Act} (hF : Fr N env a) {ops : Array Oper} {j g : Nat} (hg : (ops[j]?).bind (·.dst) = some g) (hb : look env g = some undef) : yielded ops a.tmps j = none := by
  unfold yielded
  rw [hg]
  simp [hF.slot g _ hb, undef]
/-- An operation whose guard has itself been passed by. -/
theorem SL.skipU {j g : Nat} {b : Bool} {op : Op} (hg : (ops[j]?).bind (·.dst) = some g) (hb : look env g = some undef) (hd : Nat.blt d N = true)
    (h : SL P ops Q rest N ((d, undef) :: env) w0 F m) : SL P ops Q (⟨some d, op, ty, pos, af, some (j, b)⟩ :: rest) N env w0 F m :=
  ⟨fun a w hF hM => wpList_step fun K hK => by
    rw [if_neg (by simp [Region.wanted, unyielded_of hF hg hb])]
    exact hK _ _ (h.out _ w (hF.put hd undef) hM)⟩
theorem SQ.skipU {j g : Nat} {b : Bool} {op : Op} (hg : (ops[j]?).bind (·.dst) = some g) (hb : look env g = some undef) (hd : Nat.blt d N = true)
    (h : SQ P ops Q rest N ((d, undef) :: env) w0 F m) : SQ P ops Q (⟨some d, op, ty, pos, af, some (j, b)⟩ :: rest) N env w0 F m :=
  ⟨fun a hF => wpQuiet_step fun K hK => by
    rw [if_neg (by simp [Region.wanted, unyielded_of hF hg hb])]
    exact hK _ (h.out _ (hF.put hd undef))⟩

/-- A call that leaves the memory as it was, in a region that draws. -/
theorem SQ.callQg {v : Value} {j g : Nat} {b : Bool} (hg : (ops[j]?).bind (·.dst) = some g) (hb : look env g = some (.bool b)) (hf : plainFunc P f = true) (hargs : ∀ (ρ : Operand → Value), (∀ x u, ev env x = some u → ρ x = u) → args.map ρ = vs)
    (hc : ∀ w, Mm w0 F m w → Calls P f vs w fun e w' => e = .returned v ∧ Mm w [] [] w') (hd : Nat.blt d N = true)
    (h : SQ P ops Q rest N ((d, v) :: env) w0 F m) : SQ P ops Q (⟨some d, .call ⟨.value (.func f), args, ts⟩, ty, pos, af, some (j, b)⟩ :: rest) N env w0 F m :=
  ⟨fun a hF => wpQuiet_step fun K hK => by
    rw [if_pos (by simp [Region.wanted, yielded_of hF hg hb])]
    refine ⟨v, fun w hM => ?_, hK _ (h.out _ (hF.put hd v))⟩
    unfold Oper.quietAt
    rw [run_call hf (hargs a.eval (fun x u hx => hF.eval hx))]
    refine ⟨rfl, (hc w hM).mono fun e w' ⟨he, hM'⟩ => ⟨he, ?_⟩⟩
    have := hM.callee0 hM'
    rwa [List.append_nil] at this⟩
theorem args0 {env : Env} (ρ : Operand → Value) (hρ : ∀ x u, ev env x = some u → ρ x = u) : (#[] : Array Operand).map ρ = #[] := by simp

/-- A struct's cells, in the world. -/
theorem run_loadAgg {i : TypeInfo} {T : TypeId} {w : World} {b o : Nat} {xs : List Value} (hT : scalar P T = false) (hT' : (P.underlying T).isSome = true) (hi : P.info? T = some i) (hl : xs.length = i.size) (hc : ∀ q v, xs[q]? = some v → w.cell? ⟨b, o + q, none⟩ = some v) : (loadVar T ⟨b, o, none⟩).run P w = .ok (.agg xs.toArray) w := by
  have hrun := run_loadCells_list (P := P) w ⟨b, o, none⟩ xs (fun q v hq => by rw [add_none]; exact hc q v hq)
  rw [hl] at hrun
  unfold scalar at hT
  cases hu : P.underlying T with
  | none => simp [hu] at hT'
  | some D =>
    cases D <;> simp [hu] at hT <;> simp [loadVar, isAgg, run_underlying hu, sizeOf, typeInfo, hi, hrun]

/-- A return of a struct that lies in a cell, and of a slot. -/
theorem SE.retCT {fn : Func} {R : Ending → World → Prop} {t t' j b : Nat} {T e : TypeId} {i : TypeInfo} {v : Value} {xs cs : List Value} (hr : fn.results = #[.cell t T, .tmp t']) (hv : look env t = some (.pointer (some ⟨b, 0, none⟩))) (hv' : look env t' = some v) (hT : scalar P T = false) (hT' : (P.underlying T).isSome = true) (hi : P.info? T = some i) (hl : xs.length = i.size) (hm : m[j]? = some (b, row e cs)) (hc : ∀ (q : Nat) v, xs[q]? = some v → cs[q]? = some v)
    (h : ∀ w, Mm w0 F m w → R (.returned (.tuple #[.agg xs.toArray, v])) w) : SE (bodyPost P fn R .ret) N env w0 F m :=
  ⟨fun a w hF hM => by
    have hs := hF.slot t _ hv
    have hs' := hF.slot t' v hv'
    refine ⟨hF.defers, _, ?_, h w hM⟩
    rw [results_cell_tmp hr]
    have hrun := run_loadAgg (P := P) (w := w) (b := b) (o := 0) hT hT' hi hl (fun q v hq => by rw [Nat.zero_add]; exact hM.cell hm (hc q v hq))
    simp [hs, hs', asAddr, hrun, undef, Sem.run]⟩
theorem SE.retC {fn : Func} {R : Ending → World → Prop} {t j b : Nat} {T e : TypeId} {i : TypeInfo} {xs cs : List Value} (hr : fn.results = #[.cell t T]) (hv : look env t = some (.pointer (some ⟨b, 0, none⟩))) (hT : scalar P T = false) (hT' : (P.underlying T).isSome = true) (hi : P.info? T = some i) (hl : xs.length = i.size) (hm : m[j]? = some (b, row e cs)) (hc : ∀ (q : Nat) v, xs[q]? = some v → cs[q]? = some v)
    (h : ∀ w, Mm w0 F m w → R (.returned (.agg xs.toArray)) w) : SE (bodyPost P fn R .ret) N env w0 F m :=
  ⟨fun a w hF hM => by
    have hs := hF.slot t _ hv
    refine ⟨hF.defers, _, ?_, h w hM⟩
    have hrun := run_loadAgg (P := P) (w := w) (b := b) (o := 0) hT hT' hi hl (fun q v hq => by rw [Nat.zero_add]; exact hM.cell hm (hc q v hq))
    simp [results, hr, hs, asAddr, hrun]⟩
end
end Go.Proofs.Ybulkdrci.A.Sym
