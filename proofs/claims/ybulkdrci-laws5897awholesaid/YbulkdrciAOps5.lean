import Derived.Test.YbulkdrciAOps4
import Derived.Deep.AppendSrc
import Derived.MapKept
namespace Go.Proofs.Ybulkdrci.A.Sym
open Go Go.RowKit
set_option linter.unusedVariables false
set_option linter.unusedSimpArgs false

/-! ### Maps with strings for keys: a list of keys and values, in the order in which the keys came in -/
abbrev Ent := ByteArray × Value
def mentsFrom : Nat → List Ent → List MapEntry
  | _, [] => []
  | k, (a, v) :: r => ⟨.string a, v, k⟩ :: mentsFrom (k + 1) r
def mobj (l : List Ent) : Obj := .map (mentsFrom 0 l).toArray l.length
def mget : List Ent → ByteArray → Option Value
  | [], _ => none
  | (a, v) :: r, s => if s = a then some v else mget r s
def mset : List Ent → ByteArray → Value → List Ent
  | [], s, v => [(s, v)]
  | (a, u) :: r, s, v => if s = a then (a, v) :: r else (a, u) :: mset r s v
def mpos : List Ent → ByteArray → Nat
  | [], _ => 0
  | (a, _) :: r, s => if s = a then 0 else mpos r s + 1

theorem mentsFrom_length (l : List Ent) (k : Nat) : (mentsFrom k l).length = l.length := by
  induction l generalizing k with
  | nil => rfl
  | cons p r ih => simp [mentsFrom, ih]
theorem beqB (a b : ByteArray) : (a == b) = decide (a = b) := by rw [← bytes_beq, beq_toListBytes]
theorem findNow_string (l : List Ent) (s : ByteArray) (k i : Nat) : Instr.findNow .string (.string s) (mentsFrom k l) i = some ((mget l s).map fun v => (i + mpos l s, v)) := by
  induction l generalizing k i with
  | nil => rfl
  | cons p r ih =>
    obtain ⟨a, v⟩ := p
    by_cases h : s = a
    · subst h
      have hbb : (s == s) = true := by rw [beqB]; simp
      simp [mentsFrom, Instr.findNow, Instr.sameNow, mget, mpos, hbb]
    · simp only [mentsFrom, Instr.findNow, Instr.sameNow, mget, mpos, if_neg h, beqB, decide_eq_false h, ih]
      cases mget r s <;> simp; omega
theorem mset_new (l : List Ent) (s : ByteArray) (v : Value) (h : mget l s = none) : mset l s v = l ++ [(s, v)] := by
  induction l with
  | nil => rfl
  | cons p r ih =>
    obtain ⟨a, u⟩ := p
    unfold mget at h
    split at h
    · cases h
    · rename_i hne
      unfold mset
      rw [if_neg hne, ih h]
      rfl
theorem ments_push (l : List Ent) (s : ByteArray) (v : Value) (k : Nat) : mentsFrom k (l ++ [(s, v)]) = mentsFrom k l ++ [⟨.string s, v, k + l.length⟩] := by
  induction l generalizing k with
  | nil => simp [mentsFrom]
  | cons p r ih =>
    obtain ⟨a, u⟩ := p
    simp only [List.cons_append, mentsFrom, ih, List.length_cons, List.cons.injEq, true_and]
    congr 3
    omega
theorem mset_old (l : List Ent) (s : ByteArray) (v u : Value) (k : Nat) (h : mget l s = some u) : (mentsFrom k l).modify (mpos l s) (fun e => { e with key := .string s, val := v }) = mentsFrom k (mset l s v) ∧ (mset l s v).length = l.length ∧ ((mentsFrom k l)[mpos l s]?).map (·.key) = some (.string s) := by
  induction l generalizing k with
  | nil => cases h
  | cons p r ih =>
    obtain ⟨a, u'⟩ := p
    unfold mget at h
    unfold mset mpos mentsFrom
    split at h
    · rename_i he
      subst he
      simp [mentsFrom, List.modify]
    · rename_i hne
      obtain ⟨h1, h2, h3⟩ := ih (k + 1) h
      rw [if_neg hne, if_neg hne]
      refine ⟨?_, by simp [h2], by simpa using h3⟩
      simp only [mentsFrom, List.modify_succ_cons, h1]

section
variable {P : Program} {w0 : World} {F : List Nat} {env : Env} {m : List Blk} {d : Option Nat} {ty : TypeId} {pos : String} {af : Array Edge} {g : Option (Nat × Bool)}
variable {x y z : Operand} {k : IntKind} {T T' : TypeId}

theorem OE.makeMap : OE P env w0 F m ⟨d, .makeMap T none, ty, pos, af, g⟩ (fun nb : Nat => .map (some nb)) (fun nb => m ++ [(nb, mobj [])]) :=
  ⟨fun A w hE hM => ⟨w.heap.size, _, by simp [execOp, Instr.makeMap, newObj]; rfl, hM.alloc _⟩⟩

theorem OV.lookupS {K E : TypeId} {i : TypeInfo} {zv : Value} {b : Nat} {l : List Ent} {s : ByteArray} (j : Nat) (hT : P.underlying T = some (.map K E)) (hK : P.underlying K = some .string) (hi : P.info? E = some i) (hz : i.zero = some zv) (hx : ev env x = some (.map (some b))) (hy : ev env y = some (.string s)) (hm : m[j]? = some (b, mobj l)) :
    OV P env w0 F m ⟨d, .lookup T x y false, ty, pos, af, g⟩ ((mget l s).getD zv) := ⟨fun A w hE hM => by
  have hb := (hM.own _ (List.mem_of_getElem? hm)).1
  unfold mobj at hb
  have hf := findNow_string l s 0 0
  have hkey : MapKept.IsKey .string (.string s) := trivial
  simp only [execOp, hE x _ hx, hE y _ hy]
  cases hg : mget l s with
  | none =>
    rw [hg] at hf
    simp only [Option.map_none] at hf
    simp [Instr.lookup, run_underlying hT, MapKept.run_getObj_map hb, MapKept.run_checkKey hK hkey, MapKept.run_findKey hK hf, zeroValue, typeInfo, hi, hz]
  | some v =>
    rw [hg] at hf
    simp only [Option.map_some] at hf
    simp [Instr.lookup, run_underlying hT, MapKept.run_getObj_map hb, MapKept.run_checkKey hK hkey, MapKept.run_findKey hK hf]⟩

theorem OV.lenMap {K E : TypeId} {b : Nat} {l : List Ent} (j : Nat) (hT : P.underlying T = some (.map K E)) (hx : ev env x = some (.map (some b))) (hm : m[j]? = some (b, mobj l)) :
    OV P env w0 F m ⟨d, .call ⟨.builtin .len, #[x], #[T]⟩, ty, pos, af, g⟩ (.int .i64 l.length) := ⟨fun A w hE hM => by
  have hb := (hM.own _ (List.mem_of_getElem? hm)).1
  unfold mobj at hb
  simp [execOp, hE x _ hx, resolve, invoke, builtin, Builtin.len_, run_underlying hT, MapKept.run_getObj_map hb, goInt, mentsFrom_length]⟩

theorem OS.mapUpdate {K E : TypeId} {b : Nat} {l : List Ent} {s : ByteArray} {v : Value} {m' : List Blk} (j : Nat) (hT : P.underlying T = some (.map K E)) (hK : P.underlying K = some .string) (hx : ev env x = some (.map (some b))) (hy : ev env y = some (.string s)) (hz : ev env z = some v) (hm : m[j]? = some (b, mobj l)) (hm' : m.set j (b, mobj (mset l s v)) = m') :
    OS P env w0 F m ⟨d, .mapUpdate T x y z, ty, pos, af, g⟩ m' := ⟨fun A w hE hM => by
  subst hm'
  have hb := (hM.own _ (List.mem_of_getElem? hm)).1
  unfold mobj at hb
  have hf := findNow_string l s 0 0
  have hkey : MapKept.IsKey .string (.string s) := trivial
  have hlt : b < w.heap.size := (Array.getElem?_eq_some_iff.1 hb).1
  have hw : ∀ o : Obj, Mm w0 F (m.set j (b, o)) { w with heap := w.heap.setIfInBounds b o } := fun o => hM.write hm rfl rfl rfl (by simp) (by simp [hlt]) (fun q hq => by simp [Array.getElem?_setIfInBounds_ne (Ne.symm hq)])
  refine ⟨_, ?_, hw _⟩
  simp only [execOp, hE x _ hx, hE y _ hy, hE z _ hz]
  cases hg : mget l s with
  | none =>
    rw [hg] at hf
    simp only [Option.map_none] at hf
    have e1 : mobj (mset l s v) = .map ((mentsFrom 0 l).toArray.push ⟨.string s, v, l.length⟩) (l.length + 1) := by
      unfold mobj
      rw [mset_new l s v hg, ments_push]
      simp
    rw [e1]
    simp [Instr.mapUpdate, run_underlying hT, MapKept.run_getObj_map hb, MapKept.run_checkKey hK hkey, MapKept.run_findKey hK hf, MapKept.run_setObj_map _ hb, Result.andThen]
  | some u =>
    rw [hg] at hf
    simp only [Option.map_some, Nat.zero_add] at hf
    obtain ⟨h1, h2, h3⟩ := mset_old l s v u 0 hg
    have e1 : mobj (mset l s v) = .map ((mentsFrom 0 l).toArray.modify (mpos l s) (fun e => { e with key := .string s, val := v })) l.length := by
      unfold mobj
      rw [h2, ← h1]
      congr 1
      apply Array.ext'
      simp
    have h3' : ((mentsFrom 0 l).toArray[mpos l s]?).map (·.key) = some (.string s) := by simpa using h3
    rw [e1]
    simp [Instr.mapUpdate, run_underlying hT, MapKept.run_getObj_map hb, MapKept.run_checkKey hK hkey, MapKept.run_findKey hK hf, MapKept.run_setObj_map _ hb, Result.andThen, MapKept.run_keyThatStays hkey]
    rw [h3]
    simp only [Option.getD_some, MapKept.run_keyThatStays hkey]
    rw [MapKept.run_setObj_map _ hb]⟩

/-! ### Slices of several cells an element that grow -/
/-- 'append(s, y)' where s is there: the row stays, or is a new one; what it held it holds. The list is put in another order: the slice's block ahead. -/
theorem OE.appG {e : TypeId} {i : TypeInfo} {zv : Value} {b n c c2 sz : Nat} {A2 : Addr} {cs sp ys : List Value} {rest : List Blk} (hT : P.underlying T = some (.slice e)) (hi : P.info? e = some i) (hz : i.zero = some zv) (hs : i.size = sz) (hzs : zv.cells.size = sz) (hx : ev env x = some (.slice (some ⟨b, 0, none⟩) n c)) (hy : ev env y = some (.slice (some A2) 1 c2)) (hm : m.Perm ((b, row e (cs ++ sp)) :: rest)) (hm2 : Src w0 F m A2 ys) (hl : ys.length = sz) (ho : ∀ u ∈ ys, u.oneCell' = true) (hcs : cs.length = n * sz) (hsp : cs.length + sp.length = c * sz) (hcm : c ≤ maxLen) (h63 : n + 1 ≤ maxLen) (hby : (n + 1) * i.bytes ≤ 140737488355328) :
    OE P env w0 F m ⟨d, .call ⟨.builtin .append, #[x, y], #[T, T]⟩, ty, pos, af, g⟩ (fun s : { s : Nat × Nat × List Value // s.2.1 ≤ maxLen ∧ n + 1 ≤ s.2.1 ∧ (cs ++ ys).length + s.2.2.length = s.2.1 * sz } => .slice (some ⟨s.1.1, 0, none⟩) (n + 1) s.1.2.1) (fun s => (s.1.1, row e (cs ++ ys ++ s.1.2.2)) :: rest) := by
  subst hs
  refine ⟨fun A w hE hM => ?_⟩
  have hM1 := hM.perm hm
  have hb : w.heap[b]? = some (row e (cs ++ sp)) := (hM1.own _ List.mem_cons_self).1
  have hm0 : ((b, row e (cs ++ sp)) :: rest)[0]? = some (b, row e (cs ++ sp)) := rfl
  by_cases hroom : n + 1 ≤ c
  · have hle : n * i.size + ys.length ≤ (cs ++ sp).length := by
      have : (n + 1) * i.size ≤ c * i.size := Nat.mul_le_mul_right _ hroom
      rw [Nat.add_mul, Nat.one_mul] at this
      simp only [List.length_append]; omega
    have hr := run_append_room (P := P) w T ty e i hT hi b n c (cs ++ sp).toArray hb A2 1 c2 ys (by omega) (hm2 w hM) ho hroom (by simp only [List.size_toArray]; exact hle)
    have hM2 := hM1.setRow (cs' := cs ++ ys ++ sp.drop ys.length) hm0
    refine ⟨⟨(b, c, sp.drop ys.length), hcm, hroom, by simp only [List.length_append, List.length_drop] at hle ⊢; omega⟩, _, ?_, hM2⟩
    have e1 : (cs ++ sp).take (n * i.size) = cs := by rw [← hcs, List.take_left']; rfl
    have e2 : (cs ++ sp).drop (n * i.size + ys.length) = sp.drop ys.length := by rw [← hcs, List.drop_append]; simp
    simp only [e1, e2] at hr
    simp only [execOp, resolve, invoke, builtin, Sem.run_bind, Sem.run_pure, Result.andThen_ok, List.map_toArray, List.map_cons, List.map_nil, hE x _ hx, hE y _ hy, hr]
  · have hr := run_append_grow (P := P) w T ty e i zv hT hi hz ⟨b, 0, none⟩ n c cs hcs (fun q u hq => by
        simp only [row] at hb; rw [add_none]
        have : (cs ++ sp)[q]? = some u := by rw [List.getElem?_append_left (List.getElem?_eq_some_iff.1 hq).1]; exact hq
        have hb' : w.heap[b]? = some (.cells (cs ++ sp).toArray e (0, 0)) := hb
        simp only [World.cell?, hb', List.getElem?_toArray, Nat.zero_add]
        exact this) A2 1 c2 ys (by omega) (hm2 w hM) (by omega) (by simp only [maxLen] at h63; omega) (growslice_fits (by omega) hby)
    have hge := grownCap_ge w (n + 1) c e
    have hcm' := grownCap_le_maxLen w (n + 1) c e h63
    have hM2 := (hM1.of_heap (w' := w.drew) rfl rfl rfl rfl)
    refine ⟨⟨(w.heap.size, grownCap w (n + 1) c e, (Builtin.zeroCells zv.cells (grownCap w (n + 1) c e - (n + 1))).toList), hcm', hge, ?_⟩, w.drew.alloc (.cells (cs.toArray ++ ys.toArray ++ Builtin.zeroCells zv.cells (grownCap w (n + 1) c e - (n + 1))) e), ?_, ?_⟩
    · simp only [Builtin.zeroCells, hzs, Array.length_toList, Array.size_map, Array.size_range, List.length_append, hcs, hl]
      have : grownCap w (n + 1) c e * i.size = (n + 1) * i.size + (grownCap w (n + 1) c e - (n + 1)) * i.size := by rw [← Nat.add_mul]; congr 1; omega
      rw [this, Nat.add_mul, Nat.one_mul]
    · simp only [execOp, resolve, invoke, builtin, Sem.run_bind, Sem.run_pure, Result.andThen_ok, List.map_toArray, List.map_cons, List.map_nil, hE x _ hx, hE y _ hy, hr]
    · have hrow : (Obj.cells (cs.toArray ++ ys.toArray ++ Builtin.zeroCells zv.cells (grownCap w (n + 1) c e - (n + 1))) e) = row e (cs ++ ys ++ (Builtin.zeroCells zv.cells (grownCap w (n + 1) c e - (n + 1))).toList) := by
        unfold row; congr 1; apply Array.ext'; simp
      rw [hrow]
      exact hM2.replace hm0 _

/-- 'append(nil, y)'. -/
theorem OE.appN {e : TypeId} {i : TypeInfo} {zv : Value} {c2 sz : Nat} {A2 : Addr} {ys : List Value} (hT : P.underlying T = some (.slice e)) (hi : P.info? e = some i) (hz : i.zero = some zv) (hs : i.size = sz) (hzs : zv.cells.size = sz) (hx : ev env x = some (.slice none 0 0)) (hy : ev env y = some (.slice (some A2) 1 c2)) (hm2 : Src w0 F m A2 ys) (hl : ys.length = sz) (ho : ∀ u ∈ ys, u.oneCell' = true) (hby : i.bytes ≤ 140737488355328) :
    OE P env w0 F m ⟨d, .call ⟨.builtin .append, #[x, y], #[T, T]⟩, ty, pos, af, g⟩ (fun s : { s : Nat × Nat × List Value // s.2.1 ≤ maxLen ∧ 1 ≤ s.2.1 ∧ ys.length + s.2.2.length = s.2.1 * sz } => .slice (some ⟨s.1.1, 0, none⟩) 1 s.1.2.1) (fun s => (s.1.1, row e (ys ++ s.1.2.2)) :: m) := by
  subst hs
  refine ⟨fun A w hE hM => ?_⟩
  have hr := Go.run_append_grow_src (P := P) w T T ty e i zv hT hi hz none 0 0 [] (run_firstCells_none w.drew i.size 0 0 0) (.slice (some A2) 1 c2) 1 ys (Go.Src.ofSlice w hT A2 1 c2 ys (by omega) (hm2 w hM) ho) (by omega) (by omega) (growslice_fits (by omega) (by omega))
  have hge := grownCap_ge w (0 + 1) 0 e
  have hcm' := grownCap_le_maxLen w (0 + 1) 0 e (by unfold maxLen; omega)
  have hM2 := (hM.of_heap (w' := w.drew) rfl rfl rfl rfl)
  refine ⟨⟨(w.heap.size, grownCap w (0 + 1) 0 e, (Builtin.zeroCells zv.cells (grownCap w (0 + 1) 0 e - (0 + 1))).toList), hcm', hge, ?_⟩, w.drew.alloc (.cells (([] ++ ys).toArray ++ Builtin.zeroCells zv.cells (grownCap w (0 + 1) 0 e - (0 + 1))) e), ?_, ?_⟩
  · simp only [Builtin.zeroCells, hzs, Array.length_toList, Array.size_map, Array.size_range, hl]
    have : grownCap w (0 + 1) 0 e * i.size = 1 * i.size + (grownCap w (0 + 1) 0 e - (0 + 1)) * i.size := by rw [← Nat.add_mul]; congr 1; omega
    rw [this, Nat.one_mul]
  · simp only [execOp, resolve, invoke, builtin, Sem.run_bind, Sem.run_pure, Result.andThen_ok, List.map_toArray, List.map_cons, List.map_nil, hE x _ hx, hE y _ hy, hr]
  · have hrow : (Obj.cells (([] ++ ys).toArray ++ Builtin.zeroCells zv.cells (grownCap w (0 + 1) 0 e - (0 + 1))) e) = row e (ys ++ (Builtin.zeroCells zv.cells (grownCap w (0 + 1) 0 e - (0 + 1))).toList) := by
      unfold row; congr 1; apply Array.ext'; simp
    rw [hrow]
    exact (hM2.alloc _).perm (List.perm_append_singleton _ _)
end

section
variable {P : Program} {Q : Exit → Act → World → Prop} {N : Nat} {w0 : World} {F : List Nat} {env : Env} {m : List Blk} {ops : Array Oper} {rest : List Oper}
theorem SL.perm {m' : List Blk} (hp : m.Perm m') (h : SL P ops Q rest N env w0 F m') : SL P ops Q rest N env w0 F m := ⟨fun a w hF hm => h.out a w hF (hm.perm hp)⟩
theorem SC.perm {c : Code} {m' : List Blk} (hp : m.Perm m') (h : SC P c Q N env w0 F m') : SC P c Q N env w0 F m := ⟨fun a w hF hm => h.out a w hF (hm.perm hp)⟩
theorem SL.weaken {env' : Env} {m' : List Blk} (hE : ESub env' env) (hM : m'.Sublist m) (h : SL P ops Q rest N env' w0 F m') : SL P ops Q rest N env w0 F m := ⟨fun a w hF hm => h.out a w (hF.weaken hE) (hm.weaken hM)⟩
end
section
variable {P : Program} {w0 : World} {F : List Nat} {env : Env} {m : List Blk} {ty : TypeId} {pos : String} {af : Array Edge}
variable {Q : Exit → Act → World → Prop} {N : Nat} {ops : Array Oper} {rest : List Oper} {d f : Nat} {args : Array Operand} {ts : Array TypeId} {vs : Array Value}
/-- A guarded call that leaves the memory as it was, its answer one of several. -/
theorem SL.callXg {σ : Type} {V : σ → Value} {G : σ → Prop} {j g : Nat} {b : Bool} (hg : (ops[j]?).bind (·.dst) = some g) (hb : look env g = some (.bool b)) (hf : plainFunc P f = true) (hargs : ∀ (ρ : Operand → Value), (∀ x u, ev env x = some u → ρ x = u) → args.map ρ = vs)
    (hc : ∀ w, Mm w0 F m w → Calls P f vs w fun e w' => ∃ s, e = .returned (V s) ∧ G s ∧ Mm w [] [] w') (hd : Nat.blt d N = true)
    (h : ∀ s, G s → SL P ops Q rest N ((d, V s) :: env) w0 F m) : SL P ops Q (⟨some d, .call ⟨.value (.func f), args, ts⟩, ty, pos, af, some (j, b)⟩ :: rest) N env w0 F m :=
  ⟨fun a w hF hM => wpList_step fun K hK => by
    rw [if_pos (by simp [Region.wanted, yielded_of hF hg hb])]
    unfold Oper.wp
    rw [run_call hf (hargs a.eval (fun x u hx => hF.eval hx))]
    refine (hc w hM).mono fun e w' ⟨s, he, hG, hM'⟩ => ?_
    subst he
    exact hK _ _ ((h s hG).out _ w' (hF.put hd _) (by have := hM.callee0 hM'; rwa [List.append_nil] at this))⟩
/-- A call that leaves the memory as it was, in a region that draws. -/
theorem SQ.callQ {v : Value} (hf : plainFunc P f = true) (hargs : ∀ (ρ : Operand → Value), (∀ x u, ev env x = some u → ρ x = u) → args.map ρ = vs)
    (hc : ∀ w, Mm w0 F m w → Calls P f vs w fun e w' => e = .returned v ∧ Mm w [] [] w') (hd : Nat.blt d N = true)
    (h : SQ P ops Q rest N ((d, v) :: env) w0 F m) : SQ P ops Q (⟨some d, .call ⟨.value (.func f), args, ts⟩, ty, pos, af, none⟩ :: rest) N env w0 F m :=
  ⟨fun a hF => wpQuiet_step fun K hK => by
    refine (if_pos rfl).mpr ⟨v, fun w hM => ?_, hK _ (h.out _ (hF.put hd v))⟩
    unfold Oper.quietAt
    rw [run_call hf (hargs a.eval (fun x u hx => hF.eval hx))]
    refine ⟨rfl, (hc w hM).mono fun e w' ⟨he, hM'⟩ => ⟨he, ?_⟩⟩
    have := hM.callee0 hM'
    rwa [List.append_nil] at this⟩
/-- A call that makes new blocks, in a region that draws. -/
theorem SO.call {σ : Type} {V : σ → Value} {M : σ → List Blk} {G : σ → Prop} {k1 fuel i : Nat} {m1 m2 : List Blk} {listed : Array Bool} (hi : ops[i]? = some ⟨some d, .call ⟨.value (.func f), args, ts⟩, ty, pos, af, none⟩) (hf : plainFunc P f = true) (hargs : ∀ (ρ : Operand → Value), (∀ x u, ev env x = some u → ρ x = u) → args.map ρ = vs)
    (hc : ∀ w, Mm w0 F m w → Calls P f vs w fun e w' => ∃ s, e = .returned (V s) ∧ G s ∧ Mm w0 F (M s) w') (hd : Nat.blt d N = true) (hmS : ∀ s, (bif (listed.setIfInBounds i true).getD k1 true then m2 else m1).Sublist (M s))
    (h : ∀ s, G s → SA P ops Q k1 m1 m2 fuel (listed.setIfInBounds i true) N ((d, V s) :: env) w0 F (M s)) : SO P ops Q k1 m1 m2 i fuel listed N env w0 F m :=
  ⟨fun a w hF hM => by
    have hr := run_call (P := P) (w := w) (d := d) (ty := ty) (pos := pos) (af := af) (g := none) (ts := ts) hf (hargs a.eval (fun x u hx => hF.eval hx))
    unfold wpOp
    simp only [hi, Region.wanted, if_true, Oper.wp, hr, Oper.upon]
    refine .inl ((hc w hM).mono fun e w' ⟨s, he, hG, hM'⟩ => ?_)
    subst he
    exact ⟨hM'.weaken (hmS s), (h s hG).out _ w' (hF.put hd _) hM'⟩⟩
end
end Go.Proofs.Ybulkdrci.A.Sym
