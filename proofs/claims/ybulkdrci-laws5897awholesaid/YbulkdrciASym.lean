import Derived.WalkKit
import Derived.Deep.Quiet
import Derived.Deep.LoopGhost
namespace Go.Proofs.Ybulkdrci.A.Sym
open Go Go.RowKit
set_option linter.unusedVariables false

/-! ### The frame, by what is known of its slots -/
abbrev Env := List (Nat × Value)

def look : Env → Nat → Option Value
  | [], _ => none
  | (i, v) :: r, n => match Nat.beq i n with
    | true => some v
    | false => look r n

def ev (env : Env) : Operand → Option Value
  | .tmp t => look env t
  | .const v => some v
  | .global g => some (.pointer (some ⟨g, 0, none⟩))
  | .func f => some (.func (.func f) #[] #[])

structure Fr (N : Nat) (env : Env) (a : Act) : Prop where
  defers : a.defers = []
  size : a.tmps.size = N
  slot : ∀ n v, look env n = some v → a.tmps[n]? = some v

theorem Fr.eval {N : Nat} {env : Env} {a : Act} (h : Fr N env a) {x : Operand} {v : Value} (hx : ev env x = some v) : a.eval x = v := by
  cases x with
  | tmp t => have := h.slot t v hx; simp [Act.eval, this]
  | const u => simpa [ev, Act.eval] using hx
  | global g => simpa [ev, Act.eval] using hx
  | func f => simpa [ev, Act.eval] using hx

theorem look_cons_self (d : Nat) (v : Value) (env : Env) : look ((d, v) :: env) d = some v := by simp [look]
theorem look_cons_ne {d n : Nat} (h : d ≠ n) (v : Value) (env : Env) : look ((d, v) :: env) n = look env n := by
  have : Nat.beq d n = false := by
    cases hb : Nat.beq d n with
    | true => exact absurd (Nat.eq_of_beq_eq_true hb) h
    | false => rfl
  simp [look, this]

theorem Fr.put {N : Nat} {env : Env} {a : Act} (h : Fr N env a) {d : Nat} (hd : Nat.blt d N = true) (v : Value) : Fr N ((d, v) :: env) (a.put (some d) v) := by
  have hd' : d < a.tmps.size := by rw [h.size]; simpa [Nat.blt_eq] using hd
  refine ⟨h.defers, by simp [Act.put, h.size], fun n u hn => ?_⟩
  by_cases hdn : d = n
  · subst hdn
    rw [look_cons_self] at hn
    cases hn
    simp [Act.put, hd']
  · rw [look_cons_ne hdn] at hn
    simp only [Act.put]
    rw [Array.getElem?_setIfInBounds_ne hdn]
    exact h.slot n u hn

theorem Fr.put_none {N : Nat} {env : Env} {a : Act} (h : Fr N env a) (v : Value) : Fr N env (a.put none v) := h

/-- env' says no more than env does. -/
def ESub : Env → Env → Prop
  | [], _ => True
  | (i, v) :: r, env => look env i = some v ∧ ESub r env

theorem ESub.look {env' env : Env} (h : ESub env' env) : ∀ n v, look env' n = some v → look env n = some v := by
  induction env' with
  | nil => intro n v hn; cases hn
  | cons p r ih =>
    obtain ⟨i, u⟩ := p
    intro n v hn
    by_cases hi : i = n
    · subst hi
      rw [look_cons_self] at hn
      cases hn
      exact h.1
    · rw [look_cons_ne hi] at hn
      exact ih h.2 n v hn

theorem Fr.weaken {N : Nat} {env env' : Env} {a : Act} (h : Fr N env a) (hs : ESub env' env) : Fr N env' a :=
  ⟨h.defers, h.size, fun n v hn => h.slot n v (hs.look n v hn)⟩

/-! ### The memory, by what is known of its blocks: 'm': a list of blocks that the function may write; of what was there in 'w0' nothing has turned but the blocks of 'F' -/
abbrev Blk := Nat × Obj

structure Mm (w0 : World) (F : List Nat) (m : List Blk) (w : World) : Prop where
  os : w.os = w0.os
  tape : w.tape = w0.tape
  output : w.output = w0.output
  size : w0.heap.size ≤ w.heap.size
  old : ∀ k, k < w0.heap.size → k ∉ F → w.heap[k]? = w0.heap[k]?
  own : ∀ p ∈ m, w.heap[p.1]? = some p.2 ∧ (p.1 ∈ F ∨ w0.heap.size ≤ p.1)
  nodup : (m.map (·.1)).Nodup

theorem Mm.below {w0 w : World} {m : List Blk} (h : Mm w0 [] m w) : Below w0.heap.size w0 w :=
  ⟨h.os, h.tape, h.output, h.size, fun k hk => h.old k hk (by simp)⟩

theorem Mm.lt {w0 w : World} {F : List Nat} {m : List Blk} (h : Mm w0 F m w) {p : Blk} (hp : p ∈ m) : p.1 < w.heap.size :=
  (Array.getElem?_eq_some_iff.1 (h.own p hp).1).1

/-- A sublist of the blocks. -/
theorem Mm.weaken {w0 w : World} {F : List Nat} {m m' : List Blk} (h : Mm w0 F m w) (hs : m'.Sublist m) : Mm w0 F m' w :=
  ⟨h.os, h.tape, h.output, h.size, h.old, fun p hp => h.own p (hs.subset hp), (hs.map _).nodup h.nodup⟩

theorem Mm.perm {w0 w : World} {F : List Nat} {m m' : List Blk} (h : Mm w0 F m w) (hp : m.Perm m') : Mm w0 F m' w :=
  ⟨h.os, h.tape, h.output, h.size, h.old, fun p hp' => h.own p (hp.mem_iff.2 hp'), (hp.map _).nodup_iff.1 h.nodup⟩

theorem Mm.of_heap {w0 w w' : World} {F : List Nat} {m : List Blk} (h : Mm w0 F m w) (hh : w'.heap = w.heap) (ho : w'.os = w.os) (ht : w'.tape = w.tape) (hp : w'.output = w.output) : Mm w0 F m w' :=
  ⟨ho.trans h.os, ht.trans h.tape, hp.trans h.output, by rw [hh]; exact h.size, by rw [hh]; exact h.old, by rw [hh]; exact h.own, h.nodup⟩

theorem Mm.drew {w0 w : World} {F : List Nat} {m : List Blk} (h : Mm w0 F m w) : Mm w0 F m { w with drawn := w.drawn + 1 } := h.of_heap rfl rfl rfl rfl

theorem Mm.alloc {w0 w : World} {F : List Nat} {m : List Blk} (h : Mm w0 F m w) (o : Obj) : Mm w0 F (m ++ [(w.heap.size, o)]) { w with heap := w.heap.push o } := by
  refine ⟨h.os, h.tape, h.output, by simp; exact Nat.le_succ_of_le h.size, fun k hk hF => ?_, fun p hp => ?_, ?_⟩
  · have : k < w.heap.size := Nat.lt_of_lt_of_le hk h.size
    simp only [Array.getElem?_push, if_neg (Nat.ne_of_lt this)]
    exact h.old k hk hF
  · rcases List.mem_append.1 hp with hp | hp
    · have hlt := h.lt hp
      simp only [Array.getElem?_push, if_neg (Nat.ne_of_lt hlt)]
      exact h.own p hp
    · simp at hp
      subst hp
      simp [h.size]
  · rw [List.map_append, List.nodup_append]
    refine ⟨h.nodup, by simp, ?_⟩
    intro x hx y hy
    simp at hy
    subst hy
    obtain ⟨p, hp, rfl⟩ := List.mem_map.1 hx
    exact Nat.ne_of_lt (h.lt hp)

theorem nodup_unique {m : List Blk} (hn : (m.map (·.1)).Nodup) {i j : Nat} {p q : Blk} (hi : m[i]? = some p) (hj : m[j]? = some q) (h : p.1 = q.1) : i = j := by
  obtain ⟨hi', rfl⟩ := List.getElem?_eq_some_iff.1 hi
  obtain ⟨hj', rfl⟩ := List.getElem?_eq_some_iff.1 hj
  refine (List.getElem_inj (xs := m.map (·.1)) (h₀ := by simpa using hi') (h₁ := by simpa using hj') hn).1 ?_
  simpa using h

/-- One of the listed blocks is written. -/
theorem Mm.write {w0 w w' : World} {F : List Nat} {m : List Blk} (h : Mm w0 F m w) {j b : Nat} {o o' : Obj} (hj : m[j]? = some (b, o))
    (ho : w'.os = w.os) (ht : w'.tape = w.tape) (hp : w'.output = w.output) (hs : w'.heap.size = w.heap.size) (hb : w'.heap[b]? = some o') (hk : ∀ k, k ≠ b → w'.heap[k]? = w.heap[k]?) :
    Mm w0 F (m.set j (b, o')) w' := by
  have hmem : (b, o) ∈ m := List.mem_of_getElem? hj
  have hjl : j < m.length := (List.getElem?_eq_some_iff.1 hj).1
  have hown := h.own _ hmem
  refine ⟨ho.trans h.os, ht.trans h.tape, hp.trans h.output, by rw [hs]; exact h.size, fun k hk0 hF => ?_, fun p hp => ?_, ?_⟩
  · by_cases hkb : k = b
    · subst hkb
      rcases hown.2 with h1 | h1
      · exact absurd h1 hF
      · exact absurd hk0 (Nat.not_lt.2 h1)
    · rw [hk k hkb]; exact h.old k hk0 hF
  · obtain ⟨i, hi⟩ := List.mem_iff_getElem?.1 hp
    rw [List.getElem?_set] at hi
    by_cases hji : j = i
    · subst hji
      simp [hjl] at hi
      subst hi
      exact ⟨hb, hown.2⟩
    · simp [hji] at hi
      have hpm : p ∈ m := List.mem_of_getElem? hi
      have hne : p.1 ≠ b := fun e => hji (nodup_unique h.nodup hj hi e.symm)
      rw [hk _ hne]
      exact h.own p hpm
  · have : (m.set j (b, o')).map (·.1) = m.map (·.1) := by
      rw [List.map_set]
      refine List.ext_getElem? fun i => ?_
      rw [List.getElem?_set]
      split
      · rename_i e; subst e
        simp [hjl]
        have := List.getElem?_eq_some_iff.1 hj
        obtain ⟨_, h2⟩ := this
        simp [h2]
      · rfl
    rw [this]
    exact h.nodup

/-! ### The three kinds of goals. Structures, so that no rule that does not fit lays them open -/
section
variable (P : Program) (Q : Exit → Act → World → Prop) (N : Nat) (w0 : World) (F : List Nat)

structure SC (c : Code) (Q : Exit → Act → World → Prop) (N : Nat) (env : Env) (w0 : World) (F : List Nat) (m : List Blk) : Prop where
  out : ∀ a w, Fr N env a → Mm w0 F m w → c.wp P Q a w

structure SL (ops : Array Oper) (Q : Exit → Act → World → Prop) (l : List Oper) (N : Nat) (env : Env) (w0 : World) (F : List Nat) (m : List Blk) : Prop where
  out : ∀ a w, Fr N env a → Mm w0 F m w → wpList P ops Q l a w

structure SQ (ops : Array Oper) (Q : Exit → Act → World → Prop) (l : List Oper) (N : Nat) (env : Env) (w0 : World) (F : List Nat) (m : List Blk) : Prop where
  out : ∀ a, Fr N env a → wpQuiet P ops (Mm w0 F m) (fun a' => ∀ w', Mm w0 F m w' → Q .normal a' w') l a

/-- What an operation that only computes or reads yields. -/
structure OV (env : Env) (w0 : World) (F : List Nat) (m : List Blk) (o : Oper) (v : Value) : Prop where
  out : ∀ (a : Act) (w : World), (∀ x u, ev env x = some u → a.eval x = u) → Mm w0 F m w → (execOp a.eval o).run P w = .ok (.value v) w

/-- What holds at an end. -/
structure SE (R : Act → World → Prop) (N : Nat) (env : Env) (w0 : World) (F : List Nat) (m : List Blk) : Prop where
  out : ∀ a w, Fr N env a → Mm w0 F m w → R a w
end

section
variable {P : Program} {Q : Exit → Act → World → Prop} {N : Nat} {w0 : World} {F : List Nat} {env : Env} {m : List Blk} {ops : Array Oper} {rest : List Oper}

theorem SC.region {id : Nat} {l : List Oper} (h : SL P l.toArray Q l N env w0 F m) : SC P (.region id l.toArray false) Q N env w0 F m :=
  ⟨fun a w hF hM => wp_region_lit (h.out a w hF hM)⟩

theorem SC.quiet {id : Nat} {l : List Oper} (hm : P.follows .mixedOrders = true) (hB : Region.lexB .any l.toArray = true) (h : SQ P l.toArray Q l N env w0 F m) : SC P (.region id l.toArray true) Q N env w0 F m :=
  ⟨fun a w hF hM => wp_region_quiet (C := Mm w0 F m) hm hB hM.drew (by simpa using h.out a hF)⟩

theorem SL.nil (h : SE (Q .normal) N env w0 F m) : SL P ops Q [] N env w0 F m := ⟨fun a w hF hM => wpList_nil (h.out a w hF hM)⟩
theorem SQ.nil (h : SE (Q .normal) N env w0 F m) : SQ P ops Q [] N env w0 F m := ⟨fun a hF => wpQuiet_nil fun w hM => h.out a w hF hM⟩

theorem SL.y {d : Nat} {op : Op} {t : TypeId} {pos : String} {af : Array Edge} {v : Value} (ho : OV P env w0 F m ⟨some d, op, t, pos, af, none⟩ v) (hd : Nat.blt d N = true)
    (h : SL P ops Q rest N ((d, v) :: env) w0 F m) : SL P ops Q (⟨some d, op, t, pos, af, none⟩ :: rest) N env w0 F m :=
  ⟨fun a w hF hM => wpList_plain rfl fun K hK => by
    unfold Oper.wp
    rw [ho.out a w (fun x u hx => hF.eval hx) hM]
    exact hK _ _ (h.out _ w (hF.put hd v) hM)⟩

theorem SQ.y {d : Nat} {op : Op} {t : TypeId} {pos : String} {af : Array Edge} {v : Value} (ho : OV P env w0 F m ⟨some d, op, t, pos, af, none⟩ v) (hd : Nat.blt d N = true)
    (h : SQ P ops Q rest N ((d, v) :: env) w0 F m) : SQ P ops Q (⟨some d, op, t, pos, af, none⟩ :: rest) N env w0 F m :=
  ⟨fun a hF => wpQuiet_step fun K hK => by
    refine (if_pos rfl).mpr ⟨v, fun w hM => ?_, hK _ (h.out _ (hF.put hd v))⟩
    unfold Oper.quietAt
    rw [ho.out a w (fun x u hx => hF.eval hx) hM]
    exact ⟨rfl, rfl⟩⟩

theorem yielded_of {N : Nat} {env : Env} {a : Act} (hF : Fr N env a) {ops : Array Oper} {j g : Nat} {b : Bool} (hg : (ops[j]?).bind (·.dst) = some g) (hb : look env g = some (.bool b)) : yielded ops a.tmps j = some b := by
  unfold yielded
  rw [hg]
  simp [hF.slot g _ hb]

/-- A guarded operation whose guard says yes. -/
theorem SL.yg {d j g : Nat} {b : Bool} {op : Op} {t : TypeId} {pos : String} {af : Array Edge} {v : Value} (hg : (ops[j]?).bind (·.dst) = some g) (hb : look env g = some (.bool b)) (ho : OV P env w0 F m ⟨some d, op, t, pos, af, some (j, b)⟩ v) (hd : Nat.blt d N = true)
    (h : SL P ops Q rest N ((d, v) :: env) w0 F m) : SL P ops Q (⟨some d, op, t, pos, af, some (j, b)⟩ :: rest) N env w0 F m :=
  ⟨fun a w hF hM => wpList_step fun K hK => by
    rw [if_pos (by simp [Region.wanted, yielded_of hF hg hb])]
    unfold Oper.wp
    rw [ho.out a w (fun x u hx => hF.eval hx) hM]
    exact hK _ _ (h.out _ w (hF.put hd v) hM)⟩

theorem SL.skip {d j g : Nat} {b : Bool} {op : Op} {t : TypeId} {pos : String} {af : Array Edge} (hg : (ops[j]?).bind (·.dst) = some g) (hb : look env g = some (.bool (!b))) (hd : Nat.blt d N = true)
    (h : SL P ops Q rest N ((d, undef) :: env) w0 F m) : SL P ops Q (⟨some d, op, t, pos, af, some (j, b)⟩ :: rest) N env w0 F m :=
  ⟨fun a w hF hM => wpList_step fun K hK => by
    rw [if_neg (by simp [Region.wanted, yielded_of hF hg hb])]
    exact hK _ _ (h.out _ w (hF.put hd undef) hM)⟩

theorem SQ.yg {d j g : Nat} {b : Bool} {op : Op} {t : TypeId} {pos : String} {af : Array Edge} {v : Value} (hg : (ops[j]?).bind (·.dst) = some g) (hb : look env g = some (.bool b)) (ho : OV P env w0 F m ⟨some d, op, t, pos, af, some (j, b)⟩ v) (hd : Nat.blt d N = true)
    (h : SQ P ops Q rest N ((d, v) :: env) w0 F m) : SQ P ops Q (⟨some d, op, t, pos, af, some (j, b)⟩ :: rest) N env w0 F m :=
  ⟨fun a hF => wpQuiet_step fun K hK => by
    rw [if_pos (by simp [Region.wanted, yielded_of hF hg hb])]
    refine ⟨v, fun w hM => ?_, hK _ (h.out _ (hF.put hd v))⟩
    unfold Oper.quietAt
    rw [ho.out a w (fun x u hx => hF.eval hx) hM]
    exact ⟨rfl, rfl⟩⟩

theorem SQ.skip {d j g : Nat} {b : Bool} {op : Op} {t : TypeId} {pos : String} {af : Array Edge} (hg : (ops[j]?).bind (·.dst) = some g) (hb : look env g = some (.bool (!b))) (hd : Nat.blt d N = true)
    (h : SQ P ops Q rest N ((d, undef) :: env) w0 F m) : SQ P ops Q (⟨some d, op, t, pos, af, some (j, b)⟩ :: rest) N env w0 F m :=
  ⟨fun a hF => wpQuiet_step fun K hK => by
    rw [if_neg (by simp [Region.wanted, yielded_of hF hg hb])]
    exact hK _ (h.out _ (hF.put hd undef))⟩

/-! ### Control -/
/-- A part of a piece of code: 0, 1: the two of a sequence; 2: a block's or a loop's body; 3, 4: a test's two arms. -/
def sub : List Nat → Code → Code
  | 0 :: r, .seq a _ => sub r a
  | 1 :: r, .seq _ b => sub r b
  | 2 :: r, .block _ c => sub r c
  | 2 :: r, .loop c => sub r c
  | 3 :: r, .cond _ a _ => sub r a
  | 4 :: r, .cond _ _ b => sub r b
  | _, c => c

theorem SC.seq {x y : Code} (h : SC P x (Exit.then (y.wp P Q) Q) N env w0 F m) : SC P (.seq x y) Q N env w0 F m := ⟨fun a w hF hM => wp_seq (h.out a w hF hM)⟩

/-- The ways through x meet again in R. -/
theorem SC.cut {x y : Code} (R : Act → World → Prop) (h : SC P x (Exit.then R Q) N env w0 F m) (h2 : ∀ a w, R a w → y.wp P Q a w) : SC P (.seq x y) Q N env w0 F m :=
  ⟨fun a w hF hM => wp_seq (wp_mono (h.out a w hF hM) fun e a w hq => by cases e <;> first | exact h2 _ _ hq | exact hq)⟩

theorem SC.then {y : Code} {Q' : Exit → Act → World → Prop} (h : SC P y Q N env w0 F m) : SE (Exit.then (y.wp P Q) Q' .normal) N env w0 F m := ⟨fun a w hF hM => h.out a w hF hM⟩

theorem SC.condT {c : Operand} {x y : Code} (hc : ev env c = some (.bool true)) (h : SC P x Q N env w0 F m) : SC P (.cond c x y) Q N env w0 F m :=
  ⟨fun a w hF hM => wp_cond_true (hF.eval hc) (h.out a w hF hM)⟩
theorem SC.condF {c : Operand} {x y : Code} (hc : ev env c = some (.bool false)) (h : SC P y Q N env w0 F m) : SC P (.cond c x y) Q N env w0 F m :=
  ⟨fun a w hF hM => wp_cond_false (hF.eval hc) (h.out a w hF hM)⟩
theorem SC.cond {c : Operand} {x y : Code} {b : Bool} (hc : ev env c = some (.bool b)) (ht : b = true → SC P x Q N env w0 F m) (hf : b = false → SC P y Q N env w0 F m) : SC P (.cond c x y) Q N env w0 F m :=
  ⟨fun a w hF hM => wp_cond_split (hF.eval hc) (fun e => (ht e).out a w hF hM) (fun e => (hf e).out a w hF hM)⟩
theorem SC.condP {c : Operand} {x y : Code} {p : Prop} [Decidable p] (hc : ev env c = some (.bool (decide p))) (ht : p → SC P x Q N env w0 F m) (hf : ¬ p → SC P y Q N env w0 F m) : SC P (.cond c x y) Q N env w0 F m :=
  SC.cond hc (fun e => ht (of_decide_eq_true e)) (fun e => hf (of_decide_eq_false e))

theorem SC.skip (h : SE (Q .normal) N env w0 F m) : SC P .skip Q N env w0 F m := ⟨fun a w hF hM => wp_skip (h.out a w hF hM)⟩
theorem SC.exit {id : Nat} (h : SE (Q (.exit id)) N env w0 F m) : SC P (.exit id) Q N env w0 F m := ⟨fun a w hF hM => wp_exit (h.out a w hF hM)⟩
theorem SC.ret (h : SE (Q .ret) N env w0 F m) : SC P .ret Q N env w0 F m := ⟨fun a w hF hM => wp_ret (h.out a w hF hM)⟩
theorem SC.block {id : Nat} {c : Code} (h : SC P c (Exit.inBlock id Q) N env w0 F m) : SC P (.block id c) Q N env w0 F m := ⟨fun a w hF hM => wp_block (h.out a w hF hM)⟩

theorem SC.weaken {c : Code} {env' : Env} {m' : List Blk} (hE : ESub env' env) (hM : m'.Sublist m) (h : SC P c Q N env' w0 F m') : SC P c Q N env w0 F m :=
  ⟨fun a w hF hm => h.out a w (hF.weaken hE) (hm.weaken hM)⟩
theorem SE.weaken {R : Act → World → Prop} {env' : Env} {m' : List Blk} (hE : ESub env' env) (hM : m'.Sublist m) (h : SE R N env' w0 F m') : SE R N env w0 F m :=
  ⟨fun a w hF hm => h.out a w (hF.weaken hE) (hm.weaken hM)⟩

theorem SE.perm {R : Act → World → Prop} {m' : List Blk} (hp : m.Perm m') (h : SE R N env w0 F m') : SE R N env w0 F m := ⟨fun a w hF hm => h.out a w hF (hm.perm hp)⟩
theorem all_cons {p : Nat → Prop} {a : Nat} {l : List Nat} (h : p a) (hl : ∀ i ∈ l, p i) : ∀ i ∈ a :: l, p i := fun i hi => by
  rcases List.mem_cons.1 hi with rfl | hi
  · exact h
  · exact hl i hi
theorem all_nil {p : Nat → Prop} : ∀ i ∈ ([] : List Nat), p i := fun _ h => by cases h
/-- A state: a frame of which E is known, a memory of which M is known. -/
def St (N : Nat) (w0 : World) (F : List Nat) (E : Env) (M : List Blk) (a : Act) (w : World) : Prop := Fr N E a ∧ Mm w0 F M w

/-- A LOOP: a ghost state s; what the frame and the memory hold is said by it; every round lowers the measure. -/
theorem SC.loop {c : Code} {σ : Type} (E : σ → Env) (M : σ → List Blk) (G : σ → Prop) (μ : σ → Nat) (s0 : σ) (hG : G s0) (hE : ESub (E s0) env) (hM : (M s0).Sublist m)
    (round : ∀ s, G s → SC P c (Exit.then (fun a w => ∃ s', G s' ∧ μ s' < μ s ∧ St N w0 F (E s') (M s') a w) Q) N (E s) w0 F (M s)) : SC P (.loop c) Q N env w0 F m := by
  refine ⟨fun a w hF hm => ?_⟩
  refine wp_loop_ghost (fun n a w => ∃ s, G s ∧ μ s = n ∧ St N w0 F (E s) (M s) a w) (μ s0) ⟨s0, hG, rfl, hF.weaken hE, hm.weaken hM⟩ ?_
  rintro n a w ⟨s, hs, rfl, hF, hm⟩
  refine wp_mono ((round s hs).out a w hF hm) ?_
  intro e a' w' hq
  cases e with
  | normal => obtain ⟨s', h1, h2, h3⟩ := hq; exact ⟨μ s', h2, s', h1, rfl, h3⟩
  | exit id => exact hq
  | goto l => exact hq
  | ret => exact hq
  | panic ch => exact hq
  | outgrown => exact hq

/-- The round's end. -/
theorem SE.round {σ : Type} {E : σ → Env} {M : σ → List Blk} {G : σ → Prop} {μ : σ → Nat} {s : σ} (s' : σ) (hG : G s') (hμ : μ s' < μ s) (hE : ESub (E s') env) (hM : (M s').Sublist m) :
    SE (Exit.then (fun a w => ∃ s', G s' ∧ μ s' < μ s ∧ St N w0 F (E s') (M s') a w) Q .normal) N env w0 F m :=
  ⟨fun a w hF hm => ⟨s', hG, hμ, hF.weaken hE, hm.weaken hM⟩⟩

theorem SE.st {R : Act → World → Prop} {E : Env} {M : List Blk} (hR : ∀ a w, St N w0 F E M a w → R a w) (hE : ESub E env) (hM : M.Sublist m) : SE R N env w0 F m :=
  ⟨fun a w hF hm => hR a w ⟨hF.weaken hE, hm.weaken hM⟩⟩

theorem SC.of_st {c : Code} {E : Env} {M : List Blk} (h : SC P c Q N E w0 F M) {a : Act} {w : World} (hs : St N w0 F E M a w) : c.wp P Q a w := h.out a w hs.1 hs.2

/-- The ways through x meet again in a state of which E and M are known. -/
theorem SC.cutSt {x y : Code} (E : Env) (M : List Blk) (h : SC P x (Exit.then (St N w0 F E M) Q) N env w0 F m) (h2 : SC P y Q N E w0 F M) : SC P (.seq x y) Q N env w0 F m :=
  SC.cut _ h fun a w hs => h2.of_st hs
theorem SE.toSt {E : Env} {M : List Blk} (hE : ESub E env) (hM : M.Sublist m) : SE (Exit.then (St N w0 F E M) Q .normal) N env w0 F m := ⟨fun a w hF hm => ⟨hF.weaken hE, hm.weaken hM⟩⟩
/-- The same, for some ghost state. -/
theorem SC.cutG {x y : Code} {σ : Type} (E : σ → Env) (M : σ → List Blk) (G : σ → Prop) (h : SC P x (Exit.then (fun a w => ∃ s, G s ∧ St N w0 F (E s) (M s) a w) Q) N env w0 F m) (h2 : ∀ s, G s → SC P y Q N (E s) w0 F (M s)) : SC P (.seq x y) Q N env w0 F m :=
  SC.cut _ h fun a w ⟨s, hG, hs⟩ => (h2 s hG).of_st hs
theorem SE.toG {σ : Type} {E : σ → Env} {M : σ → List Blk} {G : σ → Prop} (s : σ) (hG : G s) (hE : ESub (E s) env) (hM : (M s).Sublist m) : SE (Exit.then (fun a w => ∃ s, G s ∧ St N w0 F (E s) (M s) a w) Q .normal) N env w0 F m := ⟨fun a w hF hm => ⟨s, hG, hF.weaken hE, hm.weaken hM⟩⟩
theorem SE.nb {id : Nat} (h : SE (Q .normal) N env w0 F m) : SE (Exit.inBlock id Q .normal) N env w0 F m := ⟨fun a w hF hM => h.out a w hF hM⟩
theorem SE.thenE {id : Nat} {X : Act → World → Prop} (h : SE (Q (.exit id)) N env w0 F m) : SE (Exit.then X Q (.exit id)) N env w0 F m := ⟨fun a w hF hM => h.out a w hF hM⟩
theorem SE.thenR {X : Act → World → Prop} (h : SE (Q .ret) N env w0 F m) : SE (Exit.then X Q .ret) N env w0 F m := ⟨fun a w hF hM => h.out a w hF hM⟩
theorem SE.blockR {id : Nat} (h : SE (Q .ret) N env w0 F m) : SE (Exit.inBlock id Q .ret) N env w0 F m := ⟨fun a w hF hM => h.out a w hF hM⟩
/-- Through a block's end. -/
theorem SE.inBlock {id : Nat} (h : SE (Q .normal) N env w0 F m) : SE (Exit.inBlock id Q (.exit id)) N env w0 F m := ⟨fun a w hF hM => by simpa [Exit.inBlock] using h.out a w hF hM⟩
theorem SE.inBlock_ne {id id' : Nat} (hne : Nat.beq id' id = false) (h : SE (Q (.exit id')) N env w0 F m) : SE (Exit.inBlock id Q (.exit id')) N env w0 F m :=
  ⟨fun a w hF hM => by have : id' ≠ id := fun e => by subst e; simp at hne
                       simpa [Exit.inBlock, this] using h.out a w hF hM⟩

end
end Go.Proofs.Ybulkdrci.A.Sym
