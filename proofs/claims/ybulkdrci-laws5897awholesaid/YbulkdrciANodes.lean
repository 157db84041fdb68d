import Derived.Test.YbulkdrciADec
namespace Go.Proofs.Ybulkdrci.A
open Go Go.RowKit Go.Proofs.Ybulkdrci.A.Sym
set_option linter.unusedVariables false
set_option linter.unusedSimpArgs false
set_option maxRecDepth 100000

theorem tab_splice {N a : Nat} {f f' : Nat → Value} {ys : List Value} (h : a + ys.length ≤ N) (h1 : ∀ q, q < N → (q < a ∨ a + ys.length ≤ q) → f' q = f q) (h2 : ∀ q v, ys[q]? = some v → f' (a + q) = v) : (tab N f).take a ++ ys ++ (tab N f).drop (a + ys.length) = tab N f' := by
  have hla : ((tab N f).take a).length = a := by rw [List.length_take, length_tab]; omega
  refine List.ext_getElem? fun i => ?_
  by_cases hi : i < N
  · rw [tab_get hi]
    by_cases ha : i < a
    · rw [List.append_assoc, List.getElem?_append_left (by omega), List.getElem?_take, if_pos ha, tab_get hi, h1 i hi (.inl ha)]
    · by_cases hb : i < a + ys.length
      · rw [List.append_assoc, List.getElem?_append_right (by omega), hla, List.getElem?_append_left (by omega)]
        have hq : i - a < ys.length := by omega
        have e := List.getElem?_eq_getElem hq
        rw [e, ← h2 (i - a) _ e]
        congr 2
        omega
      · rw [List.getElem?_append_right (by rw [List.length_append, hla]; omega), List.length_append, hla, List.getElem?_drop]
        have e2 : a + ys.length + (i - (a + ys.length)) = i := by omega
        rw [e2, tab_get hi, h1 i hi (.inr (by omega))]
  · have e1 : (tab N f')[i]? = none := List.getElem?_eq_none (by rw [length_tab]; omega)
    rw [e1]
    refine List.getElem?_eq_none ?_
    simp only [List.length_append, List.length_drop, hla, length_tab]
    omega
section
variable {P : Program} {w0 : World} {F : List Nat} {env : Env} {m : List Blk} {d : Option Nat} {ty T : TypeId} {pos : String} {af : Array Edge} {g : Option (Nat × Bool)} {x y : Operand}
/-- 'append(s, y)' with room, elements of several cells. -/
theorem Sym.OE.appR {e : TypeId} {i : TypeInfo} {b n c c2 sz N : Nat} {A2 : Addr} {ys : List Value} {f f' : Nat → Value} (j : Nat) (hT : P.underlying T = some (.slice e)) (hi : P.info? e = some i) (hs : i.size = sz) (hx : ev env x = some (.slice (some ⟨b, 0, none⟩) n c)) (hy : ev env y = some (.slice (some A2) 1 c2)) (hm : m[j]? = some (b, row e (tab N f))) (hm2 : Src w0 F m A2 ys) (hl : ys.length = sz) (ho : ∀ u ∈ ys, u.oneCell' = true) (hroom : n + 1 ≤ c) (hN : n * sz + ys.length ≤ N)
    (h1 : ∀ q, q < N → (q < n * sz ∨ n * sz + ys.length ≤ q) → f' q = f q) (h2 : ∀ q v, ys[q]? = some v → f' (n * sz + q) = v) :
    OE P env w0 F m ⟨d, .call ⟨.builtin .append, #[x, y], #[T, T]⟩, ty, pos, af, g⟩ (fun _ : Unit => .slice (some ⟨b, 0, none⟩) (n + 1) c) (fun _ => m.set j (b, row e (tab N f'))) := by
  subst hs
  refine ⟨fun A w hE hM => ?_⟩
  have hb : w.heap[b]? = some (row e (tab N f)) := hM.block hm
  have hr := run_append_room (P := P) w T ty e i hT hi b n c (tab N f).toArray hb A2 1 c2 ys (by omega) (hm2 w hM) ho hroom (by simp only [List.size_toArray, length_tab]; exact hN)
  have hM2 := hM.setRow (cs' := tab N f') hm
  refine ⟨(), _, ?_, hM2⟩
  have e1 := tab_splice (f := f) (f' := f') hN h1 h2
  simp only [e1] at hr
  simp only [execOp, resolve, invoke, builtin, Sem.run_bind, Sem.run_pure, Result.andThen_ok, List.map_toArray, List.map_cons, List.map_nil, hE x _ hx, hE y _ hy, hr]
end
theorem info28 : (Yba.prog.info? 28).map (fun i => (i.zero, i.size, i.bytes)) = some (some (.agg #[.string ⟨#[]⟩, .int .u8 0, .bool false, .slice none 0 0]), 4, 48) := by kernel_rfl
theorem info112 : (Yba.prog.info? 112).map (fun i => (i.zero, i.size, i.bytes)) = some (some (.agg #[.int .i64 0, .slice none 0 0]), 2, 32) := by kernel_rfl
theorem bld112 (a : Int) (A : Option Addr) (l c : Nat) (w : World) : (Instr.build 112 #[(0, .int .i64 a), (1, .slice A l c)]).run Yba.prog w = .ok (.agg #[.int .i64 a, .slice A l c]) w := by kernel_rfl
theorem fill112 (a : Int) (A : Option Addr) (l c : Nat) : Instr.fill (fun i => some (i * 2, 2)) ((Array.range (1 * 2)).map ((Value.agg #[.int .i64 0, .slice none 0 0]).cells[· % (Value.agg #[.int .i64 0, .slice none 0 0]).cells.size]!)) [(0, .agg #[.int .i64 a, .slice A l c])] = some #[.int .i64 a, .slice A l c] := by kernel_rfl
theorem bld28 (a : ByteArray) (f : Int) (A : Option Addr) (l c : Nat) (w : World) : (Instr.build 28 #[(0, .string a), (1, .int .u8 f), (3, .slice A l c)]).run Yba.prog w = .ok (.agg #[.string a, .int .u8 f, .bool false, .slice A l c]) w := by kernel_rfl
theorem bld92 (q : Option Addr) (w : World) : (Instr.build 92 #[(0, .pointer q)]).run Yba.prog w = .ok (.agg #[.pointer q, .int .i64 0, .bool false, .int .u8 0, .int .u8 0]) w := by kernel_rfl
theorem fill92 (q : Option Addr) : Instr.fill (fun i => some (i * 5, 5)) ((Array.range (1 * 5)).map ((Value.agg #[.pointer none, .int .i64 0, .bool false, .int .u8 0, .int .u8 0]).cells[· % (Value.agg #[.pointer none, .int .i64 0, .bool false, .int .u8 0, .int .u8 0]).cells.size]!)) [(0, .agg #[.pointer q, .int .i64 0, .bool false, .int .u8 0, .int .u8 0])] = some #[.pointer q, .int .i64 0, .bool false, .int .u8 0, .int .u8 0] := by kernel_rfl

/-! ### The nodes, while they are laid out -/
def pPtr (bc bp i k : Nat) : Value := if k = 0 then .pointer (some ⟨bc, 0, none⟩) else if k ≤ i then .pointer (some ⟨bp, (k - 1) * 4, none⟩) else .pointer none
def pn (bc bp i : Nat) (e : Nat → Nat) (o : Nat) : Value :=
  if o % 5 = 0 then pPtr bc bp i (o / 5) else if o % 5 = 1 then .int .i64 (e (o / 5)) else if o % 5 = 2 then .bool false else .int .u8 0
def eA (i : Nat) (k : Nat) : Nat := if 1 ≤ k ∧ k ≤ i then k + 1 else 0
def eF (n : Nat) (k : Nat) : Nat := if k = 0 then n + 1 else eA n k
def zn (o : Nat) : Value := if o % 5 = 0 then .pointer none else if o % 5 = 1 then .int .i64 0 else if o % 5 = 2 then .bool false else .int .u8 0
theorem zn_made (N : Nat) : (madeCells (Value.agg #[.pointer none, .int .i64 0, .bool false, .int .u8 0, .int .u8 0]).cells N).toList = tab N zn := by
  refine madeCells_tab _ _ _ fun q hq => ?_
  show (#[Value.pointer none, .int .i64 0, .bool false, .int .u8 0, .int .u8 0] : Array Value)[q % 5]! = zn q
  unfold zn
  have h : q % 5 = 0 ∨ q % 5 = 1 ∨ q % 5 = 2 ∨ q % 5 = 3 ∨ q % 5 = 4 := by omega
  rcases h with e | e | e | e | e <;> rw [e] <;> rfl
/-- One node's five cells. -/
def nd5 (q : Option Addr) : List Value := [.pointer q, .int .i64 0, .bool false, .int .u8 0, .int .u8 0]
theorem nd5_one (q : Option Addr) : ∀ u ∈ nd5 q, u.oneCell' = true := by
  intro u hu
  simp [nd5] at hu
  rcases hu with rfl | rfl | rfl | rfl <;> rfl
theorem pn_at {bc bp i k r : Nat} {e : Nat → Nat} (hr : r < 5) : pn bc bp i e (k * 5 + r) = if r = 0 then pPtr bc bp i k else if r = 1 then .int .i64 (e k) else if r = 2 then .bool false else .int .u8 0 := by
  have e1 : (k * 5 + r) % 5 = r := by omega
  have e2 : (k * 5 + r) / 5 = k := by omega
  unfold pn
  rw [e1, e2]
theorem pn_first {bc bp N : Nat} (hN : 5 ≤ N) : (tab N zn).take 0 ++ nd5 (some ⟨bc, 0, none⟩) ++ (tab N zn).drop (0 + (nd5 (some ⟨bc, 0, none⟩)).length) = tab N (pn bc bp 0 (eA 0)) := by
  refine tab_splice (by show 0 + 5 ≤ N; omega) (fun q hq h => ?_) (fun q v h => ?_)
  · have hq5 : 5 ≤ q := by
      rcases h with h | h
      · omega
      · exact h
    unfold pn zn pPtr eA
    have h0 : ¬ q / 5 = 0 := by omega
    have h1 : ¬ q / 5 ≤ 0 := by omega
    simp only [h0, h1, and_false, if_false]
    rfl
  · have hq : q < 5 := (List.getElem?_eq_some_iff.1 h).1
    have e1 := pn_at (bc := bc) (bp := bp) (i := 0) (k := 0) (e := eA 0) hq
    rw [Nat.zero_mul] at e1
    rw [e1]
    have hc : q = 0 ∨ q = 1 ∨ q = 2 ∨ q = 3 ∨ q = 4 := by omega
    rcases hc with rfl | rfl | rfl | rfl | rfl <;> cases h <;> rfl
/-- A node more. -/
theorem pn_more1 {bc bp i N : Nat} : ∀ q, q < N → (q < (i + 1) * 5 ∨ (i + 1) * 5 + (nd5 (some ⟨bp, i * 4, none⟩)).length ≤ q) → pn bc bp (i + 1) (eA i) q = pn bc bp i (eA i) q := by
  intro q hq h
  have h' : q < (i + 1) * 5 ∨ (i + 1) * 5 + 5 ≤ q := h
  unfold pn pPtr
  have e1 : (q / 5 ≤ i + 1) ↔ (q / 5 ≤ i) := by omega
  simp only [e1]
theorem pn_more2 {bc bp i : Nat} : ∀ q v, (nd5 (some ⟨bp, i * 4, none⟩))[q]? = some v → pn bc bp (i + 1) (eA i) ((i + 1) * 5 + q) = v := by
  intro q v h
  have hq : q < 5 := (List.getElem?_eq_some_iff.1 h).1
  rw [pn_at hq]
  have hc : q = 0 ∨ q = 1 ∨ q = 2 ∨ q = 3 ∨ q = 4 := by omega
  rcases hc with rfl | rfl | rfl | rfl | rfl <;> cases h
  · rw [if_pos rfl]; unfold pPtr; rw [if_neg (by omega), if_pos (by omega)]; simp
  · rw [if_neg (by decide), if_pos rfl]; unfold eA; rw [if_neg (by omega)]; rfl
  · rfl
  · rfl
  · rfl
/-- A node's end is set. -/
theorem pn_end {bc bp i k N : Nat} {e e' : Nat → Nat} {v : Nat} (hk : k * 5 + 1 < N) (hv : e' k = v) (ho : ∀ q, q ≠ k → e' q = e q) : (tab N (pn bc bp i e)).set (0 + k * 5 + 1) (.int .i64 v) = tab N (pn bc bp i e') := by
  rw [tab_set (by omega)]
  congr 1
  funext o
  unfold upd
  by_cases h : o = 0 + k * 5 + 1
  · have e1 := pn_at (bc := bc) (bp := bp) (i := i) (k := k) (r := 1) (e := e') (by decide)
    have h' : o = k * 5 + 1 := by omega
    rw [if_pos h, h', e1, if_neg (by decide), if_pos rfl, hv]
  · rw [if_neg h]
    unfold pn
    by_cases h1 : o % 5 = 1
    · have : o / 5 ≠ k := fun e => h (by omega)
      simp only [ho _ this]
    · simp only [h1, if_false]
end Go.Proofs.Ybulkdrci.A
