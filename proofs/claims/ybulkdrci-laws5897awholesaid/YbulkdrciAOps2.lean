import Derived.Test.YbulkdrciAOps
namespace Go.Proofs.Ybulkdrci.A.Sym
open Go Go.RowKit
set_option linter.unusedVariables false
set_option linter.unusedSimpArgs false
section
variable {P : Program} {w0 : World} {F : List Nat} {env : Env} {m : List Blk} {d : Option Nat} {ty : TypeId} {pos : String} {af : Array Edge} {g : Option (Nat × Bool)}
variable {x y z : Operand} {k : IntKind} {a b : Int} {T T' : TypeId}

/-- An index into a slice that came in. -/
theorem OV.idxO {e : TypeId} {A : Addr} {sA : Option Addr} {n c : Nat} {I : Int} (j : Nat) (hT : P.underlying T = some (.slice e)) (hs : size1 P e = true) (hx : ev env x = some (.slice sA n c)) (hA : sA = some A) (hy : ev env y = some (.int k I)) (hI : I = (j : Int)) (hj : j < n) :
    OV P env w0 F m ⟨d, .indexAddr T x y, ty, pos, af, g⟩ (.pointer (some (A.add j))) := by
  unfold size1 at hs
  subst hA
  subst hI
  cases hi : P.info? e with
  | none => simp [hi] at hs
  | some i =>
    simp [hi] at hs
    exact ⟨fun A w hE hM => by simp [execOp, hE x _ hx, hE y _ hy, Instr.indexAt, asIntOf, run_underlying hT, hj, sizeOf, typeInfo, hi, hs]⟩

theorem OV.loadOldA {q : Addr} {v : Value} (hT : scalar P T = true) (hx : ev env x = some (.pointer (some q))) (hF : q.block ∉ F) (hc : w0.cell? q = some v) :
    OV P env w0 F m ⟨d, .load T x, ty, pos, af, g⟩ v := ⟨fun A w hE hM => by
  have hlt : q.block < w0.heap.size := block_lt_of_cell hc
  have hcell : w.cell? q = some v := by rw [← hc]; exact World.cell?_of_block (hM.old q.block hlt hF)
  unfold scalar at hT
  cases hu : P.underlying T with
  | none => simp [hu] at hT
  | some D =>
    cases D <;> simp [hu] at hT <;> simp [execOp, hE x _ hx, Instr.loadAt, Instr.sureAddr, loadVar, isAgg, run_underlying hu, load, Sem.run, hcell]⟩

theorem OE.makeS {e : TypeId} {i : TypeInfo} {z : Value} {s : Nat} {kl kc : IntKind} {L C : Int} (l c : Nat) (hT : P.underlying T = some (.slice e)) (hi : P.info? e = some i) (hz : i.zero = some z) (h1 : i.size = s) (hx : ev env x = some (.int kl L)) (hy : ev env y = some (.int kc C)) (hL : L = (l : Int)) (hC : C = (c : Int)) (hlc : l ≤ c) (hb : i.bytes * c ≤ 281474976710656) (h63 : c ≤ 9223372036854775807) :
    OE P env w0 F m ⟨d, .makeSlice T x y, ty, pos, af, g⟩ (fun nb : Nat => .slice (some ⟨nb, 0, none⟩) l c) (fun nb => m ++ [(nb, row e (madeCells z.cells (c * s)).toList)]) := by
  subst hL
  subst hC
  subst h1
  refine ⟨fun A w hE hM => ⟨w.heap.size, _, ?_, hM.alloc _⟩⟩
  have hb' : (i.bytes : Int) * (c : Int) ≤ 281474976710656 := by
    have h : ((i.bytes * c : Nat) : Int) ≤ 281474976710656 := by omega
    rwa [Int.natCast_mul] at h
  have hr := run_make (P := P) w T e i z hT hi hz kl kc l c (by omega) (by omega) hb' (by omega)
  simp only [Int.toNat_natCast] at hr
  have hrow : Obj.cells (madeCells z.cells (c * i.size)) e = row e (madeCells z.cells (c * i.size)).toList := by
    unfold row; simp
  rw [hrow] at hr
  simp [execOp, hE x _ hx, hE y _ hy, hr]

theorem madeCells_tab (zs : Array Value) (n : Nat) (f : Nat → Value) (h : ∀ q, q < n → zs[q % zs.size]! = f q) : (madeCells zs n).toList = tab n f := by
  unfold madeCells tab
  simp only [Array.toList_map, Array.toList_range]
  exact List.map_congr_left fun q hq => h q (List.mem_range.1 hq)

theorem tab_splice3 {N o : Nat} {f : Nat → Value} {v0 v1 v2 : Value} (h : o + 3 ≤ N) : (tab N f).take o ++ [v0, v1, v2] ++ (tab N f).drop (o + 3) = tab N fun q => if q = o then v0 else if q = o + 1 then v1 else if q = o + 2 then v2 else f q := by
  refine List.ext_getElem? fun i => ?_
  by_cases h1 : i < o
  · rw [List.append_assoc, List.getElem?_append_left (by simp [tab]; omega), List.getElem?_take_of_lt h1, tab_get (by omega), tab_get (by omega), if_neg (by omega), if_neg (by omega), if_neg (by omega)]
  · rw [List.append_assoc, List.getElem?_append_right (by simp [tab]; omega)]
    have hl : ((tab N f).take o).length = o := by simp [tab]; omega
    rw [hl]
    by_cases h2 : i < o + 3
    · rw [List.getElem?_append_left (by simp; omega), tab_get (by omega)]
      have : i = o ∨ i = o + 1 ∨ i = o + 2 := by omega
      rcases this with e | e | e
      · subst e; simp
      · subst e
        have : o + 1 - o = 1 := by omega
        simp [this]
      · subst e
        have : o + 2 - o = 2 := by omega
        simp [this]
    · rw [List.getElem?_append_right (by simp; omega)]
      simp only [List.length_cons, List.length_nil]
      rw [List.getElem?_drop]
      have e : o + 3 + (i - o - (0 + 1 + 1 + 1)) = i := by omega
      rw [e]
      by_cases h3 : i < N
      · rw [tab_get h3, tab_get h3, if_neg (by omega), if_neg (by omega), if_neg (by omega)]
      · rw [List.getElem?_eq_none (by simp [tab]; omega), List.getElem?_eq_none (by simp [tab]; omega)]

/-- A row of n numbers with spare room behind it (a copy). -/
def arow (e : TypeId) (kk : IntKind) (n : Nat) (f : Nat → Int) (sp : List Value) : Obj := row e (tab n (fun q => .int kk (f q)) ++ sp)
theorem arow_get {kk : IntKind} {n o : Nat} {f : Nat → Int} {sp : List Value} (h : o < n) : (tab n (fun q => Value.int kk (f q)) ++ sp)[o]? = some (.int kk (f o)) := by
  rw [List.getElem?_append_left (by rw [length_tab]; exact h), tab_get h]
theorem OV.loadA {e : TypeId} {kk : IntKind} {n b o : Nat} {f : Nat → Int} {sp : List Value} (j : Nat) (hT : scalar P T = true) (hx : ev env x = some (.pointer (some ⟨b, o, none⟩))) (hm : m[j]? = some (b, arow e kk n f sp)) (ho : o < n) :
    OV P env w0 F m ⟨d, .load T x, ty, pos, af, g⟩ (.int kk (f o)) := OV.load j hT hx hm (arow_get ho)
/-- A cell of a row that is said cell by cell. -/
theorem OV.loadT {e : TypeId} {n b o : Nat} {f : Nat → Value} {v : Value} (j : Nat) (hT : scalar P T = true) (hx : ev env x = some (.pointer (some ⟨b, o, none⟩))) (hm : m[j]? = some (b, row e (tab n f))) (ho : o < n) (hv : f o = v) :
    OV P env w0 F m ⟨d, .load T x, ty, pos, af, g⟩ v := by subst hv; exact OV.load j hT hx hm (tab_get ho)

theorem eqIn_ptr_nil (dd : Nat) {e : TypeId} {q : Option Addr} (hT : P.underlying T = some (.pointer e)) (w : World) : (Op.equalIn (dd + 1) T (.pointer q) (.pointer none)).run P w = .ok q.isNone w := by
  cases q <;> simp [Op.equalIn, run_underlying hT]
theorem OV.neqPtrNil {e : TypeId} {q : Option Addr} (hT : P.underlying T = some (.pointer e)) (hx : ev env x = some (.pointer q)) : OV P env w0 F m ⟨d, .binOp .neq T x (.const (.pointer none)) T', ty, pos, af, g⟩ (.bool (!q.isNone)) :=
  ⟨fun A w hE hM => by
    have hc : A.eval (.const (.pointer none)) = .pointer none := rfl
    have hr : (Op.equal T (.pointer q) (.pointer none)).run P w = .ok q.isNone w := eqIn_ptr_nil 9999 hT w
    simp [execOp, hE x _ hx, hc, eqGuard, binOp, hr]⟩
end

section
variable {P : Program} {Q : Exit → Act → World → Prop} {N : Nat} {w0 : World} {F : List Nat} {env : Env} {m : List Blk}
/-- A loop whose ghost state is a pair. -/
theorem SC.loopAB {c : Code} {α β : Type} (E : α → β → Env) (M : α → β → List Blk) (G : α → β → Prop) (μ : α → β → Nat) (a0 : α) (b0 : β) (hG : G a0 b0) (hE : ESub (E a0 b0) env) (hM : (M a0 b0).Sublist m)
    (round : ∀ a b, G a b → SC P c (Exit.then (fun A w => ∃ a' b', G a' b' ∧ μ a' b' < μ a b ∧ St N w0 F (E a' b') (M a' b') A w) Q) N (E a b) w0 F (M a b)) : SC P (.loop c) Q N env w0 F m :=
  SC.loop (fun s : α × β => E s.1 s.2) (fun s => M s.1 s.2) (fun s => G s.1 s.2) (fun s => μ s.1 s.2) (a0, b0) hG hE hM (fun s hs => ⟨fun A w hF hm => wp_mono ((round s.1 s.2 hs).out A w hF hm) fun e A w hq => by
    cases e <;> first | (obtain ⟨a', b', h⟩ := hq; exact ⟨(a', b'), h⟩) | exact hq⟩)
theorem SE.roundAB {α β : Type} {E : α → β → Env} {M : α → β → List Blk} {G : α → β → Prop} {μ : α → β → Nat} {u : Nat} (a' : α) (b' : β) (hG : G a' b') (hμ : μ a' b' < u) (hE : ESub (E a' b') env) (hM : (M a' b').Sublist m) :
    SE (Exit.then (fun A w => ∃ a' b', G a' b' ∧ μ a' b' < u ∧ St N w0 F (E a' b') (M a' b') A w) Q .normal) N env w0 F m :=
  ⟨fun A w hF hm => ⟨a', b', hG, hμ, hF.weaken hE, hm.weaken hM⟩⟩
end
end Go.Proofs.Ybulkdrci.A.Sym
