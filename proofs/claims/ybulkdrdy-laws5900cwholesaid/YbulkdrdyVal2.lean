import Derived.Test.YbulkdrdyVal
namespace Go.Proofs.Ybulkdrdy
open Go Go.RowKit Go.Proofs.Ybulkdrdy.Sym
set_option linter.unusedVariables false
set_option linter.unusedSimpArgs false

theorem lookupOld {P : Program} {w0 : World} {F : List Nat} {env : Env} {m : List Blk} {d : Option Nat} {ty : TypeId} {pos : String} {af : Array Edge} {g : Option (Nat × Bool)} {x y : Operand} {T K E : TypeId} {i : TypeInfo} {zv : Value} {b : Nat} {l : List Ent} {s : ByteArray} (hT : P.underlying T = some (.map K E)) (hK : P.underlying K = some .string) (hi : P.info? E = some i) (hz : i.zero = some zv) (hx : ev env x = some (.map (some b))) (hy : ev env y = some (.string s)) (hF : b ∉ F) (hb0 : w0.heap[b]? = some (mobj l)) :
    OV P env w0 F m ⟨d, .lookup T x y false, ty, pos, af, g⟩ ((mget l s).getD zv) := ⟨fun A w hE hM => by
  have hlt : b < w0.heap.size := (Array.getElem?_eq_some_iff.1 hb0).1
  have hb : w.heap[b]? = some (mobj l) := by rw [hM.old b hlt hF]; exact hb0
  unfold mobj at hb
  have hf := findNow_string l s 0 0
  have hkey : MapKept.IsKey .string (.string s) := trivial
  simp only [execOp, hE x _ hx, hE y _ hy]
  cases hg : mget l s with
  | none =>
    rw [hg] at hf
    simp only [Option.map_none] at hf
    simp [Instr.lookup, run_underlying hT, MapKept.run_getObj_map hb, MapKept.run_checkKey hK hkey, MapKept.run_findKey hK hf, zeroValue, typeInfo, hi, hz]
  | some v =>
    rw [hg] at hf
    simp only [Option.map_some] at hf
    simp [Instr.lookup, run_underlying hT, MapKept.run_getObj_map hb, MapKept.run_checkKey hK hkey, MapKept.run_findKey hK hf]⟩
theorem pf7 : plainFunc Yba.prog 7 = true := by kernel_rfl

/-- All the findings say the same. -/
def Alike (it : Nat → Fd) (n : Nat) : Prop := ∀ j, j < n → (it j).same = (it 0).same
/-- (Draft).value -/
theorem call5 {w : World} {bd bm n c : Nat} {a : Option Addr} {l : List Ent} {path : ByteArray} {it : Nat → Fd} (hn : n ≤ 2000000) (hd : w.cell? ⟨bd, 0 + 0, none⟩ = some (.map (some bm))) (hb : w.heap[bm]? = some (mobj l)) (hv : (mget l path).getD (.slice none 0 0) = .slice a n c) (hr : RdO w a n it) :
    Calls Yba.prog 5 #[.pointer (some ⟨bd, 0, none⟩), .string path] w fun e w' => ∃ r : Value × Bool, e = .returned (.tuple #[r.1, .bool r.2]) ∧ ((0 < n ∧ Alike it n ∧ r = (.iface 2 (.int .i64 (it 0).v), true)) ∨ (¬ (0 < n ∧ Alike it n) ∧ r = (.nilIface, false))) ∧ Mm w [] [] w' := by
  obtain ⟨i34, hi, hz0, hz1, hz2⟩ := info_parts info34
  obtain ⟨i30, hi30, hz30, _, _⟩ := info_parts info30
  refine Calls.of_SC (args := [.pointer (some ⟨bd, 0, none⟩), .string path]) Yba.func5 rfl (by simp [Yba.f5]) (Mm.start w) ?_
  refine SC.seq ?_
  refine SC.region ?_
  refine SL.y (OV.assign rfl) rfl ?_
  refine SL.y (OV.assign rfl) rfl ?_
  refine SL.nil ?_
  refine SC.then ?_
  refine SC.seq ?_
  refine SC.region ?_
  refine SL.y (OV.move rfl) rfl ?_
  refine SL.y (OV.nilCheck rfl) rfl ?_
  refine SL.y (OV.fld fo29_0 rfl) rfl ?_
  refine SL.y (OV.loadOld sc25 rfl (by simp) hd) rfl ?_
  refine SL.y (OV.move rfl) rfl ?_
  refine SL.y ((lookupOld u25 u9 hi30 hz30 rfl rfl (by simp) hb).is hv) rfl ?_
  refine SL.y (OV.assign rfl) rfl ?_
  refine SL.nil ?_
  refine SC.then ?_
  refine SC.seq ?_
  by_cases h0 : n = 0
  · subst h0
    refine SC.seq ?_
    refine SC.region ?_
    refine SL.y (OV.move rfl) rfl ?_
    refine SL.y (OV.len u30 rfl) rfl ?_
    refine SL.y ((OV.eql rfl rfl).yes (by omega)) rfl ?_
    refine SL.y (OV.move rfl) rfl ?_
    refine SL.skip rfl rfl rfl ?_
    refine SL.skip rfl rfl rfl ?_
    refine SL.skip rfl rfl rfl ?_
    refine SL.skip rfl rfl rfl ?_
    refine SL.y (OV.pickT rfl rfl) rfl ?_
    refine SL.nil ?_
    refine SC.then ?_
    refine SC.condT rfl ?_
    refine SC.seq ?_
    refine SC.region ?_
    refine SL.y (OV.assign rfl) rfl ?_
    refine SL.y (OV.assign rfl) rfl ?_
    refine SL.nil ?_
    refine SC.then ?_
    refine SC.ret ?_
    refine SE.thenR ?_
    exact SE.ret2 Yba.results5 rfl rfl (fun w' hM => ⟨(.nilIface, false), rfl, .inr ⟨fun h => absurd h.1 (by omega), rfl⟩, hM⟩)
  · have hpos : 0 < n := by omega
    refine SC.seq ?_
    refine SC.region ?_
    refine SL.y (OV.move rfl) rfl ?_
    refine SL.y (OV.len u30 rfl) rfl ?_
    refine SL.y ((OV.eql rfl rfl).no (by omega)) rfl ?_
    refine SL.y (OV.move rfl) rfl ?_
    refine SL.yg rfl rfl (OV.move rfl) rfl ?_
    refine SL.callXg (σ := Option Addr × Nat × Nat) (V := fun r => .slice r.1 r.2.1 r.2.2) (G := fun r => r.2.1 ≤ n ∧ (r.2.1 ≤ 1 ↔ ∀ j, j < n → (it j).same = (it 0).same)) rfl rfl pf7 (args1 rfl) (fun w' hM => call7 hn (fun k hk => by obtain ⟨b, e, h⟩ := hr k hk; exact ⟨b, e, fun q v hq => by have hc := h q v hq; rw [← hc]; exact World.cell?_of_block (hM.old b (block_lt_of_cell hc) (by simp))⟩)) rfl ?_
    intro r hrl
    refine SL.yg rfl rfl (OV.len u30 rfl) rfl ?_
    refine SL.yg rfl rfl (OV.gtr rfl rfl) rfl ?_
    refine SL.y (OV.pickF rfl rfl) rfl ?_
    refine SL.nil ?_
    refine SC.then ?_
    refine SC.condP rfl (fun hgt => ?_) (fun hle => ?_)
    · skip
      refine SC.seq ?_
      refine SC.region ?_
      refine SL.y (OV.assign rfl) rfl ?_
      refine SL.y (OV.assign rfl) rfl ?_
      refine SL.nil ?_
      refine SC.then ?_
      refine SC.ret ?_
      refine SE.thenR ?_
      exact SE.ret2 Yba.results5 rfl rfl (fun w' hM => ⟨(.nilIface, false), rfl, .inr ⟨fun h => by have := hrl.2.2 h.2; omega, rfl⟩, hM⟩)
    · have hal : Alike it n := hrl.2.1 (by omega)
      obtain ⟨b, rfl, h⟩ := hr 0 hpos
      refine SC.skip ?_
      refine SC.then ?_
      refine SC.seq ?_
      refine SC.region ?_
      refine SL.y (OV.move rfl) rfl ?_
      refine SL.y (OV.idx 0 u30 hi hz1 rfl rfl rfl (by omega)) rfl ?_
      refine SL.y (OV.fld fo34_0 rfl) rfl ?_
      refine SL.y (OV.loadOld sc20 rfl (by simp) (h 0 _ rfl)) rfl ?_
      refine SL.y (OV.assign rfl) rfl ?_
      refine SL.y (OV.assign rfl) rfl ?_
      refine SL.nil ?_
      refine SC.then ?_
      refine SC.ret ?_
      exact SE.ret2 Yba.results5 rfl rfl (fun w' hM => ⟨(.iface 2 (.int .i64 (it 0).v), true), rfl, .inl ⟨hpos, hal, rfl⟩, hM⟩)
end Go.Proofs.Ybulkdrdy
