import Derived.Test.YbulkdrciATypes
namespace Go.Proofs.Ybulkdrci.A
open Go Go.RowKit Go.Proofs.Ybulkdrci.A.Sym
set_option linter.unusedVariables false
set_option linter.unusedSimpArgs false
set_option maxRecDepth 100000

theorem Mm.callee1 {w0 w w' : World} {F : List Nat} {m : List Blk} {j b : Nat} {o o' : Obj} (h : Mm w0 F m w) (h' : Mm w [b] [(b, o')] w') (hj : m[j]? = some (b, o)) : Mm w0 F (m.set j (b, o')) w' := by
  refine h.callee h' (new := []) ?_ (List.nil_sublist _) (by simp) ?_ ?_
  · rw [map_set_same hj]; simp
  · intro p hp
    obtain ⟨i, hi⟩ := List.mem_iff_getElem?.1 hp
    rw [List.getElem?_set] at hi
    by_cases e : j = i
    · subst e
      rw [if_pos rfl] at hi
      split at hi
      · cases hi; exact .inr (by simp)
      · cases hi
    · rw [if_neg e] at hi
      refine .inl ⟨List.mem_of_getElem? hi, ?_⟩
      simp only [List.mem_cons, List.not_mem_nil, or_false]
      exact fun x => e (nodup_unique h.nodup hj hi x.symm)
  · intro q hq
    simp at hq
    subst hq
    exact List.mem_map.2 ⟨_, List.mem_of_getElem? hj, rfl⟩
theorem Mm.ofRow {w : World} {blk : Nat} {o : Obj} (h : w.heap[blk]? = some o) : Mm w [blk] [(blk, o)] w :=
  Mm.start' (fun p hp => by simp at hp; subst hp; exact h) rfl (by simp)
theorem Mm.oldBlk {w0 w : World} {F : List Nat} {m : List Blk} {b : Nat} {o : Obj} (hM : Mm w0 F m w) (hF : b ∉ F) (h : w0.heap[b]? = some o) : w.heap[b]? = some o := by
  rw [hM.old b (Array.getElem?_eq_some_iff.1 h).1 hF]; exact h
theorem Mm.oldCell {w0 w : World} {F : List Nat} {m : List Blk} {b o : Nat} {v : Value} (hM : Mm w0 F m w) (hF : b ∉ F) (h : w0.cell? ⟨b, o, none⟩ = some v) : w.cell? ⟨b, o, none⟩ = some v := by
  rw [← h]; exact World.cell?_of_block (hM.old b (block_lt_of_cell h) hF)
theorem info_parts {P : Program} {e : TypeId} {z : Value} {s b : Nat} (h : (P.info? e).map (fun i => (i.zero, i.size, i.bytes)) = some (some z, s, b)) : ∃ i, P.info? e = some i ∧ i.zero = some z ∧ i.size = s ∧ i.bytes = b := by
  cases hi : P.info? e with
  | none => simp [hi] at h
  | some i => simp [hi] at h; exact ⟨i, rfl, h.1, h.2.1, h.2.2⟩
section
variable {env : Env} {x0 x1 x2 x3 x4 : Operand} {v0 v1 v2 v3 v4 : Value}
theorem args3 (h0 : ev env x0 = some v0) (h1 : ev env x1 = some v1) (h2 : ev env x2 = some v2) (ρ : Operand → Value) (hρ : ∀ x u, ev env x = some u → ρ x = u) : (#[x0, x1, x2] : Array Operand).map ρ = #[v0, v1, v2] := by simp [hρ x0 _ h0, hρ x1 _ h1, hρ x2 _ h2]
theorem args4 (h0 : ev env x0 = some v0) (h1 : ev env x1 = some v1) (h2 : ev env x2 = some v2) (h3 : ev env x3 = some v3) (ρ : Operand → Value) (hρ : ∀ x u, ev env x = some u → ρ x = u) : (#[x0, x1, x2, x3] : Array Operand).map ρ = #[v0, v1, v2, v3] := by simp [hρ x0 _ h0, hρ x1 _ h1, hρ x2 _ h2, hρ x3 _ h3]
end
abbrev pt (b : Nat) : Value := .pointer (some ⟨b, 0, none⟩)

/-! ### A run's data -/
structure RD where
  n : Nat
  calls : Int
  term : Int
  till : Nat
  pb : Nat → Nat
  po : Nat → Nat
  nm : Nat → ByteArray
  fl : Nat → Int
  ro : Nat → Bool
structure Nd where
  dn : Bool
  vt : Int
  dc : Int
abbrev NSt := Nat → Nd
def endOf (D : RD) (k : Nat) : Nat := if k = 0 then D.n + 1 else k + 1
def ncell (D : RD) (s : NSt) (i : Nat) : Value :=
  if i % 5 = 0 then .pointer (some ⟨D.pb (i / 5), D.po (i / 5), none⟩) else if i % 5 = 1 then .int .i64 (endOf D (i / 5)) else if i % 5 = 2 then .bool (s (i / 5)).dn else if i % 5 = 3 then .int .u8 (s (i / 5)).vt else .int .u8 (s (i / 5)).dc
def nrow (D : RD) (s : NSt) : Obj := row 92 (tab ((D.n + 1) * 5) (ncell D s))
def nsl (D : RD) (bN : Nat) : Value := .slice (some ⟨bN, 0, none⟩) (D.n + 1) (D.n + 1)
def rcells (D : RD) (bN : Nat) (cm : Bool) (x y : Int) : List Value := [.bool cm, .int .i64 x, .int .i64 y, .slice none 0 0, .nilFunc, nsl D bN, .bool false, .int .u8 0, .bool false, .int .i64 D.calls, .int .u8 D.term, .int .i64 D.till, .bool false]
def rrow (D : RD) (bN : Nat) (cm : Bool) (x y : Int) : Obj := row 88 (rcells D bN cm x y)
abbrev np (bN k : Nat) : Value := .pointer (some ⟨bN, 0 + k * 5, none⟩)
theorem nc0 (D : RD) (s : NSt) (k : Nat) : ncell D s (0 + k * 5 + 0) = .pointer (some ⟨D.pb k, D.po k, none⟩) := by
  have e1 : (0 + k * 5 + 0) % 5 = 0 := by omega
  have e2 : (0 + k * 5 + 0) / 5 = k := by omega
  simp only [ncell, e1, e2, if_true]
theorem nc1 (D : RD) (s : NSt) (k : Nat) : ncell D s (0 + k * 5 + 1) = .int .i64 (endOf D k) := by
  have e1 : (0 + k * 5 + 1) % 5 = 1 := by omega
  have e2 : (0 + k * 5 + 1) / 5 = k := by omega
  unfold ncell
  rw [e1, e2]
  rfl
theorem nc2 (D : RD) (s : NSt) (k : Nat) : ncell D s (0 + k * 5 + 2) = .bool (s k).dn := by
  have e1 : (0 + k * 5 + 2) % 5 = 2 := by omega
  have e2 : (0 + k * 5 + 2) / 5 = k := by omega
  unfold ncell
  rw [e1, e2]
  rfl
theorem nc3 (D : RD) (s : NSt) (k : Nat) : ncell D s (0 + k * 5 + 3) = .int .u8 (s k).vt := by
  have e1 : (0 + k * 5 + 3) % 5 = 3 := by omega
  have e2 : (0 + k * 5 + 3) / 5 = k := by omega
  unfold ncell
  rw [e1, e2]
  rfl
theorem nc4 (D : RD) (s : NSt) (k : Nat) : ncell D s (0 + k * 5 + 4) = .int .u8 (s k).dc := by
  have e1 : (0 + k * 5 + 4) % 5 = 4 := by omega
  have e2 : (0 + k * 5 + 4) / 5 = k := by omega
  unfold ncell
  rw [e1, e2]
  rfl
theorem ncellAt {w : World} {D : RD} {s : NSt} {bN o : Nat} (h : w.heap[bN]? = some (nrow D s)) (ho : o < (D.n + 1) * 5) : w.cell? ⟨bN, o, none⟩ = some (ncell D s o) := by
  have := tab_get (f := ncell D s) ho
  simp [World.cell?, h, nrow, row, this]
def setDn (s : NSt) (k : Nat) (b : Bool) : NSt := fun q => if q = k then { s q with dn := b } else s q
def setVt (s : NSt) (k : Nat) (v : Int) : NSt := fun q => if q = k then { s q with vt := v } else s q
def setDc (s : NSt) (k : Nat) (v : Int) : NSt := fun q => if q = k then { s q with dc := v } else s q
theorem ncell_split {D : RD} {s s' : NSt} {k r : Nat} (hr : r < 5) (v : Value) (hv : ncell D s' (0 + k * 5 + r) = v) (ho : ∀ q, q ≠ k → s' q = s q) (hs : ∀ r', r' < 5 → r' ≠ r → ncell D s' (0 + k * 5 + r') = ncell D s (0 + k * 5 + r')) : upd (ncell D s) (0 + k * 5 + r) v = ncell D s' := by
  funext i
  unfold upd
  by_cases e : i = 0 + k * 5 + r
  · rw [if_pos e, e, hv]
  · rw [if_neg e]
    by_cases hk : i / 5 = k
    · have hi : i = 0 + k * 5 + i % 5 := by omega
      rw [hi]
      exact (hs (i % 5) (by omega) (by omega)).symm
    · unfold ncell
      rw [ho _ hk]
theorem nset2 {D : RD} {s : NSt} {k : Nat} {b : Bool} (hk : k ≤ D.n) : (tab ((D.n + 1) * 5) (ncell D s)).set (0 + k * 5 + 2) (.bool b) = tab ((D.n + 1) * 5) (ncell D (setDn s k b)) := by
  rw [tab_set (by omega), ncell_split (s' := setDn s k b) (by decide) (.bool b) (by rw [nc2]; simp [setDn]) (fun q hq => by simp [setDn, hq])]
  intro r' h1 h2
  have hr : r' = 0 ∨ r' = 1 ∨ r' = 3 ∨ r' = 4 := by omega
  rcases hr with rfl | rfl | rfl | rfl
  · rw [nc0, nc0]
  · rw [nc1, nc1]
  · rw [nc3, nc3]; simp [setDn]
  · rw [nc4, nc4]; simp [setDn]
theorem nset3 {D : RD} {s : NSt} {k : Nat} {v : Int} (hk : k ≤ D.n) : (tab ((D.n + 1) * 5) (ncell D s)).set (0 + k * 5 + 3) (.int .u8 v) = tab ((D.n + 1) * 5) (ncell D (setVt s k v)) := by
  rw [tab_set (by omega), ncell_split (s' := setVt s k v) (by decide) (.int .u8 v) (by rw [nc3]; simp [setVt]) (fun q hq => by simp [setVt, hq])]
  intro r' h1 h2
  have hr : r' = 0 ∨ r' = 1 ∨ r' = 2 ∨ r' = 4 := by omega
  rcases hr with rfl | rfl | rfl | rfl
  · rw [nc0, nc0]
  · rw [nc1, nc1]
  · rw [nc2, nc2]; simp [setVt]
  · rw [nc4, nc4]; simp [setVt]
theorem nset4 {D : RD} {s : NSt} {k : Nat} {v : Int} (hk : k ≤ D.n) : (tab ((D.n + 1) * 5) (ncell D s)).set (0 + k * 5 + 4) (.int .u8 v) = tab ((D.n + 1) * 5) (ncell D (setDc s k v)) := by
  rw [tab_set (by omega), ncell_split (s' := setDc s k v) (by decide) (.int .u8 v) (by rw [nc4]; simp [setDc]) (fun q hq => by simp [setDc, hq])]
  intro r' h1 h2
  have hr : r' = 0 ∨ r' = 1 ∨ r' = 2 ∨ r' = 3 := by omega
  rcases hr with rfl | rfl | rfl | rfl
  · rw [nc0, nc0]
  · rw [nc1, nc1]
  · rw [nc2, nc2]; simp [setDc]
  · rw [nc3, nc3]; simp [setDc]
/-- The participants stand behind the nodes' pointers. -/
structure Ps (D : RD) (w : World) (B : List Nat) : Prop where
  nm : ∀ k, k ≤ D.n → w.cell? ⟨D.pb k, D.po k + 0, none⟩ = some (.string (D.nm k))
  fl : ∀ k, k ≤ D.n → w.cell? ⟨D.pb k, D.po k + 1, none⟩ = some (.int .u8 (D.fl k))
  ro : ∀ k, k ≤ D.n → w.cell? ⟨D.pb k, D.po k + 2, none⟩ = some (.bool (D.ro k))
  out : ∀ k, k ≤ D.n → D.pb k ∉ B
theorem Ps.of_Mm {D : RD} {w0 w : World} {B F : List Nat} {m : List Blk} (h : Ps D w0 B) (hM : Mm w0 F m w) (hF : ∀ b ∈ F, b ∈ B) : Ps D w B :=
  ⟨fun k hk => Mm.oldCell hM (fun e => h.out k hk (hF _ e)) (h.nm k hk), fun k hk => Mm.oldCell hM (fun e => h.out k hk (hF _ e)) (h.fl k hk), fun k hk => Mm.oldCell hM (fun e => h.out k hk (hF _ e)) (h.ro k hk), h.out⟩

/-! ### The small functions -/
/-- Record.message -/
def msgOf (d : Int) : Int := if d = 3 then 4 else 5
theorem call38 (d : Int) (w : World) : Calls Yba.prog 38 #[.int .u8 d] w fun e w' => e = .returned (.int .u8 (msgOf d)) ∧ Mm w [] [] w' := by
  refine Calls.of_SC (args := [.int .u8 d]) Yba.func38 rfl (by simp [Yba.f38]) (Mm.start w) ?_
  refine SC.seq ?_
  refine SC.region ?_
  refine SL.y (OV.assign rfl) rfl ?_
  refine SL.nil ?_
  refine SC.then ?_
  refine SC.seq ?_
  refine SC.seq ?_
  refine SC.region ?_
  refine SL.y (OV.move rfl) rfl ?_
  refine SL.y (OV.eql rfl rfl) rfl ?_
  refine SL.nil ?_
  refine SC.then ?_
  refine SC.condP rfl (fun h => ?_) (fun h => ?_)
  · skip
    refine SC.seq ?_
    refine SC.region ?_
    refine SL.y (OV.assign rfl) rfl ?_
    refine SL.nil ?_
    refine SC.then ?_
    refine SC.ret ?_
    repeat (first | refine SE.blockR ?_ | refine SE.thenR ?_)
    exact SE.ret1 Yba.results38 rfl (fun w' hM => ⟨by unfold msgOf; rw [if_pos h], hM⟩)
  · refine SC.skip ?_
    refine SC.then ?_
    refine SC.seq ?_
    refine SC.region ?_
    refine SL.y (OV.assign rfl) rfl ?_
    refine SL.nil ?_
    refine SC.then ?_
    refine SC.ret ?_
    exact SE.ret1 Yba.results38 rfl (fun w' hM => ⟨by unfold msgOf; rw [if_neg h], hM⟩)
theorem pf38 : plainFunc Yba.prog 38 = true := by kernel_rfl
/-- node.dropped -/
theorem call25 {w : World} {b o : Nat} {vt : Int} (h3 : w.cell? ⟨b, o + 3, none⟩ = some (.int .u8 vt)) : Calls Yba.prog 25 #[.pointer (some ⟨b, o, none⟩)] w fun e w' => e = .returned (.bool (decide (vt = 7))) ∧ Mm w [] [] w' := by
  refine Calls.of_SC (args := [.pointer (some ⟨b, o, none⟩)]) Yba.func25 rfl (by simp [Yba.f25]) (Mm.start w) ?_
  refine SC.seq ?_
  refine SC.region ?_
  refine SL.y (OV.assign rfl) rfl ?_
  refine SL.nil ?_
  refine SC.then ?_
  refine SC.seq ?_
  refine SC.region ?_
  refine SL.y (OV.move rfl) rfl ?_
  refine SL.y (OV.nilCheck rfl) rfl ?_
  refine SL.y (OV.fld fo92_3 rfl) rfl ?_
  refine SL.y (OV.loadOld sc42 rfl (by simp) h3) rfl ?_
  refine SL.y (OV.eql rfl rfl) rfl ?_
  refine SL.y (OV.assign rfl) rfl ?_
  refine SL.nil ?_
  refine SC.then ?_
  refine SC.ret ?_
  exact SE.ret1 Yba.results25 rfl (fun w' hM => ⟨rfl, hM⟩)
theorem pf25 : plainFunc Yba.prog 25 = true := by kernel_rfl
/-- node.agreed -/
theorem call35 {w : World} {b o : Nat} {vt : Int} (h3 : w.cell? ⟨b, o + 3, none⟩ = some (.int .u8 vt)) : Calls Yba.prog 35 #[.pointer (some ⟨b, o, none⟩)] w fun e w' => e = .returned (.bool (decide (vt = 2 ∨ vt = 7))) ∧ Mm w [] [] w' := by
  refine Calls.of_SC (args := [.pointer (some ⟨b, o, none⟩)]) Yba.func35 rfl (by simp [Yba.f35]) (Mm.start w) ?_
  refine SC.seq ?_
  refine SC.region ?_
  refine SL.y (OV.assign rfl) rfl ?_
  refine SL.nil ?_
  refine SC.then ?_
  by_cases hv : vt = 2
  · skip
    refine SC.seq ?_
    refine SC.region ?_
    refine SL.y (OV.move rfl) rfl ?_
    refine SL.y (OV.nilCheck rfl) rfl ?_
    refine SL.y (OV.fld fo92_3 rfl) rfl ?_
    refine SL.y (OV.loadOld sc42 rfl (by simp) h3) rfl ?_
    refine SL.y ((OV.eql rfl rfl).yes hv) rfl ?_
    refine SL.y (OV.move rfl) rfl ?_
    refine SL.skip rfl rfl rfl ?_
    refine SL.skip rfl rfl rfl ?_
    refine SL.skip rfl rfl rfl ?_
    refine SL.skip rfl rfl rfl ?_
    refine SL.skip rfl rfl rfl ?_
    refine SL.y (OV.pickT rfl rfl) rfl ?_
    refine SL.y (OV.assign rfl) rfl ?_
    refine SL.nil ?_
    refine SC.then ?_
    refine SC.ret ?_
    exact SE.ret1 Yba.results35 rfl (fun w' hM => ⟨by simp [hv], hM⟩)
  · skip
    refine SC.seq ?_
    refine SC.region ?_
    refine SL.y (OV.move rfl) rfl ?_
    refine SL.y (OV.nilCheck rfl) rfl ?_
    refine SL.y (OV.fld fo92_3 rfl) rfl ?_
    refine SL.y (OV.loadOld sc42 rfl (by simp) h3) rfl ?_
    refine SL.y ((OV.eql rfl rfl).no hv) rfl ?_
    refine SL.y (OV.move rfl) rfl ?_
    refine SL.yg rfl rfl (OV.move rfl) rfl ?_
    refine SL.yg rfl rfl (OV.nilCheck rfl) rfl ?_
    refine SL.yg rfl rfl (OV.fld fo92_3 rfl) rfl ?_
    refine SL.yg rfl rfl (OV.loadOld sc42 rfl (by simp) h3) rfl ?_
    refine SL.yg rfl rfl (OV.eql rfl rfl) rfl ?_
    refine SL.y (OV.pickF rfl rfl) rfl ?_
    refine SL.y (OV.assign rfl) rfl ?_
    refine SL.nil ?_
    refine SC.then ?_
    refine SC.ret ?_
    exact SE.ret1 Yba.results35 rfl (fun w' hM => ⟨by simp [hv], hM⟩)
theorem pf35 : plainFunc Yba.prog 35 = true := by kernel_rfl
/-- node.state -/
def stateOf (vt dc : Int) : Int := if dc ≠ 0 then msgOf dc else if vt = 3 then 5 else if vt = 2 then 2 else 9
theorem call26 {w : World} {b o : Nat} {vt dc : Int} (h3 : w.cell? ⟨b, o + 3, none⟩ = some (.int .u8 vt)) (h4 : w.cell? ⟨b, o + 4, none⟩ = some (.int .u8 dc)) : Calls Yba.prog 26 #[.pointer (some ⟨b, o, none⟩)] w fun e w' => e = .returned (.int .u8 (stateOf vt dc)) ∧ Mm w [] [] w' := by
  refine Calls.of_SC (args := [.pointer (some ⟨b, o, none⟩)]) Yba.func26 rfl (by simp [Yba.f26]) (Mm.start w) ?_
  refine SC.seq ?_
  refine SC.region ?_
  refine SL.y (OV.assign rfl) rfl ?_
  refine SL.nil ?_
  refine SC.then ?_
  refine SC.seq ?_
  refine SC.block ?_
  refine SC.seq ?_
  refine SC.region ?_
  refine SL.y (OV.move rfl) rfl ?_
  refine SL.y (OV.nilCheck rfl) rfl ?_
  refine SL.y (OV.fld fo92_4 rfl) rfl ?_
  refine SL.y (OV.loadOld sc90 rfl (by simp) h4) rfl ?_
  refine SL.y (OV.neq rfl rfl) rfl ?_
  refine SL.y (OV.assign rfl) rfl ?_
  refine SL.nil ?_
  refine SC.then ?_
  refine SC.condP rfl (fun hd => ?_) (fun hd => ?_)
  · skip
    refine SC.seq ?_
    refine SC.region ?_
    refine SL.y (OV.move rfl) rfl ?_
    refine SL.y (OV.nilCheck rfl) rfl ?_
    refine SL.y (OV.fld fo92_4 rfl) rfl ?_
    refine SL.y (OV.loadOld sc90 rfl (by simp) h4) rfl ?_
    refine SL.callQ pf38 (args1 rfl) (fun w hM => call38 _ w) rfl ?_
    refine SL.y (OV.assign rfl) rfl ?_
    refine SL.nil ?_
    refine SC.then ?_
    refine SC.ret ?_
    repeat (first | refine SE.blockR ?_ | refine SE.thenR ?_)
    exact SE.ret1 Yba.results26 rfl (fun w' hM => ⟨by unfold stateOf; rw [if_pos hd], hM⟩)
  · skip
    refine SC.seq ?_
    refine SC.region ?_
    refine SL.y (OV.move rfl) rfl ?_
    refine SL.y (OV.nilCheck rfl) rfl ?_
    refine SL.y (OV.fld fo92_3 rfl) rfl ?_
    refine SL.y (OV.loadOld sc42 rfl (by simp) h3) rfl ?_
    refine SL.y (OV.eql rfl rfl) rfl ?_
    refine SL.y (OV.assign rfl) rfl ?_
    refine SL.nil ?_
    refine SC.then ?_
    refine SC.condP rfl (fun hv => ?_) (fun hv => ?_)
    · skip
      refine SC.seq ?_
      refine SC.region ?_
      refine SL.y (OV.assign rfl) rfl ?_
      refine SL.nil ?_
      refine SC.then ?_
      refine SC.ret ?_
      repeat (first | refine SE.blockR ?_ | refine SE.thenR ?_)
      exact SE.ret1 Yba.results26 rfl (fun w' hM => ⟨by unfold stateOf; rw [if_neg hd, if_pos hv], hM⟩)
    · skip
      refine SC.seq ?_
      refine SC.region ?_
      refine SL.y (OV.move rfl) rfl ?_
      refine SL.y (OV.nilCheck rfl) rfl ?_
      refine SL.y (OV.fld fo92_3 rfl) rfl ?_
      refine SL.y (OV.loadOld sc42 rfl (by simp) h3) rfl ?_
      refine SL.y (OV.eql rfl rfl) rfl ?_
      refine SL.y (OV.assign rfl) rfl ?_
      refine SL.nil ?_
      refine SC.then ?_
      refine SC.condP rfl (fun hv2 => ?_) (fun hv2 => ?_)
      · skip
        refine SC.seq ?_
        refine SC.region ?_
        refine SL.y (OV.assign rfl) rfl ?_
        refine SL.nil ?_
        refine SC.then ?_
        refine SC.ret ?_
        repeat (first | refine SE.blockR ?_ | refine SE.thenR ?_)
        exact SE.ret1 Yba.results26 rfl (fun w' hM => ⟨by unfold stateOf; rw [if_neg hd, if_neg hv, if_pos hv2], hM⟩)
      · refine SC.skip ?_
        refine SE.nb ?_
        refine SC.then ?_
        refine SC.seq ?_
        refine SC.region ?_
        refine SL.y (OV.assign rfl) rfl ?_
        refine SL.nil ?_
        refine SC.then ?_
        refine SC.ret ?_
        exact SE.ret1 Yba.results26 rfl (fun w' hM => ⟨by unfold stateOf; rw [if_neg hd, if_neg hv, if_neg hv2], hM⟩)
theorem pf26 : plainFunc Yba.prog 26 = true := by kernel_rfl
/-- node.reply -/
def replyOf (d : Nd) : Int := if d.dn = true ∨ d.vt = 7 then 0 else stateOf d.vt d.dc
theorem call18 {w : World} {b o : Nat} {d : Nd} (h2 : w.cell? ⟨b, o + 2, none⟩ = some (.bool d.dn)) (h3 : w.cell? ⟨b, o + 3, none⟩ = some (.int .u8 d.vt)) (h4 : w.cell? ⟨b, o + 4, none⟩ = some (.int .u8 d.dc)) : Calls Yba.prog 18 #[.pointer (some ⟨b, o, none⟩)] w fun e w' => e = .returned (.int .u8 (replyOf d)) ∧ Mm w [] [] w' := by
  refine Calls.of_SC (args := [.pointer (some ⟨b, o, none⟩)]) Yba.func18 rfl (by simp [Yba.f18]) (Mm.start w) ?_
  refine SC.seq ?_
  refine SC.region ?_
  refine SL.y (OV.assign rfl) rfl ?_
  refine SL.nil ?_
  refine SC.then ?_
  refine SC.seq ?_
  cases hdn : d.dn with
  | true =>
    rw [hdn] at h2
    refine SC.seq ?_
    refine SC.region ?_
    refine SL.y (OV.move rfl) rfl ?_
    refine SL.y (OV.nilCheck rfl) rfl ?_
    refine SL.y (OV.fld fo92_2 rfl) rfl ?_
    refine SL.y (OV.loadOld sc4 rfl (by simp) h2) rfl ?_
    refine SL.y (OV.move rfl) rfl ?_
    refine SL.skip rfl rfl rfl ?_
    refine SL.skip rfl rfl rfl ?_
    refine SL.y (OV.pickT rfl rfl) rfl ?_
    refine SL.nil ?_
    refine SC.then ?_
    refine SC.cond rfl (fun _ => ?_) (fun e => by cases e)
    refine SC.seq ?_
    refine SC.region ?_
    refine SL.y (OV.assign rfl) rfl ?_
    refine SL.nil ?_
    refine SC.then ?_
    refine SC.ret ?_
    repeat (first | refine SE.blockR ?_ | refine SE.thenR ?_)
    exact SE.ret1 Yba.results18 rfl (fun w' hM => ⟨by unfold replyOf; rw [if_pos (.inl hdn)], hM⟩)
  | false =>
    rw [hdn] at h2
    refine SC.seq ?_
    refine SC.region ?_
    refine SL.y (OV.move rfl) rfl ?_
    refine SL.y (OV.nilCheck rfl) rfl ?_
    refine SL.y (OV.fld fo92_2 rfl) rfl ?_
    refine SL.y (OV.loadOld sc4 rfl (by simp) h2) rfl ?_
    refine SL.y (OV.move rfl) rfl ?_
    refine SL.yg rfl rfl (OV.move rfl) rfl ?_
    refine SL.callQg rfl rfl pf25 (args1 rfl) (fun w hM => call25 (Mm.oldCell hM (by simp) h3)) rfl ?_
    refine SL.y (OV.pickF rfl rfl) rfl ?_
    refine SL.nil ?_
    refine SC.then ?_
    refine SC.condP rfl (fun h7 => ?_) (fun h7 => ?_)
    · skip
      refine SC.seq ?_
      refine SC.region ?_
      refine SL.y (OV.assign rfl) rfl ?_
      refine SL.nil ?_
      refine SC.then ?_
      refine SC.ret ?_
      repeat (first | refine SE.blockR ?_ | refine SE.thenR ?_)
      exact SE.ret1 Yba.results18 rfl (fun w' hM => ⟨by unfold replyOf; rw [if_pos (.inr h7)], hM⟩)
    · refine SC.skip ?_
      refine SC.then ?_
      refine SC.seq ?_
      refine SC.region ?_
      refine SL.y (OV.move rfl) rfl ?_
      refine SL.callQ pf26 (args1 rfl) (fun w hM => call26 (Mm.oldCell hM (by simp) h3) (Mm.oldCell hM (by simp) h4)) rfl ?_
      refine SL.y (OV.assign rfl) rfl ?_
      refine SL.nil ?_
      refine SC.then ?_
      refine SC.ret ?_
      exact SE.ret1 Yba.results18 rfl (fun w' hM => ⟨by unfold replyOf; rw [if_neg (by rw [hdn]; simp [h7])], hM⟩)
theorem pf18 : plainFunc Yba.prog 18 = true := by kernel_rfl
end Go.Proofs.Ybulkdrci.A
