import Derived.Test.YbulkdrdyTypes
import Derived.Test.YbulkdrdyOps5
namespace Go.Proofs.Ybulkdrdy
open Go Go.RowKit Go.Proofs.Ybulkdrdy.Sym
set_option linter.unusedVariables false
set_option linter.unusedSimpArgs false

def bSaid : ByteArray := ⟨#[115, 97, 105, 100]⟩
/-- One finding. -/
structure Fd where
  (v : Int)
  (same : ByteArray)
def Fd.cells (f : Fd) : List Value := [.iface 2 (.int .i64 f.v), .string f.same, .string bSaid]
theorem Fd.cells_one (f : Fd) : ∀ u ∈ f.cells, u.oneCell' = true := by unfold Fd.cells; simp [Value.oneCell']
def fcells (l : List Fd) : List Value := l.flatMap Fd.cells
theorem fcells_len (l : List Fd) : (fcells l).length = l.length * 3 := by
  induction l with
  | nil => rfl
  | cons a r ih =>
    have : fcells (a :: r) = a.cells ++ fcells r := rfl
    rw [this, List.length_append, ih]
    show 3 + _ = _
    simp only [List.length_cons]; omega
theorem fcells_snoc (l : List Fd) (f : Fd) : fcells (l ++ [f]) = fcells l ++ f.cells := by simp [fcells]
theorem fcells_one (l : List Fd) : ∀ u ∈ fcells l, u.oneCell' = true := by
  intro u hu
  simp only [fcells, List.mem_flatMap] at hu
  obtain ⟨f, _, h⟩ := hu
  exact f.cells_one u h
theorem fcells_at (l : List Fd) (k : Nat) (hk : k < l.length) (q : Nat) (v : Value) (h : l[k].cells[q]? = some v) : (fcells l)[0 + k * 3 + q]? = some v := by
  have hq : q < 3 := (List.getElem?_eq_some_iff.1 h).1
  induction l generalizing k with
  | nil => simp at hk
  | cons a r ih =>
    have e : fcells (a :: r) = a.cells ++ fcells r := rfl
    rw [e]
    cases k with
    | zero =>
      simp only [List.getElem_cons_zero] at h
      rw [List.getElem?_append_left (by show _ < 3; omega), Nat.zero_mul, Nat.add_zero, Nat.zero_add]
      exact h
    | succ k =>
      simp only [List.getElem_cons_succ] at h
      have hk' : k < r.length := by simpa using hk
      have := ih k hk' h
      rw [List.getElem?_append_right (by show 3 ≤ _; omega)]
      have e2 : 0 + (k + 1) * 3 + q - a.cells.length = 0 + k * 3 + q := by show _ - 3 = _; omega
      rw [e2]; exact this

/-- A slice of findings that is there. -/
structure GS where
  (blk cap : Nat)
  (items : List Fd)
  (sp : List Value)
def GS.val (g : GS) : Value := .slice (some ⟨g.blk, 0, none⟩) g.items.length g.cap
def GS.obj (g : GS) : Obj := row 34 (fcells g.items ++ g.sp)
structure GS.Ok (g : GS) : Prop where
  ne : g.items ≠ []
  cap : g.cap ≤ maxLen
  len : (fcells g.items).length + g.sp.length = g.cap * 3
def oval : Option GS → Value
  | none => .slice none 0 0
  | some g => g.val
def omem : Option GS → List Blk
  | none => []
  | some g => [(g.blk, g.obj)]
def oitems : Option GS → List Fd
  | none => []
  | some g => g.items
def OOk : Option GS → Prop
  | none => True
  | some g => g.Ok

/-- What a world holds behind a slice of findings. -/
def RdO (w : World) (a : Option Addr) (n : Nat) (it : Nat → Fd) : Prop := ∀ k, k < n → ∃ b, a = some ⟨b, 0, none⟩ ∧ ∀ q v, (it k).cells[q]? = some v → w.cell? ⟨b, 0 + k * 3 + q, none⟩ = some v

theorem info34 : (Yba.prog.info? 34).map (fun i => (i.zero, i.size, i.bytes)) = some (some (.agg #[.nilIface, .string ⟨#[]⟩, .string ⟨#[]⟩]), 3, 48) := by kernel_rfl
theorem info30 : (Yba.prog.info? 30).map (fun i => (i.zero, i.size, i.bytes)) = some (some (.slice none 0 0), 1, 24) := by kernel_rfl
theorem info4 : (Yba.prog.info? 4).map (fun i => (i.zero, i.size, i.bytes)) = some (some (.bool false), 1, 1) := by kernel_rfl
theorem info_parts {P : Program} {e : TypeId} {z : Value} {s b : Nat} (h : (P.info? e).map (fun i => (i.zero, i.size, i.bytes)) = some (some z, s, b)) : ∃ i, P.info? e = some i ∧ i.zero = some z ∧ i.size = s ∧ i.bytes = b := by
  cases hi : P.info? e with
  | none => simp [hi] at h
  | some i => simp [hi] at h; exact ⟨i, rfl, h.1, h.2.1, h.2.2⟩
theorem ag34 : scalar Yba.prog 34 = false := by kernel_rfl
theorem us34 : (Yba.prog.underlying 34).isSome = true := by kernel_rfl
theorem u25 : Yba.prog.underlying 25 = some (.map 9 30) := by kernel_rfl
theorem u41 : Yba.prog.underlying 41 = some (.map 9 4) := by kernel_rfl
theorem guard34 : Yba.prog.eqGuardType Yba.prog.depth 34 = false := by kernel_rfl
theorem eqIn_int {P : Program} {d : Nat} (w : World) {T : TypeId} {k' : IntKind} (h : P.underlying T = some (.int k')) (k : IntKind) (a b : Int) : (Op.equalIn (d + 1) T (.int k a) (.int k b)).run P w = .ok (a == b) w := by
  simp [Op.equalIn, run_underlying h]
theorem eqIn_string {P : Program} {d : Nat} (w : World) {T : TypeId} (h : P.underlying T = some .string) (a b : ByteArray) : (Op.equalIn (d + 1) T (.string a) (.string b)).run P w = .ok (decide (a = b)) w := by
  rw [← bytes_beq]
  simp [Op.equalIn, run_underlying h]
  rw [← beq_toListBytes]
theorem comp2 : (Yba.prog.info? 2).map (·.comparable) = some true := by kernel_rfl
theorem iface20 : ∃ ms, Yba.prog.underlying 20 = some (.interface ms) := ⟨_, Yba.underlying20⟩
theorem eqIn_iface {d : Nat} (w : World) (a b : Int) : (Op.equalIn (d + 2) 20 (.iface 2 (.int .i64 a)) (.iface 2 (.int .i64 b))).run Yba.prog w = .ok (a == b) w := by
  obtain ⟨ms, hu⟩ := iface20
  have h2 := comp2
  cases hi : Yba.prog.info? 2 with
  | none => simp [hi] at h2
  | some i =>
    simp [hi] at h2
    have e := eqIn_int (d := d) w u2 .i64 a b
    unfold Op.equalIn
    simp [run_underlying hu, typeInfo, hi, h2, e]
theorem opEq34 (f : Fd) (w : World) : (Op.equal 34 (.agg f.cells.toArray) (.agg f.cells.toArray)).run Yba.prog w = .ok true w := by
  obtain ⟨a, s⟩ := f
  show (Op.equal 34 (.agg #[.iface 2 (.int .i64 a), .string s, .string bSaid]) (.agg #[.iface 2 (.int .i64 a), .string s, .string bSaid])).run Yba.prog w = .ok true w
  have h := run_equalIn_struct (P := Yba.prog) w 9999 34 #[.iface 2 (.int .i64 a), .string s, .string bSaid] #[.iface 2 (.int .i64 a), .string s, .string bSaid] (by kernel_rfl) (by kernel_rfl)
  have hf : (Yba.prog.fieldsOf 34).toList.map (fun f => (f.name, f.type, f.offset)) = [("value", 20, 0), ("same", 9, 1), ("said", 9, 2)] := by kernel_rfl
  unfold Op.equal Op.maxDepth
  rw [h]
  simp only [List.map_eq_cons_iff, List.map_eq_nil_iff] at hf
  obtain ⟨f0, _, hL, h0, f1, _, rfl, h1, f2, _, rfl, h2, rfl⟩ := hf
  simp only [Prod.mk.injEq] at h0 h1 h2
  obtain ⟨a0, a1, a2⟩ := h0
  obtain ⟨b0, b1, b2⟩ := h1
  obtain ⟨c0, c1, c2⟩ := h2
  rw [hL]
  obtain ⟨ms, hu⟩ := iface20
  have e0 := eqIn_iface (d := 9997) w a a
  have e1 := eqIn_string (P := Yba.prog) (d := 9998) w u9 s s
  have e2 := eqIn_string (P := Yba.prog) (d := 9998) w u9 bSaid bSaid
  simp only [Nat.reduceAdd] at e0 e1 e2
  simp [Op.eqFields, a0, a1, a2, b0, b1, b2, c0, c1, c2, part, isAgg, run_underlying hu, run_underlying u9, e0, e1, e2]
theorem opEqI (a : Int) (w : World) : (Op.equal 20 (.iface 2 (.int .i64 a)) (.iface 2 (.int .i64 a))).run Yba.prog w = .ok true w := by
  have e0 := eqIn_iface (d := 9998) w a a
  unfold Op.equal Op.maxDepth
  rw [e0]
  simp

theorem fill34 (a b c : Value) (ha : a.cells = #[a] := by rfl) : Instr.fill (fun i => some (i * 3, 3)) ((Array.range (1 * 3)).map ((Value.agg #[.nilIface, .string ⟨#[]⟩, .string ⟨#[]⟩]).cells[· % (Value.agg #[.nilIface, .string ⟨#[]⟩, .string ⟨#[]⟩]).cells.size]!)) [(0, .agg #[a, b, c])] = some #[a, b, c] := by kernel_rfl
theorem parts1 {env : Env} {x : Operand} {v : Value} {i : Nat} (h : ev env x = some v) (ρ : Operand → Value) (hρ : ∀ x u, ev env x = some u → ρ x = u) : (#[(i, x)] : Array (Nat × Operand)).map (fun p => (p.1, ρ p.2)) = [(i, v)].toArray := by simp [hρ x v h]

/-! ### The findings of a slice, cell by cell, by a function -/
def fcell (it : Nat → Fd) (q : Nat) : Value := if q % 3 = 0 then .iface 2 (.int .i64 (it (q / 3)).v) else if q % 3 = 1 then .string (it (q / 3)).same else .string bSaid
def fzero (q : Nat) : Value := if q % 3 = 0 then .nilIface else .string ⟨#[]⟩
def ffill (it : Nat → Fd) (k q : Nat) : Value := if q < k * 3 then fcell it q else fzero q
theorem ffill_step (it : Nat → Fd) (k q : Nat) : (if q = 0 + k * 3 then Value.iface 2 (.int .i64 (it k).v) else if q = 0 + k * 3 + 1 then .string (it k).same else if q = 0 + k * 3 + 2 then .string bSaid else ffill it k q) = ffill it (k + 1) q := by
  unfold ffill fcell
  by_cases h0 : q = 0 + k * 3
  · have e1 : q / 3 = k := by omega
    have e2 : q % 3 = 0 := by omega
    rw [if_pos h0, if_pos (by omega), if_pos e2, e1]
  · rw [if_neg h0]
    by_cases h1 : q = 0 + k * 3 + 1
    · have e1 : q / 3 = k := by omega
      have e2 : q % 3 = 1 := by omega
      rw [if_pos h1, if_pos (by omega), if_neg (by omega), if_pos e2, e1]
    · rw [if_neg h1]
      by_cases h2 : q = 0 + k * 3 + 2
      · rw [if_pos h2, if_pos (by omega), if_neg (by omega), if_neg (by omega)]
      · rw [if_neg h2]
        by_cases h3 : q < k * 3
        · rw [if_pos h3, if_pos (show q < (k + 1) * 3 by omega)]
        · rw [if_neg h3, if_neg (show ¬ q < (k + 1) * 3 by omega)]
theorem fmade (it : Nat → Fd) (n : Nat) : (madeCells #[Value.nilIface, .string ⟨#[]⟩, .string ⟨#[]⟩] (n * 3)).toList = tab (n * 3) (ffill it 0) := by
  refine madeCells_tab _ _ _ fun q hq => ?_
  unfold ffill fzero
  rw [if_neg (by omega)]
  have h3 : q % 3 < 3 := Nat.mod_lt _ (by decide)
  show (#[Value.nilIface, .string ⟨#[]⟩, .string ⟨#[]⟩] : Array Value)[q % 3]! = _
  generalize q % 3 = r at *
  match r, h3 with
  | 0, _ => rfl
  | 1, _ => rfl
  | 2, _ => rfl
theorem ffull (it : Nat → Fd) (n : Nat) : tab (n * 3) (ffill it n) = tab (n * 3) (fcell it) := tab_congr fun q hq => by unfold ffill; rw [if_pos hq]
theorem fcell_at (it : Nat → Fd) (k r : Nat) (v : Value) (h : (it k).cells[r]? = some v) : r < 3 ∧ fcell it (0 + k * 3 + r) = v := by
  have hr : r < 3 := (List.getElem?_eq_some_iff.1 h).1
  refine ⟨hr, ?_⟩
  unfold fcell
  have ed : (0 + k * 3 + r) / 3 = k := by omega
  rw [ed]
  match r, hr with
  | 0, _ =>
    have e : v = .iface 2 (.int .i64 (it k).v) := by simpa [Fd.cells] using h.symm
    rw [if_pos (by omega), e]
  | 1, _ =>
    have e : v = .string (it k).same := by simpa [Fd.cells] using h.symm
    rw [if_neg (by omega), if_pos (by omega), e]
  | 2, _ =>
    have e : v = .string bSaid := by simpa [Fd.cells] using h.symm
    rw [if_neg (by omega), if_neg (by omega), e]

/-- zzs5900ceq of two slices that hold the same. -/
theorem call6 {w : World} {a1 a2 : Option Addr} {n c1 c2 : Nat} {it : Nat → Fd} (hn : n ≤ 2000000) (h1 : RdO w a1 n it) (h2 : RdO w a2 n it) :
    Calls Yba.prog 6 #[.slice a1 n c1, .slice a2 n c2] w fun e w' => e = .returned (.bool true) ∧ Mm w [] [] w' := by
  obtain ⟨i, hi, hz0, hz1, hz2⟩ := info_parts info34
  refine Calls.of_SC (args := [.slice a1 n c1, .slice a2 n c2]) Yba.func6 rfl (by simp [Yba.f6]) (Mm.start w) ?_
  refine SC.seq ?_
  refine SC.region ?_
  refine SL.y (OV.assign rfl) rfl ?_
  refine SL.nil ?_
  refine SC.then ?_
  refine SC.seq ?_
  refine SC.seq ?_
  refine SC.region ?_
  refine SL.y (OV.move rfl) rfl ?_
  refine SL.y (OV.len u30 rfl) rfl ?_
  refine SL.y (OV.move rfl) rfl ?_
  refine SL.y (OV.len u30 rfl) rfl ?_
  refine SL.y (OV.neq rfl rfl) rfl ?_
  refine SL.nil ?_
  refine SC.then ?_
  refine SC.condP rfl (fun h => absurd rfl h) (fun _ => ?_)
  refine SC.skip ?_
  refine SC.then ?_
  refine SC.seq ?_
  refine SC.seq ?_
  refine SC.region ?_
  refine SL.y (OV.assign rfl) rfl ?_
  refine SL.nil ?_
  refine SC.then ?_
  refine SC.block ?_
  refine SC.loop (fun k : Nat => [(0, .slice a1 n c1), (1, .slice a2 n c2), (5, .int .i64 k)]) (fun _ => []) (fun k => k ≤ n) (fun k => n - k) 0 (Nat.zero_le _) (by repeat' (first | exact trivial | refine ⟨rfl, ?_⟩)) (List.Sublist.refl _) ?_
  intro k hk
  refine SC.seq ?_
  refine SC.seq ?_
  refine SC.region ?_
  refine SL.y (OV.move rfl) rfl ?_
  refine SL.y (OV.move rfl) rfl ?_
  refine SL.y (OV.len u30 rfl) rfl ?_
  refine SL.y (OV.lss rfl rfl) rfl ?_
  refine SL.nil ?_
  refine SC.then ?_
  refine SC.condP rfl (fun hlt => ?_) (fun hge => ?_)
  · have hlt' : k < n := by omega
    obtain ⟨b1, rfl, g1⟩ := h1 k hlt'
    obtain ⟨b2, rfl, g2⟩ := h2 k hlt'
    refine SC.skip ?_
    refine SC.then ?_
    refine SC.seq ?_
    refine SC.block ?_
    refine SC.seq ?_
    refine SC.quiet mixed (by kernel_rfl) ?_
    refine SQ.y (OV.move rfl) rfl ?_
    refine SQ.y (OV.move rfl) rfl ?_
    refine SQ.y (OV.idx k u30 hi hz1 rfl rfl rfl (by omega)) rfl ?_
    refine SQ.y (OV.loadAggOld (vs := (it k).cells) ag34 us34 hi rfl (by simp) (by rw [hz1]; rfl) g1) rfl ?_
    refine SQ.y (OV.move rfl) rfl ?_
    refine SQ.y (OV.move rfl) rfl ?_
    refine SQ.y (OV.idx k u30 hi hz1 rfl rfl rfl (by omega)) rfl ?_
    refine SQ.y (OV.loadAggOld (vs := (it k).cells) ag34 us34 hi rfl (by simp) (by rw [hz1]; rfl) g2) rfl ?_
    refine SQ.y (OV.neqAgg guard34 rfl rfl (opEq34 (it k))) rfl ?_
    refine SQ.nil ?_
    refine SC.then ?_
    refine SC.condF rfl ?_
    refine SC.skip ?_
    refine SE.nb ?_
    refine SC.then ?_
    refine SC.region ?_
    refine SL.y (OV.move rfl) rfl ?_
    refine SL.y (OV.add rfl rfl (wrap_i64 (by omega) (by omega))) rfl ?_
    refine SL.y (OV.assign rfl) rfl ?_
    refine SL.nil ?_
    exact SE.round (k + 1) (by omega) (by omega) (by repeat' (first | exact trivial | refine ⟨rfl, ?_⟩)) (List.Sublist.refl _)
  · refine SC.exit ?_
    refine SE.thenE (SE.thenE (SE.inBlock ?_))
    refine SC.then ?_
    refine SC.seq ?_
    refine SC.region ?_
    refine SL.y (OV.assign rfl) rfl ?_
    refine SL.nil ?_
    refine SC.then ?_
    refine SC.ret ?_
    exact SE.ret1 Yba.results6 rfl (fun w' hM => ⟨rfl, hM⟩)

/-- zzs5900cclone -/
theorem call4nil {w : World} : Calls Yba.prog 4 #[.slice none 0 0] w fun e w' => e = .returned (.slice none 0 0) ∧ Mm w [] [] w' := by
  refine Calls.of_SC (args := [.slice none 0 0]) Yba.func4 rfl (by simp [Yba.f4]) (Mm.start w) ?_
  refine SC.seq ?_
  refine SC.region ?_
  refine SL.y (OV.assign rfl) rfl ?_
  refine SL.nil ?_
  refine SC.then ?_
  refine SC.seq ?_
  refine SC.seq ?_
  refine SC.region ?_
  refine SL.y (OV.move rfl) rfl ?_
  refine SL.y (OV.eqlNil u30 rfl) rfl ?_
  refine SL.nil ?_
  refine SC.then ?_
  refine SC.condT rfl ?_
  refine SC.seq ?_
  refine SC.region ?_
  refine SL.y (OV.assign rfl) rfl ?_
  refine SL.nil ?_
  refine SC.then ?_
  refine SC.ret ?_
  refine SE.thenR ?_
  exact SE.ret1 Yba.results4 rfl (fun w' hM => ⟨rfl, hM⟩)
theorem call4 {w : World} {b n c : Nat} {it : Nat → Fd} (hn : n ≤ 2000000) (hr : RdO w (some ⟨b, 0, none⟩) n it) :
    Calls Yba.prog 4 #[.slice (some ⟨b, 0, none⟩) n c] w fun e w' => ∃ nb, e = .returned (.slice (some ⟨nb, 0, none⟩) n n) ∧ Mm w [] [(nb, row 34 (tab (n * 3) (fcell it)))] w' := by
  obtain ⟨i, hi, hz0, hz1, hz2⟩ := info_parts info34
  refine Calls.of_SC (args := [.slice (some ⟨b, 0, none⟩) n c]) Yba.func4 rfl (by simp [Yba.f4]) (Mm.start w) ?_
  refine SC.seq ?_
  refine SC.region ?_
  refine SL.y (OV.assign rfl) rfl ?_
  refine SL.nil ?_
  refine SC.then ?_
  refine SC.seq ?_
  refine SC.seq ?_
  refine SC.region ?_
  refine SL.y (OV.move rfl) rfl ?_
  refine SL.y (OV.eqlNil u30 rfl) rfl ?_
  refine SL.nil ?_
  refine SC.then ?_
  refine SC.condF rfl ?_
  refine SC.skip ?_
  refine SC.then ?_
  refine SC.seq ?_
  refine SC.region ?_
  refine SL.y (OV.move rfl) rfl ?_
  refine SL.y (OV.len u30 rfl) rfl ?_
  refine SL.e (OE.makeS n n u30 hi hz0 hz1 rfl rfl rfl rfl (by omega) (by rw [hz2]; omega) (by omega)) rfl ?_
  intro nb
  refine SL.y (OV.assign rfl) rfl ?_
  refine SL.nil ?_
  refine SC.then ?_
  refine SC.seq ?_
  refine SC.seq ?_
  refine SC.region ?_
  refine SL.y (OV.assign rfl) rfl ?_
  refine SL.nil ?_
  refine SC.then ?_
  refine SC.block ?_
  refine SC.loop (fun k : Nat => [(0, .slice (some ⟨b, 0, none⟩) n c), (3, .slice (some ⟨nb, 0, none⟩) n n), (4, .int .i64 k)]) (fun k => [(nb, row 34 (tab (n * 3) (ffill it k)))]) (fun k => k ≤ n) (fun k => n - k) 0 (Nat.zero_le _) (by repeat' (first | exact trivial | refine ⟨rfl, ?_⟩)) ?_ ?_
  · show List.Sublist _ [(nb, row 34 (madeCells #[Value.nilIface, .string ⟨#[]⟩, .string ⟨#[]⟩] (n * 3)).toList)]
    rw [fmade it]
    exact (List.Sublist.refl _)
  intro k hk
  refine SC.seq ?_
  refine SC.seq ?_
  refine SC.region ?_
  refine SL.y (OV.move rfl) rfl ?_
  refine SL.y (OV.move rfl) rfl ?_
  refine SL.y (OV.len u30 rfl) rfl ?_
  refine SL.y (OV.lss rfl rfl) rfl ?_
  refine SL.nil ?_
  refine SC.then ?_
  refine SC.condP rfl (fun hlt => ?_) (fun hge => ?_)
  · have hlt' : k < n := by omega
    obtain ⟨b1, hb1, g1⟩ := hr k hlt'
    simp only [Option.some.injEq, Addr.mk.injEq, and_true] at hb1
    subst hb1
    refine SC.skip ?_
    refine SC.then ?_
    refine SC.seq ?_
    refine SC.block ?_
    refine SC.region ?_
    refine SL.y (OV.move rfl) rfl ?_
    refine SL.y (OV.move rfl) rfl ?_
    refine SL.y (OV.move rfl) rfl ?_
    refine SL.y (OV.move rfl) rfl ?_
    refine SL.y (OV.idx k u30 hi hz1 rfl rfl rfl (by omega)) rfl ?_
    refine SL.y (OV.loadAggOld (vs := (it k).cells) ag34 us34 hi rfl (by simp) (by rw [hz1]; rfl) g1) rfl ?_
    refine SL.y (OV.idx k u30 hi hz1 rfl rfl rfl (by omega)) rfl ?_
    refine SL.s (OS.store 0 hi rfl rfl rfl (by rw [hz1]; rfl) (Fd.cells_one _) (by rw [length_tab]; show _ + 3 ≤ _; omega)) ?_
    refine SL.nil ?_
    refine SE.nb ?_
    refine SC.then ?_
    refine SC.region ?_
    refine SL.y (OV.move rfl) rfl ?_
    refine SL.y (OV.add rfl rfl (wrap_i64 (by omega) (by omega))) rfl ?_
    refine SL.y (OV.assign rfl) rfl ?_
    refine SL.nil ?_
    refine SE.round (k + 1) (by omega) (by omega) (by repeat' (first | exact trivial | refine ⟨rfl, ?_⟩)) ?_
    have e1 := tab_splice3 (N := n * 3) (o := 0 + k * 3) (f := ffill it k) (v0 := .iface 2 (.int .i64 (it k).v)) (v1 := .string (it k).same) (v2 := .string bSaid) (by omega)
    rw [tab_congr fun q _ => ffill_step it k q] at e1
    rw [← e1]
    exact List.Sublist.refl _
  · refine SC.exit ?_
    refine SE.thenE (SE.thenE (SE.inBlock ?_))
    have e : k = n := by omega
    subst e
    rw [ffull]
    refine SC.then ?_
    refine SC.seq ?_
    refine SC.region ?_
    refine SL.y (OV.move rfl) rfl ?_
    refine SL.y (OV.assign rfl) rfl ?_
    refine SL.nil ?_
    refine SC.then ?_
    refine SC.ret ?_
    exact SE.ret1 Yba.results4 rfl (fun w' hM => ⟨nb, rfl, hM⟩)
end Go.Proofs.Ybulkdrdy
