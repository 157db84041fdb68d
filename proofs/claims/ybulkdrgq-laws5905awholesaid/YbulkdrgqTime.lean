import Derived.Test.YbulkdrgqSel
import Derived.Test.YbulkdrgqTypes
namespace Go.Proofs.Ybulkdrgq
open Go Go.RowKit Go.Proofs.Ybulkdrgq.Sym
set_option linter.unusedVariables false
set_option linter.unusedSimpArgs false
set_option maxRecDepth 100000

theorem Mm.callee1 {w0 w w' : World} {F : List Nat} {m : List Blk} {j b : Nat} {o o' : Obj} (h : Mm w0 F m w) (h' : Mm w [b] [(b, o')] w') (hj : m[j]? = some (b, o)) : Mm w0 F (m.set j (b, o')) w' := by
  refine h.callee h' (new := []) ?_ (List.nil_sublist _) (by simp) ?_ ?_
  · rw [map_set_same hj]; simp
  · intro p hp
    obtain ⟨i, hi⟩ := List.mem_iff_getElem?.1 hp
    rw [List.getElem?_set] at hi
    by_cases e : j = i
    · subst e
      rw [if_pos rfl] at hi
      split at hi
      · cases hi; exact .inr (by simp)
      · cases hi
    · rw [if_neg e] at hi
      refine .inl ⟨List.mem_of_getElem? hi, ?_⟩
      simp only [List.mem_cons, List.not_mem_nil, or_false]
      exact fun x => e (nodup_unique h.nodup hj hi x.symm)
  · intro q hq
    simp at hq
    subst hq
    exact List.mem_map.2 ⟨_, List.mem_of_getElem? hj, rfl⟩
/-- A call that writes one of the blocks. -/
theorem Sym.SL.callB {P : Program} {w0 : World} {F : List Nat} {env : Env} {m : List Blk} {ty : TypeId} {pos : String} {af : Array Edge} {Q : Exit → Act → World → Prop} {N : Nat} {ops : Array Oper} {rest : List Oper} {d f : Nat} {args : Array Operand} {ts : Array TypeId} {vs : Array Value} {v : Value} {j b : Nat} {o o' : Obj} (hf : plainFunc P f = true) (hargs : ∀ (ρ : Operand → Value), (∀ x u, ev env x = some u → ρ x = u) → args.map ρ = vs)
    (hm : m[j]? = some (b, o)) (hc : ∀ w : World, w.heap[b]? = some o → Calls P f vs w fun e w' => e = .returned v ∧ Mm w [b] [(b, o')] w') (hd : Nat.blt d N = true)
    (h : SL P ops Q rest N ((d, v) :: env) w0 F (m.set j (b, o'))) : SL P ops Q (⟨some d, .call ⟨.value (.func f), args, ts⟩, ty, pos, af, none⟩ :: rest) N env w0 F m :=
  SL.call (σ := Unit) (V := fun _ => v) (M := fun _ => m.set j (b, o')) (G := fun _ => True) hf hargs (fun w hM => (hc w (hM.block hm)).mono fun e w' ⟨he, hM'⟩ => ⟨(), he, trivial, Mm.callee1 hM hM' hm⟩) hd (fun _ _ => h)
section
variable {env : Env} {x0 x1 x2 x3 x4 : Operand} {v0 v1 v2 v3 v4 : Value}
theorem args3 (h0 : ev env x0 = some v0) (h1 : ev env x1 = some v1) (h2 : ev env x2 = some v2) (ρ : Operand → Value) (hρ : ∀ x u, ev env x = some u → ρ x = u) : (#[x0, x1, x2] : Array Operand).map ρ = #[v0, v1, v2] := by simp [hρ x0 _ h0, hρ x1 _ h1, hρ x2 _ h2]
theorem args4 (h0 : ev env x0 = some v0) (h1 : ev env x1 = some v1) (h2 : ev env x2 = some v2) (h3 : ev env x3 = some v3) (ρ : Operand → Value) (hρ : ∀ x u, ev env x = some u → ρ x = u) : (#[x0, x1, x2, x3] : Array Operand).map ρ = #[v0, v1, v2, v3] := by simp [hρ x0 _ h0, hρ x1 _ h1, hρ x2 _ h2, hρ x3 _ h3]
theorem args5 (h0 : ev env x0 = some v0) (h1 : ev env x1 = some v1) (h2 : ev env x2 = some v2) (h3 : ev env x3 = some v3) (h4 : ev env x4 = some v4) (ρ : Operand → Value) (hρ : ∀ x u, ev env x = some u → ρ x = u) : (#[x0, x1, x2, x3, x4] : Array Operand).map ρ = #[v0, v1, v2, v3, v4] := by simp [hρ x0 _ h0, hρ x1 _ h1, hρ x2 _ h2, hρ x3 _ h3, hρ x4 _ h4]
end

theorem info_parts {P : Program} {e : TypeId} {z : Value} {s b : Nat} (h : (P.info? e).map (fun i => (i.zero, i.size, i.bytes)) = some (some z, s, b)) : ∃ i, P.info? e = some i ∧ i.zero = some z ∧ i.size = s ∧ i.bytes = b := by
  cases hi : P.info? e with
  | none => simp [hi] at h
  | some i => simp [hi] at h; exact ⟨i, rfl, h.1, h.2.1, h.2.2⟩
theorem Mm.ofRow {w : World} {blk : Nat} {o : Obj} (h : w.heap[blk]? = some o) : Mm w [blk] [(blk, o)] w :=
  Mm.start' (fun p hp => by simp at hp; subst hp; exact h) rfl (by simp)

/-! ### A time: (wall, ext, no place) with no monotonic reading -/
def tcs (n : Nat) (s : Int) : List Value := [.int .u64 n, .int .i64 s, .pointer none]
abbrev tv (n : Nat) (s : Int) : Value := .agg #[.int .u64 n, .int .i64 s, .pointer none]
abbrev pt (b : Nat) : Value := .pointer (some ⟨b, 0, none⟩)
theorem ofInt_nat (n : Nat) : BitVec.ofInt 64 (n : Int) = BitVec.ofNat 64 n := BitVec.ofInt_natCast 64 n
theorem and_mask {n : Nat} (h : n < 1073741824) : IntKind.u64.wrap ((BitVec.ofInt IntKind.u64.bits (n : Int) &&& BitVec.ofInt IntKind.u64.bits 1073741823).toNat : Int) = n := by
  have e : (BitVec.ofInt 64 (n : Int) &&& BitVec.ofInt 64 1073741823).toNat = n := by
    have e2 : BitVec.ofInt 64 1073741823 = BitVec.ofNat 64 (2 ^ 30 - 1) := by decide
    rw [ofInt_nat, e2, BitVec.toNat_and, BitVec.toNat_ofNat, BitVec.toNat_ofNat, Nat.mod_eq_of_lt (show n < 2 ^ 64 by omega), Nat.mod_eq_of_lt (show 2 ^ 30 - 1 < 2 ^ 64 by decide), Nat.and_two_pow_sub_one_eq_mod, Nat.mod_eq_of_lt (by omega)]
  show IntKind.u64.wrap ((BitVec.ofInt 64 (n : Int) &&& BitVec.ofInt 64 1073741823).toNat : Int) = n
  rw [e]
  exact wrap_u64 (by omega) (by omega)
theorem and_high {n : Nat} (h : n < 1073741824) : IntKind.u64.wrap ((BitVec.ofInt IntKind.u64.bits (n : Int) &&& BitVec.ofInt IntKind.u64.bits 9223372036854775808).toNat : Int) = 0 := by
  have e : (BitVec.ofInt 64 (n : Int) &&& BitVec.ofInt 64 9223372036854775808).toNat = 0 := by
    have e2 : BitVec.ofInt 64 9223372036854775808 = BitVec.ofNat 64 (2 ^ 63) := by decide
    rw [ofInt_nat, e2, BitVec.toNat_and, BitVec.toNat_ofNat, BitVec.toNat_ofNat, Nat.mod_eq_of_lt (show n < 2 ^ 64 by omega), Nat.mod_eq_of_lt (show 2 ^ 63 < 2 ^ 64 by decide)]
    apply Nat.eq_of_testBit_eq
    intro i
    rw [Nat.testBit_and, Nat.testBit_two_pow, Nat.zero_testBit]
    by_cases hi : 63 = i
    · subst hi; rw [Nat.testBit_lt_two_pow (show n < 2 ^ 63 by omega)]; rfl
    · simp [hi]
  show IntKind.u64.wrap ((BitVec.ofInt 64 (n : Int) &&& BitVec.ofInt 64 9223372036854775808).toNat : Int) = 0
  rw [e]
  rfl
theorem and_lt {a n b : Nat} (ha : a < 1073741824) (hb : b < 1073741824) : ∃ r : Nat, IntKind.u64.wrap ((BitVec.ofInt IntKind.u64.bits (a : Int) &&& BitVec.ofInt IntKind.u64.bits (b : Int)).toNat : Int) = (r : Int) ∧ r < 1073741824 := by
  refine ⟨a &&& b, ?_, Nat.lt_of_le_of_lt Nat.and_le_left ha⟩
  show IntKind.u64.wrap ((BitVec.ofInt 64 (a : Int) &&& BitVec.ofInt 64 (b : Int)).toNat : Int) = _
  have e : (BitVec.ofInt 64 (a : Int) &&& BitVec.ofInt 64 (b : Int)).toNat = a &&& b := by
    rw [ofInt_nat, ofInt_nat, BitVec.toNat_and, BitVec.toNat_ofNat, BitVec.toNat_ofNat, Nat.mod_eq_of_lt (show a < 2 ^ 64 by omega), Nat.mod_eq_of_lt (show b < 2 ^ 64 by omega)]
  rw [e]
  have := Nat.lt_of_le_of_lt (@Nat.and_le_left a b) ha
  exact wrap_u64 (by omega) (by omega)
theorem or_zero {n : Nat} (h : n < 1073741824) : IntKind.u64.wrap ((BitVec.ofInt IntKind.u64.bits 0 ||| BitVec.ofInt IntKind.u64.bits (n : Int)).toNat : Int) = n := by
  show IntKind.u64.wrap ((BitVec.ofInt 64 0 ||| BitVec.ofInt 64 (n : Int)).toNat : Int) = n
  have e : (BitVec.ofInt 64 0 ||| BitVec.ofInt 64 (n : Int)).toNat = n := by
    rw [ofInt_nat, BitVec.toNat_or, BitVec.toNat_ofNat, Nat.mod_eq_of_lt (show n < 2 ^ 64 by omega)]
    simp
  rw [e]
  exact wrap_u64 (by omega) (by omega)
theorem tcell0 {w : World} {b n : Nat} {s : Int} (h : w.heap[b]? = some (row 25 (tcs n s))) : w.cell? ⟨b, 0, none⟩ = some (.int .u64 n) := by simp [World.cell?, h, row, tcs]
theorem tcell1 {w : World} {b n : Nat} {s : Int} (h : w.heap[b]? = some (row 25 (tcs n s))) : w.cell? ⟨b, 1, none⟩ = some (.int .i64 s) := by simp [World.cell?, h, row, tcs]

/-- (*Time).nsec -/
theorem call10 {w : World} {b n : Nat} {s : Int} (hn : n < 1000000000) (h : w.heap[b]? = some (row 25 (tcs n s))) :
    Calls Yba.prog 10 #[pt b] w fun e w' => e = .returned (.int .i32 n) ∧ Mm w [] [] w' := by
  refine Calls.of_SC (args := [pt b]) Yba.func10 rfl (by simp [Yba.f10]) (Mm.start w) ?_
  refine SC.seq ?_
  refine SC.region ?_
  refine SL.y (OV.assign rfl) rfl ?_
  refine SL.nil ?_
  refine SC.then ?_
  refine SC.seq ?_
  refine SC.region ?_
  refine SL.y (OV.move rfl) rfl ?_
  refine SL.y (OV.nilCheck rfl) rfl ?_
  refine SL.y (OV.fld fo25_0 rfl) rfl ?_
  refine SL.y (OV.loadOld sc22 rfl (by simp) (tcell0 h)) rfl ?_
  refine SL.y (OV.and rfl rfl (and_mask (by omega))) rfl ?_
  refine SL.y (OV.conv u22 u21 rfl (wrap_i32 (by omega) (by omega))) rfl ?_
  refine SL.y (OV.assign rfl) rfl ?_
  refine SL.nil ?_
  refine SC.then ?_
  refine SC.ret ?_
  exact SE.ret1 Yba.results10 rfl (fun w' hM => ⟨rfl, hM⟩)
theorem pf10 : plainFunc Yba.prog 10 = true := by kernel_rfl
/-- (*Time).sec -/
theorem call13 {w : World} {b n : Nat} {s : Int} (hn : n < 1000000000) (h : w.heap[b]? = some (row 25 (tcs n s))) :
    Calls Yba.prog 13 #[pt b] w fun e w' => e = .returned (.int .i64 s) ∧ Mm w [] [] w' := by
  refine Calls.of_SC (args := [pt b]) Yba.func13 rfl (by simp [Yba.f13]) (Mm.start w) ?_
  refine SC.seq ?_
  refine SC.region ?_
  refine SL.y (OV.assign rfl) rfl ?_
  refine SL.nil ?_
  refine SC.then ?_
  refine SC.seq ?_
  refine SC.seq ?_
  refine SC.region ?_
  refine SL.y (OV.move rfl) rfl ?_
  refine SL.y (OV.nilCheck rfl) rfl ?_
  refine SL.y (OV.fld fo25_0 rfl) rfl ?_
  refine SL.y (OV.loadOld sc22 rfl (by simp) (tcell0 h)) rfl ?_
  refine SL.y (OV.and rfl rfl (and_high (by omega))) rfl ?_
  refine SL.y ((OV.neq rfl rfl).no (by omega)) rfl ?_
  refine SL.nil ?_
  refine SC.then ?_
  refine SC.cond rfl (fun e => by cases e) (fun _ => ?_)
  refine SC.skip ?_
  refine SC.then ?_
  refine SC.seq ?_
  refine SC.region ?_
  refine SL.y (OV.move rfl) rfl ?_
  refine SL.y (OV.nilCheck rfl) rfl ?_
  refine SL.y (OV.fld fo25_1 rfl) rfl ?_
  refine SL.y (OV.loadOld sc2 rfl (by simp) (tcell1 h)) rfl ?_
  refine SL.y (OV.assign rfl) rfl ?_
  refine SL.nil ?_
  refine SC.then ?_
  refine SC.ret ?_
  exact SE.ret1 Yba.results13 rfl (fun w' hM => ⟨rfl, hM⟩)
theorem pf13 : plainFunc Yba.prog 13 = true := by kernel_rfl
/-- (*Time).addSec, at ext = 0 -/
theorem call11 {w : World} {b n : Nat} {d : Int} (hn : n < 1000000000) (h : w.heap[b]? = some (row 25 (tcs n 0))) (hd1 : -9223372036854775808 ≤ d) (hd2 : d ≤ 9223372036854775807) :
    Calls Yba.prog 11 #[pt b, .int .i64 d] w fun e w' => e = .returned (.tuple #[]) ∧ Mm w [b] [(b, row 25 (tcs n d))] w' := by
  refine Calls.of_SC (args := [pt b, .int .i64 d]) Yba.func11 rfl (by simp [Yba.f11]) (Mm.ofRow h) ?_
  refine SC.seq ?_
  refine SC.seq ?_
  refine SC.region ?_
  refine SL.y (OV.move rfl) rfl ?_
  refine SL.y (OV.nilCheck rfl) rfl ?_
  refine SL.y (OV.fld fo25_0 rfl) rfl ?_
  refine SL.y (OV.loadF 0 sc22 rfl rfl rfl) rfl ?_
  refine SL.y (OV.and rfl rfl (and_high (by omega))) rfl ?_
  refine SL.y ((OV.neq rfl rfl).no (by omega)) rfl ?_
  refine SL.nil ?_
  refine SC.then ?_
  refine SC.cond rfl (fun e => by cases e) (fun _ => ?_)
  refine SC.skip ?_
  refine SC.then ?_
  refine SC.seq ?_
  refine SC.region ?_
  refine SL.y (OV.move rfl) rfl ?_
  refine SL.y (OV.nilCheck rfl) rfl ?_
  refine SL.y (OV.fld fo25_1 rfl) rfl ?_
  refine SL.y (OV.loadF 0 sc2 rfl rfl rfl) rfl ?_
  refine SL.y (OV.move rfl) rfl ?_
  refine SL.y (OV.add rfl rfl (wrap_i64 (by omega) (by omega))) rfl ?_
  refine SL.y (OV.assign rfl) rfl ?_
  refine SL.nil ?_
  refine SC.then ?_
  refine SC.seq ?_
  refine SC.region ?_
  refine SL.y (OV.move rfl) rfl ?_
  refine SL.y (OV.move rfl) rfl ?_
  refine SL.y (OV.nilCheck rfl) rfl ?_
  refine SL.y (OV.fld fo25_1 rfl) rfl ?_
  refine SL.y (OV.loadF 0 sc2 rfl rfl rfl) rfl ?_
  refine SL.y (OV.gtr rfl rfl) rfl ?_
  refine SL.y (OV.move rfl) rfl ?_
  refine SL.y (OV.gtr rfl rfl) rfl ?_
  refine SL.y ((OV.eqlB u4 rfl rfl).is (v' := .bool true) (by simp)) rfl ?_
  refine SL.nil ?_
  refine SC.then ?_
  refine SC.cond rfl (fun _ => ?_) (fun e => by cases e)
  refine SC.region ?_
  refine SL.y (OV.move rfl) rfl ?_
  refine SL.y (OV.move rfl) rfl ?_
  refine SL.y (OV.nilCheck rfl) rfl ?_
  refine SL.y (OV.fld fo25_1 rfl) rfl ?_
  refine SL.s (OS.store1 0 sz2 rfl rfl rfl rfl (by show 1 < 3; decide)) ?_
  refine SL.nil ?_
  refine SE.end0 Yba.results11 (fun w' hM => ⟨rfl, ?_⟩)
  simpa [tcs] using hM
theorem pf11 : plainFunc Yba.prog 11 = true := by kernel_rfl
end Go.Proofs.Ybulkdrgq
