import Derived.Test.YbulkdrfaPins2
namespace Go.Proofs.Ybulkdrfa
open Go Go.RowKit Go.Proofs.Ybulkdrfa.Sym Go.Sort
set_option linter.unusedVariables false
set_option linter.unusedSimpArgs false
set_option maxRecDepth 100000

section
variable {P : Program} {w0 : World} {F : List Nat} {env : Env} {m : List Blk} {d : Option Nat} {ty : TypeId} {pos : String} {af : Array Edge} {g : Option (Nat × Bool)} {x y : Operand} {k : IntKind} {a b : Int} {T T' : TypeId}
theorem Sym.OV.shl {k' : IntKind} {r : Int} (hx : ev env x = some (.int k a)) (hy : ev env y = some (.int k' b)) (h0 : 0 ≤ b) (hr : k.wrap (a * 2 ^ (min b.toNat k.bits)) = r) : OV P env w0 F m ⟨d, .binOp .shl T x y T', ty, pos, af, g⟩ (.int k r) :=
  ⟨fun A w hE hM => by simp [execOp, hE x _ hx, hE y _ hy, eqGuard, binOp, Op.shift, Int.not_lt.2 h0, hr]⟩
theorem Sym.OV.xor {r : Int} (hx : ev env x = some (.int k a)) (hy : ev env y = some (.int k b)) (hr : k.wrap ((BitVec.ofInt k.bits a ^^^ BitVec.ofInt k.bits b).toNat : Int) = r) : OV P env w0 F m ⟨d, .binOp .xor T x y T', ty, pos, af, g⟩ (.int k r) :=
  ⟨fun A w hE hM => by simp only [execOp, hE x _ hx, hE y _ hy, eqGuard, binOp, Op.intBits]; simp at hr; simp [hr]⟩
theorem Sym.OV.indexS {s : ByteArray} {i : Nat} {v : UInt8} (hT : P.underlying T = some .string) (hx : ev env x = some (.string s)) (hy : ev env y = some (.int k (i : Int))) (hv : s[i]? = some v) : OV P env w0 F m ⟨d, .index T x y, ty, pos, af, g⟩ (.int .u8 v.toNat) :=
  ⟨fun A w hE hM => by simp [execOp, hE x _ hx, hE y _ hy, Instr.index, asIntOf, run_underlying hT, hv]⟩
end
theorem u9 : Yba.prog.underlying 9 = some .string := by kernel_rfl
theorem u5 : Yba.prog.underlying 5 = some (.int .u8) := by kernel_rfl
/-- bits.len8tab -/
def tab8 : ByteArray := ⟨#[0,1,2,2,3,3,3,3,4,4,4,4,4,4,4,4,5,5,5,5,5,5,5,5,5,5,5,5,5,5,5,5,6,6,6,6,6,6,6,6,6,6,6,6,6,6,6,6,6,6,6,6,6,6,6,6,6,6,6,6,6,6,6,6,7,7,7,7,7,7,7,7,7,7,7,7,7,7,7,7,7,7,7,7,7,7,7,7,7,7,7,7,7,7,7,7,7,7,7,7,7,7,7,7,7,7,7,7,7,7,7,7,7,7,7,7,7,7,7,7,7,7,7,7,7,7,7,7,8,8,8,8,8,8,8,8,8,8,8,8,8,8,8,8,8,8,8,8,8,8,8,8,8,8,8,8,8,8,8,8,8,8,8,8,8,8,8,8,8,8,8,8,8,8,8,8,8,8,8,8,8,8,8,8,8,8,8,8,8,8,8,8,8,8,8,8,8,8,8,8,8,8,8,8,8,8,8,8,8,8,8,8,8,8,8,8,8,8,8,8,8,8,8,8,8,8,8,8,8,8,8,8,8,8,8,8,8,8,8,8,8,8,8,8,8,8,8,8,8,8,8,8,8,8,8,8]⟩
theorem tab8_all : ((List.range 256).all fun i => decide (tab8[i]? = some (UInt8.ofNat (bitsLen i)))) = true := by decide +kernel
theorem tab8_at {i : Nat} (h : i < 256) : tab8[i]? = some (UInt8.ofNat (bitsLen i)) := by
  have := List.all_eq_true.1 tab8_all i (List.mem_range.2 h)
  simpa using this
theorem bits_le {i : Nat} (h : i < 256) : bitsLen i ≤ 8 := by
  have hall : ((List.range 256).all fun i => decide (bitsLen i ≤ 8)) = true := by decide +kernel
  have := List.all_eq_true.1 hall i (List.mem_range.2 h)
  simpa using this
theorem bits_256 {x : Nat} (h : 256 ≤ x) : bitsLen x = bitsLen (x / 256) + 8 := by
  unfold bitsLen
  rw [if_neg (by omega), if_neg (by omega)]
  have : Nat.log2 x = Nat.log2 (x / 256) + 8 := by
    have e : x / 256 = x / 2 / 2 / 2 / 2 / 2 / 2 / 2 / 2 := by omega
    rw [e]
    have st : ∀ y, 2 ≤ y → Nat.log2 y = Nat.log2 (y / 2) + 1 := fun y hy => by rw [Nat.log2_def y, if_pos hy]
    rw [st x (by omega), st (x / 2) (by omega), st (x / 2 / 2) (by omega), st (x / 2 / 2 / 2) (by omega), st (x / 2 / 2 / 2 / 2) (by omega), st (x / 2 / 2 / 2 / 2 / 2) (by omega), st (x / 2 / 2 / 2 / 2 / 2 / 2) (by omega), st (x / 2 / 2 / 2 / 2 / 2 / 2 / 2) (by omega)]
  omega
theorem u8_toNat {i : Nat} (h : i < 256) : (UInt8.ofNat i).toNat = i := by simp; omega

/-- bits.Len64, of a number below 65536 -/
theorem call20 {x : Nat} (hx : x < 65536) (w : World) : Calls Yba.prog 20 #[.int .u64 x] w fun e w' => e = .returned (.int .i64 (bitsLen x)) ∧ Mm w [] [] w' := by
  refine Calls.of_SC (args := [.int .u64 x]) Yba.func20 rfl (by simp [Yba.f20]) (Mm.start w) ?_
  refine SC.seq ?_
  refine SC.region ?_
  refine SL.y (OV.assign rfl) rfl ?_
  refine SL.nil ?_
  refine SC.then ?_
  refine SC.seq ?_
  refine SC.seq ?_
  refine SC.region ?_
  refine SL.y (OV.move rfl) rfl ?_
  refine SL.y (OV.geq rfl rfl) rfl ?_
  refine SL.nil ?_
  refine SC.then ?_
  refine SC.condP rfl (fun h => absurd h (by omega)) (fun _ => ?_)
  refine SC.skip ?_
  refine SC.then ?_
  refine SC.seq ?_
  refine SC.seq ?_
  refine SC.region ?_
  refine SL.y (OV.move rfl) rfl ?_
  refine SL.y (OV.geq rfl rfl) rfl ?_
  refine SL.nil ?_
  refine SC.then ?_
  refine SC.condP rfl (fun h => absurd h (by omega)) (fun _ => ?_)
  refine SC.skip ?_
  refine SC.then ?_
  by_cases h256 : 256 ≤ x
  · have h8 := bits_le (i := x / 256) (by omega)
    refine SC.seq ?_
    refine SC.seq ?_
    refine SC.region ?_
    refine SL.y (OV.move rfl) rfl ?_
    refine SL.y (OV.geq rfl rfl) rfl ?_
    refine SL.nil ?_
    refine SC.then ?_
    refine SC.condP rfl (fun _ => ?_) (fun h => absurd (show (256 : Int) ≤ (x : Int) by omega) h)
    refine SC.seq ?_
    refine SC.region ?_
    refine SL.y (OV.move rfl) rfl ?_
    refine SL.y (OV.shr (r := ((x / 256 : Nat) : Int)) rfl rfl (by decide) (by show (x : Int).fdiv (2 ^ 8) = _; rw [Int.fdiv_eq_ediv_of_nonneg _ (by decide)]; omega)) rfl ?_
    refine SL.y (OV.assign rfl) rfl ?_
    refine SL.nil ?_
    refine SC.then ?_
    refine SC.region ?_
    refine SL.y (OV.move rfl) rfl ?_
    refine SL.y (OV.add (r := 8) rfl rfl (by decide)) rfl ?_
    refine SL.y (OV.assign rfl) rfl ?_
    refine SL.nil ?_
    refine SC.then ?_
    refine SC.seq ?_
    refine SC.region ?_
    refine SL.y (OV.move rfl) rfl ?_
    refine SL.y (OV.move rfl) rfl ?_
    refine SL.y (OV.conv u42 u5 rfl (r := ((x / 256 : Nat) : Int)) (wrap_u8 (by omega) (by omega))) rfl ?_
    refine SL.y ((OV.indexS u9 rfl rfl (tab8_at (i := x / 256) (by omega))).is (v' := .int .u8 (bitsLen (x / 256))) (by rw [u8_toNat (by omega)])) rfl ?_
    refine SL.y (OV.conv u5 u3 rfl (wrap_i64 (by omega) (by omega))) rfl ?_
    refine SL.y (OV.add (r := (bitsLen x : Int)) rfl rfl (by rw [bits_256 h256, wrap_i64 (by omega) (by omega)]; omega)) rfl ?_
    refine SL.y (OV.assign rfl) rfl ?_
    refine SL.nil ?_
    refine SC.then ?_
    refine SC.ret ?_
    exact SE.ret1 Yba.results20 rfl (fun w' hM => ⟨rfl, hM⟩)
  · have h8 := bits_le (i := x) (by omega)
    refine SC.seq ?_
    refine SC.seq ?_
    refine SC.region ?_
    refine SL.y (OV.move rfl) rfl ?_
    refine SL.y (OV.geq rfl rfl) rfl ?_
    refine SL.nil ?_
    refine SC.then ?_
    refine SC.condP rfl (fun h => absurd h (by omega)) (fun _ => ?_)
    refine SC.skip ?_
    refine SC.then ?_
    refine SC.seq ?_
    refine SC.region ?_
    refine SL.y (OV.move rfl) rfl ?_
    refine SL.y (OV.move rfl) rfl ?_
    refine SL.y (OV.conv u42 u5 rfl (r := (x : Int)) (wrap_u8 (by omega) (by omega))) rfl ?_
    refine SL.y ((OV.indexS u9 rfl rfl (tab8_at (i := x) (by omega))).is (v' := .int .u8 (bitsLen x)) (by rw [u8_toNat (by omega)])) rfl ?_
    refine SL.y (OV.conv u5 u3 rfl (wrap_i64 (by omega) (by omega))) rfl ?_
    refine SL.y (OV.add (r := (bitsLen x : Int)) rfl rfl (by rw [wrap_i64 (by omega) (by omega)]; omega)) rfl ?_
    refine SL.y (OV.assign rfl) rfl ?_
    refine SL.nil ?_
    refine SC.then ?_
    refine SC.ret ?_
    exact SE.ret1 Yba.results20 rfl (fun w' hM => ⟨rfl, hM⟩)
theorem pf20 : plainFunc Yba.prog 20 = true := by kernel_rfl
/-- bits.Len -/
theorem call9 {x : Nat} (hx : x < 65536) (w : World) : Calls Yba.prog 9 #[.int .u64 x] w fun e w' => e = .returned (.int .i64 (bitsLen x)) ∧ Mm w [] [] w' := by
  refine Calls.of_SC (args := [.int .u64 x]) Yba.func9 rfl (by simp [Yba.f9]) (Mm.start w) ?_
  refine SC.seq ?_
  refine SC.region ?_
  refine SL.y (OV.assign rfl) rfl ?_
  refine SL.nil ?_
  refine SC.then ?_
  refine SC.seq ?_
  refine SC.condF rfl ?_
  refine SC.skip ?_
  refine SC.then ?_
  refine SC.seq ?_
  refine SC.region ?_
  refine SL.y (OV.move rfl) rfl ?_
  refine SL.callQ pf20 (args1 rfl) (fun w hM => call20 hx w) rfl ?_
  refine SL.y (OV.assign rfl) rfl ?_
  refine SL.nil ?_
  refine SC.then ?_
  refine SC.ret ?_
  exact SE.ret1 Yba.results9 rfl (fun w' hM => ⟨rfl, hM⟩)
theorem pf9 : plainFunc Yba.prog 9 = true := by kernel_rfl
end Go.Proofs.Ybulkdrfa
