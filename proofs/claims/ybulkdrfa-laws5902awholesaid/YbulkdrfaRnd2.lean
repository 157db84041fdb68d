import Derived.Test.YbulkdrfaRnd
namespace Go.Proofs.Ybulkdrfa
open Go Go.RowKit Go.Proofs.Ybulkdrfa.Sym Go.Sort
set_option linter.unusedVariables false
set_option linter.unusedSimpArgs false
set_option maxRecDepth 100000

theorem wrapU (n : Nat) : IntKind.u64.wrap (n : Int) = ((n % 2 ^ 64 : Nat) : Int) := by
  simp only [IntKind.wrap, IntKind.bits, IntKind.signed]
  simp
theorem u64_shl (r : UInt64) (k : Nat) (hk : k < 64) : IntKind.u64.wrap ((r.toNat : Int) * 2 ^ k) = (((r <<< (UInt64.ofNat k)).toNat : Nat) : Int) := by
  have e : (r.toNat : Int) * 2 ^ k = ((r.toNat * 2 ^ k : Nat) : Int) := by simp [Int.natCast_mul, Int.natCast_pow]
  have hk64 : (UInt64.ofNat k).toNat = k := by simp; omega
  rw [e, wrapU, UInt64.toNat_shiftLeft, Nat.shiftLeft_eq, hk64, Nat.mod_eq_of_lt hk]
theorem u64_xor (r s : UInt64) : IntKind.u64.wrap ((BitVec.ofInt IntKind.u64.bits (r.toNat : Int) ^^^ BitVec.ofInt IntKind.u64.bits (s.toNat : Int)).toNat : Int) = (((r ^^^ s).toNat : Nat) : Int) := by
  rw [wrapU, BitVec.toNat_xor]
  have h : ∀ t : UInt64, (BitVec.ofInt IntKind.u64.bits (t.toNat : Int)).toNat = t.toNat := by
    intro t
    rw [BitVec.ofInt_natCast, BitVec.toNat_ofNat]
    exact Nat.mod_eq_of_lt t.toNat_lt
  rw [h, h, ← UInt64.toNat_xor]
  congr 1
  exact Nat.mod_eq_of_lt (UInt64.toNat_lt _)
theorem u64_shr (r : UInt64) (k : Nat) (hk : k < 64) : (r.toNat : Int).fdiv (2 ^ k) = (((r >>> (UInt64.ofNat k)).toNat : Nat) : Int) := by
  have hk64 : (UInt64.ofNat k).toNat = k := by simp; omega
  rw [UInt64.toNat_shiftRight, Nat.shiftRight_eq_div_pow, hk64, Nat.mod_eq_of_lt hk, Int.fdiv_eq_ediv_of_nonneg _ (by exact Int.le_of_lt (Int.pow_pos (by decide)))]
  simp [Int.natCast_ediv, Int.natCast_pow]

/-- nextPowerOfTwo -/
theorem call22 {x : Nat} (hx : x < 65536) (w : World) : Calls Yba.prog 22 #[.int .i64 x] w fun e w' => e = .returned (.int .u64 (1 <<< bitsLen x : Nat)) ∧ Mm w [] [] w' := by
  have hb : bitsLen x ≤ 16 := by
    by_cases h : 256 ≤ x
    · rw [bits_256 h]; have := bits_le (i := x / 256) (by omega); omega
    · have := bits_le (i := x) (by omega); omega
  have hshl : IntKind.u64.wrap (1 * 2 ^ (min ((bitsLen x : Nat) : Int).toNat IntKind.u64.bits)) = ((1 <<< bitsLen x : Nat) : Int) := by
    have e1 : ((bitsLen x : Nat) : Int).toNat = bitsLen x := by simp
    have hm : min (bitsLen x) IntKind.u64.bits = bitsLen x := Nat.min_eq_left (by show bitsLen x ≤ 64; omega)
    rw [e1, hm, Nat.shiftLeft_eq, Int.one_mul, Nat.one_mul]
    have hp : 2 ^ bitsLen x ≤ 2 ^ 16 := Nat.pow_le_pow_right (by decide) hb
    have e2 : (2 : Int) ^ bitsLen x = ((2 ^ bitsLen x : Nat) : Int) := by simp [Int.natCast_pow]
    rw [e2]
    clear e2
    generalize 2 ^ bitsLen x = y at hp ⊢
    rw [wrap_u64 (by omega) (by omega)]
  refine Calls.of_SC (args := [.int .i64 x]) Yba.func22 rfl (by simp [Yba.f22]) (Mm.start w) ?_
  refine SC.seq ?_
  refine SC.region ?_
  refine SL.y (OV.assign rfl) rfl ?_
  refine SL.nil ?_
  refine SC.then ?_
  refine SC.seq ?_
  refine SC.region ?_
  refine SL.y (OV.move rfl) rfl ?_
  refine SL.y (OV.conv u3 u30 rfl (wrap_u64 (by omega) (by omega))) rfl ?_
  refine SL.callQ pf9 (args1 rfl) (fun w hM => call9 hx w) rfl ?_
  refine SL.y (OV.shl (r := ((1 <<< bitsLen x : Nat) : Int)) rfl rfl (by omega) hshl) rfl ?_
  refine SL.y (OV.assign rfl) rfl ?_
  refine SL.nil ?_
  refine SC.then ?_
  refine SC.ret ?_
  exact SE.ret1 Yba.results22 rfl (fun w' hM => ⟨rfl, hM⟩)
theorem pf22 : plainFunc Yba.prog 22 = true := by kernel_rfl
theorem pf23 : plainFunc Yba.prog 23 = true := by kernel_rfl
/-- xorshift.Next -/
theorem call23 {w : World} {bs : Nat} {r : UInt64} (hw : w.heap[bs]? = some (row 43 [.int .u64 r.toNat])) :
    Calls Yba.prog 23 #[.pointer (some ⟨bs, 0, none⟩)] w fun e w' => e = .returned (.int .u64 (xorNext r).toNat) ∧ Mm w [bs] [(bs, row 43 [.int .u64 (xorNext r).toNat])] w' := by
  refine Calls.of_SC (args := [.pointer (some ⟨bs, 0, none⟩)]) Yba.func23 rfl (by simp [Yba.f23]) (Mm.ofRow hw) ?_
  have hx : xorNext r = (((r ^^^ (r <<< 13)) ^^^ ((r ^^^ (r <<< 13)) >>> 7)) ^^^ (((r ^^^ (r <<< 13)) ^^^ ((r ^^^ (r <<< 13)) >>> 7)) <<< 17)) := rfl
  rw [hx]
  refine SC.seq ?_
  refine SC.region ?_
  refine SL.y (OV.assign rfl) rfl ?_
  refine SL.nil ?_
  refine SC.then ?_
  refine SC.cutSt [(0, .pointer (some ⟨bs, 0, none⟩))] [(bs, row 43 [.int .u64 (r ^^^ (r <<< 13)).toNat])] ?_ ?_
  · skip
    refine SC.held 9 [(bs, row 43 [.int .u64 r.toNat])] [] mixed ?_
    refine SA.takeC (i := 0) (by repeat (first | exact hPQ | refine PanicOk.then ?_ | refine PanicOk.block ?_ | exact PanicOk.body)) rfl (by kernel_rfl) (by kernel_rfl) (by kernel_rfl) rfl (by first | exact List.nil_sublist _ | exact List.Sublist.refl _ | (repeat (first | exact List.Sublist.refl _ | exact List.nil_sublist _ | refine List.Sublist.cons_cons _ ?_ | refine List.Sublist.cons _ ?_))) (OV.move rfl) rfl ?_
    refine SA.takeC (i := 1) (by repeat (first | exact hPQ | refine PanicOk.then ?_ | refine PanicOk.block ?_ | exact PanicOk.body)) rfl (by kernel_rfl) (by kernel_rfl) (by kernel_rfl) rfl (by first | exact List.nil_sublist _ | exact List.Sublist.refl _ | (repeat (first | exact List.Sublist.refl _ | exact List.nil_sublist _ | refine List.Sublist.cons_cons _ ?_ | refine List.Sublist.cons _ ?_))) (OV.nilCheck rfl) rfl ?_
    refine SA.takeA (i := 2) (by repeat (first | exact hPQ | refine PanicOk.then ?_ | refine PanicOk.block ?_ | exact PanicOk.body)) rfl (by kernel_rfl) (by kernel_rfl) (by kernel_rfl) rfl (by kernel_rfl) (by kernel_rfl) (by first | exact List.nil_sublist _ | exact List.Sublist.refl _ | (repeat (first | exact List.Sublist.refl _ | exact List.nil_sublist _ | refine List.Sublist.cons_cons _ ?_ | refine List.Sublist.cons _ ?_))) (OV.load 0 sc43 rfl rfl rfl) rfl ?_
    refine SA.takeC (i := 3) (by repeat (first | exact hPQ | refine PanicOk.then ?_ | refine PanicOk.block ?_ | exact PanicOk.body)) rfl (by kernel_rfl) (by kernel_rfl) (by kernel_rfl) rfl (by first | exact List.nil_sublist _ | exact List.Sublist.refl _ | (repeat (first | exact List.Sublist.refl _ | exact List.nil_sublist _ | refine List.Sublist.cons_cons _ ?_ | refine List.Sublist.cons _ ?_))) (OV.move rfl) rfl ?_
    refine SA.takeC (i := 4) (by repeat (first | exact hPQ | refine PanicOk.then ?_ | refine PanicOk.block ?_ | exact PanicOk.body)) rfl (by kernel_rfl) (by kernel_rfl) (by kernel_rfl) rfl (by first | exact List.nil_sublist _ | exact List.Sublist.refl _ | (repeat (first | exact List.Sublist.refl _ | exact List.nil_sublist _ | refine List.Sublist.cons_cons _ ?_ | refine List.Sublist.cons _ ?_))) (OV.nilCheck rfl) rfl ?_
    refine SA.takeA (i := 5) (by repeat (first | exact hPQ | refine PanicOk.then ?_ | refine PanicOk.block ?_ | exact PanicOk.body)) rfl (by kernel_rfl) (by kernel_rfl) (by kernel_rfl) rfl (by kernel_rfl) (by kernel_rfl) (by first | exact List.nil_sublist _ | exact List.Sublist.refl _ | (repeat (first | exact List.Sublist.refl _ | exact List.nil_sublist _ | refine List.Sublist.cons_cons _ ?_ | refine List.Sublist.cons _ ?_))) (OV.load 0 sc43 rfl rfl rfl) rfl ?_
    refine SA.takeC (i := 6) (by repeat (first | exact hPQ | refine PanicOk.then ?_ | refine PanicOk.block ?_ | exact PanicOk.body)) rfl (by kernel_rfl) (by kernel_rfl) (by kernel_rfl) rfl (by first | exact List.nil_sublist _ | exact List.Sublist.refl _ | (repeat (first | exact List.Sublist.refl _ | exact List.nil_sublist _ | refine List.Sublist.cons_cons _ ?_ | refine List.Sublist.cons _ ?_))) (OV.shl (r := ((r <<< 13).toNat : Int)) rfl rfl (by decide) (u64_shl r 13 (by decide))) rfl ?_
    refine SA.takeC (i := 7) (by repeat (first | exact hPQ | refine PanicOk.then ?_ | refine PanicOk.block ?_ | exact PanicOk.body)) rfl (by kernel_rfl) (by kernel_rfl) (by kernel_rfl) rfl (by first | exact List.nil_sublist _ | exact List.Sublist.refl _ | (repeat (first | exact List.Sublist.refl _ | exact List.nil_sublist _ | refine List.Sublist.cons_cons _ ?_ | refine List.Sublist.cons _ ?_))) (OV.xor rfl rfl (u64_xor r (r <<< 13))) rfl ?_
    refine SA.takeC (i := 8) (by repeat (first | exact hPQ | refine PanicOk.then ?_ | refine PanicOk.block ?_ | exact PanicOk.body)) rfl (by kernel_rfl) (by kernel_rfl) (by kernel_rfl) rfl (by first | exact List.nil_sublist _ | exact List.Sublist.refl _ | (repeat (first | exact List.Sublist.refl _ | exact List.nil_sublist _ | refine List.Sublist.cons_cons _ ?_ | refine List.Sublist.cons _ ?_))) (OV.nilCheck rfl) rfl ?_
    refine SA.all (rs := [9]) (by kernel_rfl) (by simp) (all_cons ?_ (all_nil))
    · skip
      refine SO.s rfl (OS.store1 0 sz43 rfl rfl rfl rfl (by simp)) (by first | exact List.nil_sublist _ | exact List.Sublist.refl _ | (repeat (first | exact List.Sublist.refl _ | exact List.nil_sublist _ | refine List.Sublist.cons_cons _ ?_ | refine List.Sublist.cons _ ?_))) ?_
      refine SA.done (by kernel_rfl) ?_
      exact SE.toSt (by repeat' (first | exact trivial | refine ⟨rfl, ?_⟩)) (List.Sublist.refl _)
  generalize r ^^^ (r <<< 13) = r2
  refine SC.cutSt [(0, .pointer (some ⟨bs, 0, none⟩))] [(bs, row 43 [.int .u64 (r2 ^^^ (r2 >>> 7)).toNat])] ?_ ?_
  · skip
    refine SC.held 9 [(bs, row 43 [.int .u64 r2.toNat])] [] mixed ?_
    refine SA.takeC (i := 0) (by repeat (first | exact hPQ | refine PanicOk.then ?_ | refine PanicOk.block ?_ | exact PanicOk.body)) rfl (by kernel_rfl) (by kernel_rfl) (by kernel_rfl) rfl (by first | exact List.nil_sublist _ | exact List.Sublist.refl _ | (repeat (first | exact List.Sublist.refl _ | exact List.nil_sublist _ | refine List.Sublist.cons_cons _ ?_ | refine List.Sublist.cons _ ?_))) (OV.move rfl) rfl ?_
    refine SA.takeC (i := 1) (by repeat (first | exact hPQ | refine PanicOk.then ?_ | refine PanicOk.block ?_ | exact PanicOk.body)) rfl (by kernel_rfl) (by kernel_rfl) (by kernel_rfl) rfl (by first | exact List.nil_sublist _ | exact List.Sublist.refl _ | (repeat (first | exact List.Sublist.refl _ | exact List.nil_sublist _ | refine List.Sublist.cons_cons _ ?_ | refine List.Sublist.cons _ ?_))) (OV.nilCheck rfl) rfl ?_
    refine SA.takeA (i := 2) (by repeat (first | exact hPQ | refine PanicOk.then ?_ | refine PanicOk.block ?_ | exact PanicOk.body)) rfl (by kernel_rfl) (by kernel_rfl) (by kernel_rfl) rfl (by kernel_rfl) (by kernel_rfl) (by first | exact List.nil_sublist _ | exact List.Sublist.refl _ | (repeat (first | exact List.Sublist.refl _ | exact List.nil_sublist _ | refine List.Sublist.cons_cons _ ?_ | refine List.Sublist.cons _ ?_))) (OV.load 0 sc43 rfl rfl rfl) rfl ?_
    refine SA.takeC (i := 3) (by repeat (first | exact hPQ | refine PanicOk.then ?_ | refine PanicOk.block ?_ | exact PanicOk.body)) rfl (by kernel_rfl) (by kernel_rfl) (by kernel_rfl) rfl (by first | exact List.nil_sublist _ | exact List.Sublist.refl _ | (repeat (first | exact List.Sublist.refl _ | exact List.nil_sublist _ | refine List.Sublist.cons_cons _ ?_ | refine List.Sublist.cons _ ?_))) (OV.move rfl) rfl ?_
    refine SA.takeC (i := 4) (by repeat (first | exact hPQ | refine PanicOk.then ?_ | refine PanicOk.block ?_ | exact PanicOk.body)) rfl (by kernel_rfl) (by kernel_rfl) (by kernel_rfl) rfl (by first | exact List.nil_sublist _ | exact List.Sublist.refl _ | (repeat (first | exact List.Sublist.refl _ | exact List.nil_sublist _ | refine List.Sublist.cons_cons _ ?_ | refine List.Sublist.cons _ ?_))) (OV.nilCheck rfl) rfl ?_
    refine SA.takeA (i := 5) (by repeat (first | exact hPQ | refine PanicOk.then ?_ | refine PanicOk.block ?_ | exact PanicOk.body)) rfl (by kernel_rfl) (by kernel_rfl) (by kernel_rfl) rfl (by kernel_rfl) (by kernel_rfl) (by first | exact List.nil_sublist _ | exact List.Sublist.refl _ | (repeat (first | exact List.Sublist.refl _ | exact List.nil_sublist _ | refine List.Sublist.cons_cons _ ?_ | refine List.Sublist.cons _ ?_))) (OV.load 0 sc43 rfl rfl rfl) rfl ?_
    refine SA.takeC (i := 6) (by repeat (first | exact hPQ | refine PanicOk.then ?_ | refine PanicOk.block ?_ | exact PanicOk.body)) rfl (by kernel_rfl) (by kernel_rfl) (by kernel_rfl) rfl (by first | exact List.nil_sublist _ | exact List.Sublist.refl _ | (repeat (first | exact List.Sublist.refl _ | exact List.nil_sublist _ | refine List.Sublist.cons_cons _ ?_ | refine List.Sublist.cons _ ?_))) (OV.shr (r := ((r2 >>> 7).toNat : Int)) rfl rfl (by decide) (u64_shr r2 7 (by decide))) rfl ?_
    refine SA.takeC (i := 7) (by repeat (first | exact hPQ | refine PanicOk.then ?_ | refine PanicOk.block ?_ | exact PanicOk.body)) rfl (by kernel_rfl) (by kernel_rfl) (by kernel_rfl) rfl (by first | exact List.nil_sublist _ | exact List.Sublist.refl _ | (repeat (first | exact List.Sublist.refl _ | exact List.nil_sublist _ | refine List.Sublist.cons_cons _ ?_ | refine List.Sublist.cons _ ?_))) (OV.xor rfl rfl (u64_xor r2 (r2 >>> 7))) rfl ?_
    refine SA.takeC (i := 8) (by repeat (first | exact hPQ | refine PanicOk.then ?_ | refine PanicOk.block ?_ | exact PanicOk.body)) rfl (by kernel_rfl) (by kernel_rfl) (by kernel_rfl) rfl (by first | exact List.nil_sublist _ | exact List.Sublist.refl _ | (repeat (first | exact List.Sublist.refl _ | exact List.nil_sublist _ | refine List.Sublist.cons_cons _ ?_ | refine List.Sublist.cons _ ?_))) (OV.nilCheck rfl) rfl ?_
    refine SA.all (rs := [9]) (by kernel_rfl) (by simp) (all_cons ?_ (all_nil))
    · skip
      refine SO.s rfl (OS.store1 0 sz43 rfl rfl rfl rfl (by simp)) (by first | exact List.nil_sublist _ | exact List.Sublist.refl _ | (repeat (first | exact List.Sublist.refl _ | exact List.nil_sublist _ | refine List.Sublist.cons_cons _ ?_ | refine List.Sublist.cons _ ?_))) ?_
      refine SA.done (by kernel_rfl) ?_
      exact SE.toSt (by repeat' (first | exact trivial | refine ⟨rfl, ?_⟩)) (List.Sublist.refl _)
  generalize r2 ^^^ (r2 >>> 7) = r3
  refine SC.cutSt [(0, .pointer (some ⟨bs, 0, none⟩))] [(bs, row 43 [.int .u64 (r3 ^^^ (r3 <<< 17)).toNat])] ?_ ?_
  · skip
    refine SC.held 9 [(bs, row 43 [.int .u64 r3.toNat])] [] mixed ?_
    refine SA.takeC (i := 0) (by repeat (first | exact hPQ | refine PanicOk.then ?_ | refine PanicOk.block ?_ | exact PanicOk.body)) rfl (by kernel_rfl) (by kernel_rfl) (by kernel_rfl) rfl (by first | exact List.nil_sublist _ | exact List.Sublist.refl _ | (repeat (first | exact List.Sublist.refl _ | exact List.nil_sublist _ | refine List.Sublist.cons_cons _ ?_ | refine List.Sublist.cons _ ?_))) (OV.move rfl) rfl ?_
    refine SA.takeC (i := 1) (by repeat (first | exact hPQ | refine PanicOk.then ?_ | refine PanicOk.block ?_ | exact PanicOk.body)) rfl (by kernel_rfl) (by kernel_rfl) (by kernel_rfl) rfl (by first | exact List.nil_sublist _ | exact List.Sublist.refl _ | (repeat (first | exact List.Sublist.refl _ | exact List.nil_sublist _ | refine List.Sublist.cons_cons _ ?_ | refine List.Sublist.cons _ ?_))) (OV.nilCheck rfl) rfl ?_
    refine SA.takeA (i := 2) (by repeat (first | exact hPQ | refine PanicOk.then ?_ | refine PanicOk.block ?_ | exact PanicOk.body)) rfl (by kernel_rfl) (by kernel_rfl) (by kernel_rfl) rfl (by kernel_rfl) (by kernel_rfl) (by first | exact List.nil_sublist _ | exact List.Sublist.refl _ | (repeat (first | exact List.Sublist.refl _ | exact List.nil_sublist _ | refine List.Sublist.cons_cons _ ?_ | refine List.Sublist.cons _ ?_))) (OV.load 0 sc43 rfl rfl rfl) rfl ?_
    refine SA.takeC (i := 3) (by repeat (first | exact hPQ | refine PanicOk.then ?_ | refine PanicOk.block ?_ | exact PanicOk.body)) rfl (by kernel_rfl) (by kernel_rfl) (by kernel_rfl) rfl (by first | exact List.nil_sublist _ | exact List.Sublist.refl _ | (repeat (first | exact List.Sublist.refl _ | exact List.nil_sublist _ | refine List.Sublist.cons_cons _ ?_ | refine List.Sublist.cons _ ?_))) (OV.move rfl) rfl ?_
    refine SA.takeC (i := 4) (by repeat (first | exact hPQ | refine PanicOk.then ?_ | refine PanicOk.block ?_ | exact PanicOk.body)) rfl (by kernel_rfl) (by kernel_rfl) (by kernel_rfl) rfl (by first | exact List.nil_sublist _ | exact List.Sublist.refl _ | (repeat (first | exact List.Sublist.refl _ | exact List.nil_sublist _ | refine List.Sublist.cons_cons _ ?_ | refine List.Sublist.cons _ ?_))) (OV.nilCheck rfl) rfl ?_
    refine SA.takeA (i := 5) (by repeat (first | exact hPQ | refine PanicOk.then ?_ | refine PanicOk.block ?_ | exact PanicOk.body)) rfl (by kernel_rfl) (by kernel_rfl) (by kernel_rfl) rfl (by kernel_rfl) (by kernel_rfl) (by first | exact List.nil_sublist _ | exact List.Sublist.refl _ | (repeat (first | exact List.Sublist.refl _ | exact List.nil_sublist _ | refine List.Sublist.cons_cons _ ?_ | refine List.Sublist.cons _ ?_))) (OV.load 0 sc43 rfl rfl rfl) rfl ?_
    refine SA.takeC (i := 6) (by repeat (first | exact hPQ | refine PanicOk.then ?_ | refine PanicOk.block ?_ | exact PanicOk.body)) rfl (by kernel_rfl) (by kernel_rfl) (by kernel_rfl) rfl (by first | exact List.nil_sublist _ | exact List.Sublist.refl _ | (repeat (first | exact List.Sublist.refl _ | exact List.nil_sublist _ | refine List.Sublist.cons_cons _ ?_ | refine List.Sublist.cons _ ?_))) (OV.shl (r := ((r3 <<< 17).toNat : Int)) rfl rfl (by decide) (u64_shl r3 17 (by decide))) rfl ?_
    refine SA.takeC (i := 7) (by repeat (first | exact hPQ | refine PanicOk.then ?_ | refine PanicOk.block ?_ | exact PanicOk.body)) rfl (by kernel_rfl) (by kernel_rfl) (by kernel_rfl) rfl (by first | exact List.nil_sublist _ | exact List.Sublist.refl _ | (repeat (first | exact List.Sublist.refl _ | exact List.nil_sublist _ | refine List.Sublist.cons_cons _ ?_ | refine List.Sublist.cons _ ?_))) (OV.xor rfl rfl (u64_xor r3 (r3 <<< 17))) rfl ?_
    refine SA.takeC (i := 8) (by repeat (first | exact hPQ | refine PanicOk.then ?_ | refine PanicOk.block ?_ | exact PanicOk.body)) rfl (by kernel_rfl) (by kernel_rfl) (by kernel_rfl) rfl (by first | exact List.nil_sublist _ | exact List.Sublist.refl _ | (repeat (first | exact List.Sublist.refl _ | exact List.nil_sublist _ | refine List.Sublist.cons_cons _ ?_ | refine List.Sublist.cons _ ?_))) (OV.nilCheck rfl) rfl ?_
    refine SA.all (rs := [9]) (by kernel_rfl) (by simp) (all_cons ?_ (all_nil))
    · skip
      refine SO.s rfl (OS.store1 0 sz43 rfl rfl rfl rfl (by simp)) (by first | exact List.nil_sublist _ | exact List.Sublist.refl _ | (repeat (first | exact List.Sublist.refl _ | exact List.nil_sublist _ | refine List.Sublist.cons_cons _ ?_ | refine List.Sublist.cons _ ?_))) ?_
      refine SA.done (by kernel_rfl) ?_
      exact SE.toSt (by repeat' (first | exact trivial | refine ⟨rfl, ?_⟩)) (List.Sublist.refl _)
  refine SC.seq ?_
  refine SC.region ?_
  refine SL.y (OV.move rfl) rfl ?_
  refine SL.y (OV.nilCheck rfl) rfl ?_
  refine SL.y (OV.load 0 sc43 rfl rfl rfl) rfl ?_
  refine SL.y (OV.assign rfl) rfl ?_
  refine SL.nil ?_
  refine SC.then ?_
  refine SC.ret ?_
  exact SE.ret1 Yba.results23 rfl (fun w' hM => ⟨rfl, hM⟩)
end Go.Proofs.Ybulkdrfa
