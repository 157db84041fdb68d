import Derived.Test.YbulkdrfaRnd2
namespace Go.Proofs.Ybulkdrfa
open Go Go.RowKit Go.Proofs.Ybulkdrfa.Sym Go.Sort
set_option linter.unusedVariables false
set_option linter.unusedSimpArgs false
set_option maxRecDepth 100000

theorem u64_and (x y : Nat) (hx : x < 2 ^ 64) (hy : y < 2 ^ 64) : IntKind.u64.wrap ((BitVec.ofInt IntKind.u64.bits (x : Int) &&& BitVec.ofInt IntKind.u64.bits (y : Int)).toNat : Int) = ((x &&& y : Nat) : Int) := by
  rw [wrapU, BitVec.toNat_and]
  have h : ∀ t : Nat, t < 2 ^ 64 → (BitVec.ofInt IntKind.u64.bits (t : Int)).toNat = t := by
    intro t ht
    rw [BitVec.ofInt_natCast, BitVec.toNat_ofNat]
    exact Nat.mod_eq_of_lt ht
  rw [h x hx, h y hy]
  congr 1
  exact Nat.mod_eq_of_lt (Nat.lt_of_le_of_lt Nat.and_le_left hx)
theorem pow_bits {l : Nat} (h : 0 < l) : 1 <<< bitsLen l ≤ 2 * l ∧ 0 < 1 <<< bitsLen l := by
  unfold bitsLen
  rw [if_neg (by omega), Nat.shiftLeft_eq, Nat.one_mul, Nat.pow_succ]
  have := Nat.log2_self_le (n := l) (by omega)
  have hp := Nat.two_pow_pos (Nat.log2 l)
  omega
/-- The state behind k rounds. -/
def brk (a l : Nat) (d : Array Nat) : Nat → UInt64 × Array Nat
  | 0 => (UInt64.ofNat l, d)
  | k + 1 => breakStep a l (1 <<< bitsLen l) (brk a l d k) (a + l / 4 * 2 - 1 + k)
theorem brk_eq (d : Array Nat) (a b : Nat) (h : 8 ≤ b - a) : breakPatterns d a b = (brk a (b - a) d 3).2 := by
  unfold breakPatterns
  rw [if_pos h]
  rfl
theorem info43 : (Yba.prog.info? 43).map (fun i => (i.zero, i.size, i.bytes)) = some (some (.int .u64 0), 1, 8) := by kernel_rfl
/-- breakPatternsOrdered -/
theorem call12 {w : World} {blk n c a b : Nat} {d : Array Nat} (hn : n ≤ 60000) (hds : d.size = n) (hb : b ≤ n) (hab : a + 8 ≤ b) (hw : w.heap[blk]? = some (fr d)) :
    Calls Yba.prog 12 #[sl blk n c, .int .i64 a, .int .i64 b] w fun e w' => e = .returned (.tuple #[]) ∧ Mm w [blk] [(blk, fr (breakPatterns d a b))] w' := by
  obtain ⟨i43, hi43, hz43, hs43, hb43⟩ := info_parts info43
  rw [brk_eq d a b (by omega)]
  obtain ⟨l, hl⟩ : ∃ l, l = b - a := ⟨_, rfl⟩
  rw [← hl]
  have hpb := pow_bits (l := l) (by omega)
  refine Calls.of_SC (args := [sl blk n c, .int .i64 a, .int .i64 b]) Yba.func12 rfl (by simp [Yba.f12]) (Mm.ofRow hw) ?_
  have hPQ : PanicOk (bodyPost Yba.prog Yba.f12 (fun e w' => e = .returned (.tuple #[]) ∧ Mm w [blk] [(blk, fr (brk a l d 3).2)] w')) := PanicOk.body
  have hlen : ((UInt64.ofNat l).toNat : Int) = (l : Int) := by
    have : (UInt64.ofNat l).toNat = l := by simp; omega
    rw [this]
  refine SC.seq ?_
  refine SC.region ?_
  refine SL.y (OV.move rfl) rfl ?_
  refine SL.y (OV.move rfl) rfl ?_
  refine SL.y (OV.sub (r := (l : Int)) rfl rfl (by rw [wrap_i64 (by omega) (by omega)]; omega)) rfl ?_
  refine SL.y (OV.assign rfl) rfl ?_
  refine SL.nil ?_
  refine SC.then ?_
  refine SC.seq ?_
  refine SC.region ?_
  refine SL.y (OV.move rfl) rfl ?_
  refine SL.y (OV.geq rfl rfl) rfl ?_
  refine SL.nil ?_
  refine SC.then ?_
  refine SC.condP rfl (fun _ => ?_) (fun h => absurd (show (8 : Int) ≤ (l : Int) by omega) h)
  refine SC.seq ?_
  refine SC.region ?_
  refine SL.y (OV.move rfl) rfl ?_
  refine SL.y (OV.conv u3 u43 rfl (wrap_u64 (by omega) (by omega))) rfl ?_
  refine SL.e (OE.alloc hi43 hz43) rfl ?_
  intro bs
  refine SL.s (OS.store1 1 sz43 rfl rfl rfl rfl (by show 0 < 1; omega)) ?_
  refine SL.nil ?_
  refine SC.then ?_
  refine SC.seq ?_
  refine SC.region ?_
  refine SL.y (OV.move rfl) rfl ?_
  refine SL.callQ pf22 (args1 rfl) (fun w hM => call22 (by omega) w) rfl ?_
  refine SL.y (OV.assign rfl) rfl ?_
  refine SL.nil ?_
  refine SC.then ?_
  refine SC.seq ?_
  refine SC.region ?_
  refine SL.y (OV.move rfl) rfl ?_
  refine SL.y (OV.move rfl) rfl ?_
  refine SL.y (OV.quo (r := ((l / 4 : Nat) : Int)) rfl rfl (by decide) (by rw [Int.tdiv_eq_ediv_of_nonneg (by omega), wrap_i64 (by omega) (by omega)]; omega)) rfl ?_
  refine SL.y (OV.mul (r := ((l / 4 * 2 : Nat) : Int)) rfl rfl (by rw [wrap_i64 (by omega) (by omega)]; omega)) rfl ?_
  refine SL.y (OV.add (r := ((a + l / 4 * 2 : Nat) : Int)) rfl rfl (by rw [wrap_i64 (by omega) (by omega)]; omega)) rfl ?_
  refine SL.y (OV.sub (r := ((a + l / 4 * 2 - 1 + 0 : Nat) : Int)) rfl rfl (by rw [wrap_i64 (by omega) (by omega)]; omega)) rfl ?_
  refine SL.y (OV.assign rfl) rfl ?_
  refine SL.nil ?_
  refine SC.then ?_
  refine SC.block ?_
  refine SC.loopAB (fun (k : Nat) (s : UInt64 × Array Nat) => [(0, sl blk n c), (1, .int .i64 a), (6, .int .i64 l), (7, .pointer (some ⟨bs, 0, none⟩)), (8, .int .u64 (1 <<< bitsLen l : Nat)), (9, .int .i64 (a + l / 4 * 2 - 1 + k : Nat))]) (fun k s => [(blk, fr s.2), (bs, row 43 [.int .u64 s.1.toNat])]) (fun k s => k ≤ 3 ∧ s.2.size = n ∧ s = brk a l d k) (fun k s => 3 - k) 0 (UInt64.ofNat l, d) ⟨by omega, hds, rfl⟩ (by repeat' (first | exact trivial | refine ⟨rfl, ?_⟩)) ?_ ?_
  · dsimp only
    rw [hlen]
    exact (List.Sublist.refl _)
  rintro k ⟨r, q⟩ ⟨hk, hqs, hs⟩
  dsimp only at hqs ⊢
  refine SC.seq ?_
  refine SC.seq ?_
  refine SC.region ?_
  refine SL.y (OV.move rfl) rfl ?_
  refine SL.y (OV.move rfl) rfl ?_
  refine SL.y (OV.move rfl) rfl ?_
  refine SL.y (OV.quo (r := ((l / 4 : Nat) : Int)) rfl rfl (by decide) (by rw [Int.tdiv_eq_ediv_of_nonneg (by omega), wrap_i64 (by omega) (by omega)]; omega)) rfl ?_
  refine SL.y (OV.mul (r := ((l / 4 * 2 : Nat) : Int)) rfl rfl (by rw [wrap_i64 (by omega) (by omega)]; omega)) rfl ?_
  refine SL.y (OV.add (r := ((a + l / 4 * 2 : Nat) : Int)) rfl rfl (by rw [wrap_i64 (by omega) (by omega)]; omega)) rfl ?_
  refine SL.y (OV.add (r := ((a + l / 4 * 2 + 1 : Nat) : Int)) rfl rfl (by rw [wrap_i64 (by omega) (by omega)]; omega)) rfl ?_
  refine SL.y (OV.leq rfl rfl) rfl ?_
  refine SL.nil ?_
  refine SC.then ?_
  refine SC.condP rfl (fun hle => ?_) (fun hgt => ?_)
  · have hk3 : k < 3 := by omega
    refine SC.skip ?_
    refine SC.then ?_
    have hnext : brk a l d (k + 1) = breakStep a l (1 <<< bitsLen l) (r, q) (a + l / 4 * 2 - 1 + k) := by rw [hs]; rfl
    have hstep : breakStep a l (1 <<< bitsLen l) (r, q) (a + l / 4 * 2 - 1 + k) = (xorNext r, swp q (a + l / 4 * 2 - 1 + k) (a + (if (xorNext r).toNat &&& (1 <<< bitsLen l - 1) ≥ l then ((xorNext r).toNat &&& (1 <<< bitsLen l - 1)) - l else (xorNext r).toNat &&& (1 <<< bitsLen l - 1)))) := rfl
    rw [hstep] at hnext
    have hand : (xorNext r).toNat &&& (1 <<< bitsLen l - 1) ≤ 1 <<< bitsLen l - 1 := Nat.and_le_right
    have hrand := u64_and (xorNext r).toNat (1 <<< bitsLen l - 1) (UInt64.toNat_lt _) (by omega)
    generalize 1 <<< bitsLen l = md at *
    generalize hx : xorNext r = r2 at *
    generalize r2.toNat &&& (md - 1) = ot at *
    obtain ⟨ot2, hot2⟩ : ∃ z, z = (if ot ≥ l then ot - l else ot) := ⟨_, rfl⟩
    rw [← hot2] at hnext
    have hot2l : ot2 < l := by rw [hot2]; split <;> omega
    refine SC.cutSt [(0, sl blk n c), (1, .int .i64 a), (6, .int .i64 l), (7, .pointer (some ⟨bs, 0, none⟩)), (8, .int .u64 (md : Nat)), (9, .int .i64 (a + l / 4 * 2 - 1 + k : Nat))] [(blk, fr (swp q (a + l / 4 * 2 - 1 + k) (a + ot2))), (bs, row 43 [.int .u64 r2.toNat])] ?_ ?_
    · refine SC.block ?_
      refine SC.seq ?_
      refine SC.region ?_
      refine SL.callM (j := 1) pf23 (args1 rfl) rfl (fun w1 hM => hx ▸ call23 (r := r) (hM.block (j := 1) rfl)) rfl ?_
      refine SL.y (OV.move rfl) rfl ?_
      refine SL.y (OV.sub (r := ((md - 1 : Nat) : Int)) rfl rfl (by rw [wrap_u64 (by omega) (by omega)]; omega)) rfl ?_
      refine SL.y (OV.and rfl rfl hrand) rfl ?_
      refine SL.y (OV.conv u30 u3 rfl (wrap_i64 (by omega) (by omega))) rfl ?_
      refine SL.y (OV.assign rfl) rfl ?_
      refine SL.nil ?_
      refine SC.then ?_
      refine SC.cutSt [(10, .int .i64 ot2), (0, sl blk n c), (1, .int .i64 a), (6, .int .i64 l), (7, .pointer (some ⟨bs, 0, none⟩)), (8, .int .u64 (md : Nat)), (9, .int .i64 (a + l / 4 * 2 - 1 + k : Nat))] [(blk, fr q), (bs, row 43 [.int .u64 r2.toNat])] ?_ ?_
      · skip
        refine SC.seq ?_
        refine SC.region ?_
        refine SL.y (OV.move rfl) rfl ?_
        refine SL.y (OV.move rfl) rfl ?_
        refine SL.y (OV.geq rfl rfl) rfl ?_
        refine SL.nil ?_
        refine SC.then ?_
        refine SC.condP rfl (fun h => ?_) (fun h => ?_)
        · rw [if_pos (show ot ≥ l by omega)] at hot2
          refine SC.region ?_
          refine SL.y (OV.move rfl) rfl ?_
          refine SL.y (OV.move rfl) rfl ?_
          refine SL.y (OV.sub (r := (ot2 : Int)) rfl rfl (by rw [wrap_i64 (by omega) (by omega)]; omega)) rfl ?_
          refine SL.y (OV.assign rfl) rfl ?_
          refine SL.nil ?_
          exact SE.toSt (by repeat' (first | exact trivial | refine ⟨rfl, ?_⟩)) (List.Sublist.refl _)
        · rw [if_neg (show ¬ ot ≥ l by omega)] at hot2
          refine SC.skip ?_
          refine SE.toSt ?_ (List.Sublist.refl _)
          rw [hot2]
          exact (by repeat' (first | exact trivial | refine ⟨rfl, ?_⟩))
      refine SC.endSt [(0, sl blk n c), (1, .int .i64 a), (6, .int .i64 l), (7, .pointer (some ⟨bs, 0, none⟩)), (8, .int .u64 (md : Nat)), (9, .int .i64 (a + l / 4 * 2 - 1 + k : Nat))] [(blk, fr (swp q (a + l / 4 * 2 - 1 + k) (a + ot2))), (bs, row 43 [.int .u64 r2.toNat])] ?_ (SE.nb (SE.toSt (by repeat' (first | exact trivial | refine ⟨rfl, ?_⟩)) (List.Sublist.refl _)))
      refine SC.held 17 [(blk, fr q)] [] mixed ?_
      refine SA.takeC (i := 0) (by repeat (first | exact hPQ | refine PanicOk.then ?_ | refine PanicOk.block ?_ | exact PanicOk.body)) rfl (by kernel_rfl) (by kernel_rfl) (by kernel_rfl) rfl (by first | exact List.nil_sublist _ | exact List.Sublist.refl _ | (repeat (first | exact List.Sublist.refl _ | exact List.nil_sublist _ | refine List.Sublist.cons_cons _ ?_ | refine List.Sublist.cons _ ?_))) (OV.move rfl) rfl ?_
      refine SA.takeC (i := 1) (by repeat (first | exact hPQ | refine PanicOk.then ?_ | refine PanicOk.block ?_ | exact PanicOk.body)) rfl (by kernel_rfl) (by kernel_rfl) (by kernel_rfl) rfl (by first | exact List.nil_sublist _ | exact List.Sublist.refl _ | (repeat (first | exact List.Sublist.refl _ | exact List.nil_sublist _ | refine List.Sublist.cons_cons _ ?_ | refine List.Sublist.cons _ ?_))) (OV.move rfl) rfl ?_
      refine SA.takeC (i := 2) (by repeat (first | exact hPQ | refine PanicOk.then ?_ | refine PanicOk.block ?_ | exact PanicOk.body)) rfl (by kernel_rfl) (by kernel_rfl) (by kernel_rfl) rfl (by first | exact List.nil_sublist _ | exact List.Sublist.refl _ | (repeat (first | exact List.Sublist.refl _ | exact List.nil_sublist _ | refine List.Sublist.cons_cons _ ?_ | refine List.Sublist.cons _ ?_))) (OV.move rfl) rfl ?_
      refine SA.takeC (i := 3) (by repeat (first | exact hPQ | refine PanicOk.then ?_ | refine PanicOk.block ?_ | exact PanicOk.body)) rfl (by kernel_rfl) (by kernel_rfl) (by kernel_rfl) rfl (by first | exact List.nil_sublist _ | exact List.Sublist.refl _ | (repeat (first | exact List.Sublist.refl _ | exact List.nil_sublist _ | refine List.Sublist.cons_cons _ ?_ | refine List.Sublist.cons _ ?_))) (OV.move rfl) rfl ?_
      refine SA.takeC (i := 4) (by repeat (first | exact hPQ | refine PanicOk.then ?_ | refine PanicOk.block ?_ | exact PanicOk.body)) rfl (by kernel_rfl) (by kernel_rfl) (by kernel_rfl) rfl (by first | exact List.nil_sublist _ | exact List.Sublist.refl _ | (repeat (first | exact List.Sublist.refl _ | exact List.nil_sublist _ | refine List.Sublist.cons_cons _ ?_ | refine List.Sublist.cons _ ?_))) (OV.move rfl) rfl ?_
      refine SA.takeC (i := 5) (by repeat (first | exact hPQ | refine PanicOk.then ?_ | refine PanicOk.block ?_ | exact PanicOk.body)) rfl (by kernel_rfl) (by kernel_rfl) (by kernel_rfl) rfl (by first | exact List.nil_sublist _ | exact List.Sublist.refl _ | (repeat (first | exact List.Sublist.refl _ | exact List.nil_sublist _ | refine List.Sublist.cons_cons _ ?_ | refine List.Sublist.cons _ ?_))) (OV.add rfl rfl (wrap_i64 (by omega) (by omega))) rfl ?_
      refine SA.takeC (i := 6) (by repeat (first | exact hPQ | refine PanicOk.then ?_ | refine PanicOk.block ?_ | exact PanicOk.body)) rfl (by kernel_rfl) (by kernel_rfl) (by kernel_rfl) rfl (by first | exact List.nil_sublist _ | exact List.Sublist.refl _ | (repeat (first | exact List.Sublist.refl _ | exact List.nil_sublist _ | refine List.Sublist.cons_cons _ ?_ | refine List.Sublist.cons _ ?_))) (OV.move rfl) rfl ?_
      refine SA.takeC (i := 7) (by repeat (first | exact hPQ | refine PanicOk.then ?_ | refine PanicOk.block ?_ | exact PanicOk.body)) rfl (by kernel_rfl) (by kernel_rfl) (by kernel_rfl) rfl (by first | exact List.nil_sublist _ | exact List.Sublist.refl _ | (repeat (first | exact List.Sublist.refl _ | exact List.nil_sublist _ | refine List.Sublist.cons_cons _ ?_ | refine List.Sublist.cons _ ?_))) (OV.move rfl) rfl ?_
      refine SA.takeC (i := 8) (by repeat (first | exact hPQ | refine PanicOk.then ?_ | refine PanicOk.block ?_ | exact PanicOk.body)) rfl (by kernel_rfl) (by kernel_rfl) (by kernel_rfl) rfl (by first | exact List.nil_sublist _ | exact List.Sublist.refl _ | (repeat (first | exact List.Sublist.refl _ | exact List.nil_sublist _ | refine List.Sublist.cons_cons _ ?_ | refine List.Sublist.cons _ ?_))) (OV.move rfl) rfl ?_
      refine SA.takeC (i := 9) (by repeat (first | exact hPQ | refine PanicOk.then ?_ | refine PanicOk.block ?_ | exact PanicOk.body)) rfl (by kernel_rfl) (by kernel_rfl) (by kernel_rfl) rfl (by first | exact List.nil_sublist _ | exact List.Sublist.refl _ | (repeat (first | exact List.Sublist.refl _ | exact List.nil_sublist _ | refine List.Sublist.cons_cons _ ?_ | refine List.Sublist.cons _ ?_))) (OV.add rfl rfl (wrap_i64 (by omega) (by omega))) rfl ?_
      refine SA.takeC (i := 10) (by repeat (first | exact hPQ | refine PanicOk.then ?_ | refine PanicOk.block ?_ | exact PanicOk.body)) rfl (by kernel_rfl) (by kernel_rfl) (by kernel_rfl) rfl (by first | exact List.nil_sublist _ | exact List.Sublist.refl _ | (repeat (first | exact List.Sublist.refl _ | exact List.nil_sublist _ | refine List.Sublist.cons_cons _ ?_ | refine List.Sublist.cons _ ?_))) (OV.idx1 (a + ot2) u22 se22 rfl rfl (by omega) (by omega)) rfl ?_
      refine SA.takeA (i := 11) (by repeat (first | exact hPQ | refine PanicOk.then ?_ | refine PanicOk.block ?_ | exact PanicOk.body)) rfl (by kernel_rfl) (by kernel_rfl) (by kernel_rfl) rfl (by kernel_rfl) (by kernel_rfl) (by first | exact List.nil_sublist _ | exact List.Sublist.refl _ | (repeat (first | exact List.Sublist.refl _ | exact List.nil_sublist _ | refine List.Sublist.cons_cons _ ?_ | refine List.Sublist.cons _ ?_))) (OV.loadFr 0 sc23 rfl rfl (by omega)) rfl ?_
      refine SA.takeC (i := 12) (by repeat (first | exact hPQ | refine PanicOk.then ?_ | refine PanicOk.block ?_ | exact PanicOk.body)) rfl (by kernel_rfl) (by kernel_rfl) (by kernel_rfl) rfl (by first | exact List.nil_sublist _ | exact List.Sublist.refl _ | (repeat (first | exact List.Sublist.refl _ | exact List.nil_sublist _ | refine List.Sublist.cons_cons _ ?_ | refine List.Sublist.cons _ ?_))) (OV.move rfl) rfl ?_
      refine SA.takeC (i := 13) (by repeat (first | exact hPQ | refine PanicOk.then ?_ | refine PanicOk.block ?_ | exact PanicOk.body)) rfl (by kernel_rfl) (by kernel_rfl) (by kernel_rfl) rfl (by first | exact List.nil_sublist _ | exact List.Sublist.refl _ | (repeat (first | exact List.Sublist.refl _ | exact List.nil_sublist _ | refine List.Sublist.cons_cons _ ?_ | refine List.Sublist.cons _ ?_))) (OV.move rfl) rfl ?_
      refine SA.takeC (i := 14) (by repeat (first | exact hPQ | refine PanicOk.then ?_ | refine PanicOk.block ?_ | exact PanicOk.body)) rfl (by kernel_rfl) (by kernel_rfl) (by kernel_rfl) rfl (by first | exact List.nil_sublist _ | exact List.Sublist.refl _ | (repeat (first | exact List.Sublist.refl _ | exact List.nil_sublist _ | refine List.Sublist.cons_cons _ ?_ | refine List.Sublist.cons _ ?_))) (OV.idx1 (a + l / 4 * 2 - 1 + k) u22 se22 rfl rfl (by omega) (by omega)) rfl ?_
      refine SA.takeA (i := 15) (by repeat (first | exact hPQ | refine PanicOk.then ?_ | refine PanicOk.block ?_ | exact PanicOk.body)) rfl (by kernel_rfl) (by kernel_rfl) (by kernel_rfl) rfl (by kernel_rfl) (by kernel_rfl) (by first | exact List.nil_sublist _ | exact List.Sublist.refl _ | (repeat (first | exact List.Sublist.refl _ | exact List.nil_sublist _ | refine List.Sublist.cons_cons _ ?_ | refine List.Sublist.cons _ ?_))) (OV.loadFr 0 sc23 rfl rfl (by omega)) rfl ?_
      refine SA.takeC (i := 16) (by repeat (first | exact hPQ | refine PanicOk.then ?_ | refine PanicOk.block ?_ | exact PanicOk.body)) rfl (by kernel_rfl) (by kernel_rfl) (by kernel_rfl) rfl (by first | exact List.nil_sublist _ | exact List.Sublist.refl _ | (repeat (first | exact List.Sublist.refl _ | exact List.nil_sublist _ | refine List.Sublist.cons_cons _ ?_ | refine List.Sublist.cons _ ?_))) (OV.idx1 (a + l / 4 * 2 - 1 + k) u22 se22 rfl rfl (by omega) (by omega)) rfl ?_
      refine SA.all (rs := [17]) (by kernel_rfl) (by simp) (all_cons ?_ (all_nil))
      · skip
        refine SO.s rfl (OS.storeFr 0 sz23 rfl rfl rfl (by omega)) (by first | exact List.nil_sublist _ | exact List.Sublist.refl _ | (repeat (first | exact List.Sublist.refl _ | exact List.nil_sublist _ | refine List.Sublist.cons_cons _ ?_ | refine List.Sublist.cons _ ?_))) ?_
        refine SA.takeC (i := 18) (by repeat (first | exact hPQ | refine PanicOk.then ?_ | refine PanicOk.block ?_ | exact PanicOk.body)) rfl (by kernel_rfl) (by kernel_rfl) (by kernel_rfl) rfl (by first | exact List.nil_sublist _ | exact List.Sublist.refl _ | (repeat (first | exact List.Sublist.refl _ | exact List.nil_sublist _ | refine List.Sublist.cons_cons _ ?_ | refine List.Sublist.cons _ ?_))) (OV.idx1 (a + ot2) u22 se22 rfl rfl (by omega) (by omega)) rfl ?_
        refine SA.all (rs := [19]) (by kernel_rfl) (by simp) (all_cons ?_ (all_nil))
        · skip
          refine SO.s rfl (OS.storeFr 0 sz23 rfl rfl rfl (by simp; omega)) (by first | exact List.nil_sublist _ | exact List.Sublist.refl _ | (repeat (first | exact List.Sublist.refl _ | exact List.nil_sublist _ | refine List.Sublist.cons_cons _ ?_ | refine List.Sublist.cons _ ?_))) ?_
          refine SA.done (by kernel_rfl) ?_
          exact SE.toSt (by repeat' (first | exact trivial | refine ⟨rfl, ?_⟩)) (List.Sublist.refl _)
    refine SC.region ?_
    refine SL.y (OV.move rfl) rfl ?_
    refine SL.y (OV.add rfl rfl (wrap_i64 (by omega) (by omega))) rfl ?_
    refine SL.y (OV.assign rfl) rfl ?_
    refine SL.nil ?_
    exact SE.roundAB (k + 1) (r2, swp q (a + l / 4 * 2 - 1 + k) (a + ot2)) ⟨by omega, by rw [size_swp]; exact hqs, hnext.symm⟩ (by omega) (by repeat' (first | exact trivial | refine ⟨rfl, ?_⟩)) (List.Sublist.refl _)
  · have hk3 : k = 3 := by omega
    subst hk3
    refine SC.exit ?_
    refine SE.thenE (SE.thenE (SE.inBlock ?_))
    rw [← hs]
    exact SE.end0 Yba.results12 (fun w' hM => ⟨rfl, hM.weaken ((List.nil_sublist _).cons_cons _)⟩)
end Go.Proofs.Ybulkdrfa
