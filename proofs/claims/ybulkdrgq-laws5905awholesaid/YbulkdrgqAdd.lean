import Derived.Test.YbulkdrgqTime
namespace Go.Proofs.Ybulkdrgq
open Go Go.RowKit Go.Proofs.Ybulkdrgq.Sym
set_option linter.unusedVariables false
set_option linter.unusedSimpArgs false
set_option maxRecDepth 100000

def secOf (d : Int) : Int := if d.tmod 1000000000 < 0 then d.tdiv 1000000000 - 1 else d.tdiv 1000000000
def nsOf (d : Int) : Nat := if d.tmod 1000000000 < 0 then (d.tmod 1000000000 + 1000000000).toNat else (d.tmod 1000000000).toNat
theorem tm_bounds (d : Int) : -1000000000 < d.tmod 1000000000 ∧ d.tmod 1000000000 < 1000000000 := ⟨Int.lt_tmod_of_pos d (by decide), Int.tmod_lt_of_pos d (by decide)⟩
theorem tq_bounds {d : Int} (h1 : -9223372036854775808 ≤ d) (h2 : d ≤ 9223372036854775807) : -9223372037 ≤ d.tdiv 1000000000 ∧ d.tdiv 1000000000 ≤ 9223372037 := by
  have h := Int.mul_tdiv_add_tmod d 1000000000
  have := tm_bounds d
  omega
theorem nsOf_lt (d : Int) : nsOf d < 1000000000 := by
  have := tm_bounds d
  unfold nsOf
  split <;> omega
theorem secOf_bounds {d : Int} (h1 : -9223372036854775808 ≤ d) (h2 : d ≤ 9223372036854775807) : -9223372036854775808 ≤ secOf d ∧ secOf d ≤ 9223372036854775807 := by
  have := tq_bounds h1 h2
  unfold secOf
  split <;> omega
theorem info25 : (Yba.prog.info? 25).map (fun i => (i.zero, i.size, i.bytes)) = some (some (tv 0 0), 3, 24) := by kernel_rfl
theorem ag25 : scalar Yba.prog 25 = false := by kernel_rfl
theorem us25 : (Yba.prog.underlying 25).isSome = true := by kernel_rfl
theorem tcs_one {n : Nat} {s : Int} : ∀ u ∈ (tv n s).cells.toList, u.oneCell' = true := by
  intro u hu
  simp [Value.cells] at hu
  rcases hu with rfl | rfl | rfl <;> rfl
/-- Time.Add, at the zero time -/
theorem call4 {w : World} {d : Int} (hd1 : -9223372036854775808 ≤ d) (hd2 : d ≤ 9223372036854775807) :
    Calls Yba.prog 4 #[tv 0 0, .int .i64 d] w fun e w' => e = .returned (tv (nsOf d) (secOf d)) ∧ Mm w [] [] w' := by
  obtain ⟨i25, hi, hz, hs, hb⟩ := info_parts info25
  have hn := nsOf_lt d
  have hr := tm_bounds d
  have hq := tq_bounds hd1 hd2
  have hsb := secOf_bounds hd1 hd2
  refine Calls.of_SC (args := [tv 0 0, .int .i64 d]) Yba.func4 rfl (by simp [Yba.f4]) (Mm.start w) ?_
  refine SC.seq ?_
  refine SC.region ?_
  refine SL.e (OE.box rfl) rfl ?_
  intro b2
  refine SL.e (OE.alloc hi hz) rfl ?_
  intro b4
  refine SL.nil ?_
  refine SC.then ?_
  refine SC.seq ?_
  refine SC.region ?_
  refine SL.y (OV.move rfl) rfl ?_
  refine SL.y (OV.quo rfl rfl (by decide) (wrap_i64 (by omega) (by omega))) rfl ?_
  refine SL.y (OV.assign rfl) rfl ?_
  refine SL.nil ?_
  refine SC.then ?_
  refine SC.seq ?_
  refine SC.region ?_
  refine SL.callQ pf10 (args1 rfl) (fun w' hM => call10 (n := 0) (s := 0) (by decide) (hM.block (j := 0) rfl)) rfl ?_
  refine SL.y (OV.move rfl) rfl ?_
  refine SL.y (OV.rem rfl rfl (by decide) rfl) rfl ?_
  refine SL.y (OV.conv u27 u21 rfl (wrap_i32 (by omega) (by omega))) rfl ?_
  refine SL.y (OV.add rfl rfl (wrap_i32 (by omega) (by omega))) rfl ?_
  refine SL.y (OV.assign rfl) rfl ?_
  refine SL.nil ?_
  refine SC.then ?_
  refine SC.cutSt [(2, pt b2), (4, pt b4), (1, .int .i64 d), (5, .int .i64 (secOf d)), (6, .int .i32 (nsOf d))] [(b2, row 25 (tcs 0 0)), (b4, row 25 (tcs 0 0))] ?_ ?_
  · skip
    refine SC.seq ?_
    refine SC.region ?_
    refine SL.y (OV.move rfl) rfl ?_
    refine SL.y ((OV.geq rfl rfl).no (by omega)) rfl ?_
    refine SL.nil ?_
    refine SC.then ?_
    refine SC.cond rfl (fun e => by cases e) (fun _ => ?_)
    refine SC.seq ?_
    refine SC.region ?_
    refine SL.y (OV.move rfl) rfl ?_
    refine SL.y (OV.lss rfl rfl) rfl ?_
    refine SL.nil ?_
    refine SC.then ?_
    refine SC.condP rfl (fun hlt => ?_) (fun hge => ?_)
    · have e1 : secOf d = d.tdiv 1000000000 - 1 := by unfold secOf; rw [if_pos (by omega)]
      have e2 : (nsOf d : Int) = ((0 : Nat) : Int) + d.tmod 1000000000 + 1000000000 := by unfold nsOf; rw [if_pos (by omega)]; omega
      refine SC.seq ?_
      refine SC.region ?_
      refine SL.y (OV.move rfl) rfl ?_
      refine SL.y (OV.sub rfl rfl (wrap_i64 (by omega) (by omega))) rfl ?_
      refine SL.y (OV.assign rfl) rfl ?_
      refine SL.nil ?_
      refine SC.then ?_
      refine SC.region ?_
      refine SL.y (OV.move rfl) rfl ?_
      refine SL.y (OV.add rfl rfl (wrap_i32 (by omega) (by omega))) rfl ?_
      refine SL.y (OV.assign rfl) rfl ?_
      refine SL.nil ?_
      rw [e1, e2]
      exact SE.toSt (by repeat' (first | exact trivial | refine ⟨rfl, ?_⟩)) (List.Sublist.refl _)
    · have e1 : secOf d = d.tdiv 1000000000 := by unfold secOf; rw [if_neg (by omega)]
      have e2 : (nsOf d : Int) = ((0 : Nat) : Int) + d.tmod 1000000000 := by unfold nsOf; rw [if_neg (by omega)]; omega
      refine SC.skip ?_
      rw [e1, e2]
      exact SE.toSt (by repeat' (first | exact trivial | refine ⟨rfl, ?_⟩)) (List.Sublist.refl _)
  refine SC.seq ?_
  refine SC.region ?_
  refine SL.y (OV.fld fo25_0 rfl) rfl ?_
  refine SL.y (OV.loadF 0 sc22 rfl rfl rfl) rfl ?_
  refine SL.y (OV.andNot (r := 0) rfl rfl (by decide)) rfl ?_
  refine SL.y (OV.move rfl) rfl ?_
  refine SL.y (OV.conv u21 u22 rfl (wrap_u64 (by omega) (by omega))) rfl ?_
  refine SL.y (OV.or rfl rfl (or_zero (by omega))) rfl ?_
  refine SL.y (OV.fld fo25_0 rfl) rfl ?_
  refine SL.s (OS.store1 0 sz22 rfl rfl rfl rfl (by show 0 < 3; decide)) ?_
  refine SL.nil ?_
  refine SC.then ?_
  refine SC.seq ?_
  refine SC.region ?_
  refine SL.y (OV.move rfl) rfl ?_
  refine SL.callB (j := 0) pf11 (args2 rfl rfl) rfl (fun w' h => call11 (n := nsOf d) (by omega) h (by omega) (by omega)) rfl ?_
  refine SL.nil ?_
  refine SC.then ?_
  refine SC.seq ?_
  refine SC.seq ?_
  refine SC.region ?_
  refine SL.y (OV.fld fo25_0 rfl) rfl ?_
  refine SL.y (OV.loadF 0 sc22 rfl rfl rfl) rfl ?_
  refine SL.y (OV.and rfl rfl (and_high (by omega))) rfl ?_
  refine SL.y ((OV.neq rfl rfl).no (by omega)) rfl ?_
  refine SL.nil ?_
  refine SC.then ?_
  refine SC.cond rfl (fun e => by cases e) (fun _ => ?_)
  refine SC.skip ?_
  refine SC.then ?_
  refine SC.seq ?_
  refine SC.region ?_
  refine SL.y (OV.loadAgg (vs := tcs (nsOf d) (secOf d)) 0 ag25 us25 hi rfl rfl (by rw [hs]; rfl) (fun q v h => by rw [Nat.zero_add]; exact h)) rfl ?_
  refine SL.s (OS.storeAll 1 hi rfl rfl rfl (by rw [hs]; rfl) tcs_one (by rw [hs]; rfl)) ?_
  refine SL.nil ?_
  refine SC.then ?_
  refine SC.ret ?_
  exact SE.retC (j := 1) (xs := tcs (nsOf d) (secOf d)) Yba.results4 rfl ag25 us25 hi (by rw [hs]; rfl) rfl (fun q v h => h) (fun w' hM => ⟨rfl, hM.weaken (List.nil_sublist _)⟩)
theorem pf4 : plainFunc Yba.prog 4 = true := by kernel_rfl
end Go.Proofs.Ybulkdrgq
