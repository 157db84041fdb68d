import Derived.Test.YbulkdrciDoorForms2
namespace Go.Proofs.YbulkdrciDoor
open Go Go.RowKit Go.Proofs.YbulkdrciDoor.Sym
set_option linter.unusedVariables false
set_option linter.unusedSimpArgs false

section
variable {env : Env} {x0 x1 x2 x3 x4 x5 : Operand} {v0 v1 v2 v3 v4 v5 : Value} {i0 i1 i2 i3 i4 i5 : Nat}
theorem parts3 (h0 : ev env x0 = some v0) (h1 : ev env x1 = some v1) (h2 : ev env x2 = some v2) (ρ : Operand → Value) (hρ : ∀ x u, ev env x = some u → ρ x = u) :
    (#[(i0, x0), (i1, x1), (i2, x2)] : Array (Nat × Operand)).map (fun p => (p.1, ρ p.2)) = #[(i0, v0), (i1, v1), (i2, v2)] := by simp [hρ x0 _ h0, hρ x1 _ h1, hρ x2 _ h2]
theorem parts4 (h0 : ev env x0 = some v0) (h1 : ev env x1 = some v1) (h2 : ev env x2 = some v2) (h3 : ev env x3 = some v3) (ρ : Operand → Value) (hρ : ∀ x u, ev env x = some u → ρ x = u) :
    (#[(i0, x0), (i1, x1), (i2, x2), (i3, x3)] : Array (Nat × Operand)).map (fun p => (p.1, ρ p.2)) = #[(i0, v0), (i1, v1), (i2, v2), (i3, v3)] := by simp [hρ x0 _ h0, hρ x1 _ h1, hρ x2 _ h2, hρ x3 _ h3]
theorem parts5 (h0 : ev env x0 = some v0) (h1 : ev env x1 = some v1) (h2 : ev env x2 = some v2) (h3 : ev env x3 = some v3) (h4 : ev env x4 = some v4) (ρ : Operand → Value) (hρ : ∀ x u, ev env x = some u → ρ x = u) :
    (#[(i0, x0), (i1, x1), (i2, x2), (i3, x3), (i4, x4)] : Array (Nat × Operand)).map (fun p => (p.1, ρ p.2)) = #[(i0, v0), (i1, v1), (i2, v2), (i3, v3), (i4, v4)] := by simp [hρ x0 _ h0, hρ x1 _ h1, hρ x2 _ h2, hρ x3 _ h3, hρ x4 _ h4]
theorem parts6 (h0 : ev env x0 = some v0) (h1 : ev env x1 = some v1) (h2 : ev env x2 = some v2) (h3 : ev env x3 = some v3) (h4 : ev env x4 = some v4) (h5 : ev env x5 = some v5) (ρ : Operand → Value) (hρ : ∀ x u, ev env x = some u → ρ x = u) :
    (#[(i0, x0), (i1, x1), (i2, x2), (i3, x3), (i4, x4), (i5, x5)] : Array (Nat × Operand)).map (fun p => (p.1, ρ p.2)) = #[(i0, v0), (i1, v1), (i2, v2), (i3, v3), (i4, v4), (i5, v5)] := by simp [hρ x0 _ h0, hρ x1 _ h1, hρ x2 _ h2, hρ x3 _ h3, hρ x4 _ h4, hρ x5 _ h5]
end

theorem bld34s (a b : ByteArray) (w : World) : (Instr.build 34 #[(0, .string bNone), (1, .string a), (2, .string b)]).run Ybad.prog w = .ok (.agg #[.string bNone, .string a, .string b, .string bNone, .string bNone]) w := by kernel_rfl
theorem bld34l (a b : ByteArray) (w : World) : (Instr.build 34 #[(0, .string bNone), (1, .string a), (2, .string b), (3, .string bTo), (4, .string bNone)]).run Ybad.prog w = .ok (.agg #[.string bNone, .string a, .string b, .string bTo, .string bNone]) w := by kernel_rfl
theorem bld30 (a b : ByteArray) (t : Bool) (f : Int) (w : World) : (Instr.build 30 #[(0, .string a), (1, .string b), (2, .bool t), (3, .int .u8 f)]).run Ybad.prog w = .ok (.agg #[.string a, .string b, .bool t, .int .u8 f]) w := by kernel_rfl
theorem bld36_0 (w : World) : (Instr.build 36 #[(0, .agg #[.string bNone, .string bAfter, .string bReady, .string bNone, .string bNone]), (1, .int .i64 3), (2, .bool false), (3, .agg #[.string bAfter, .string bReady, .bool false, .int .u8 2])]).run Ybad.prog w = .ok (.agg (cf 0).form.toArray) w := by kernel_rfl
theorem bld36_1 (w : World) : (Instr.build 36 #[(0, .agg #[.string bNone, .string bBefore, .string bPrepare, .string bNone, .string bNone]), (1, .int .i64 3), (2, .bool false), (3, .agg #[.string bBefore, .string bPrepare, .bool false, .int .u8 3])]).run Ybad.prog w = .ok (.agg (cf 1).form.toArray) w := by kernel_rfl
theorem bld36_2 (w : World) : (Instr.build 36 #[(0, .agg #[.string bNone, .string bAfter, .string bPrepare, .string bNone, .string bNone]), (1, .int .i64 3), (2, .bool true), (3, .agg #[.string bAfter, .string bPrepare, .bool false, .int .u8 4])]).run Ybad.prog w = .ok (.agg (cf 2).form.toArray) w := by kernel_rfl
theorem bld36_3 (w : World) : (Instr.build 36 #[(0, .agg #[.string bNone, .string bAfter, .string bPrepare, .string bTo, .string bNone]), (1, .int .i64 5), (2, .bool true), (3, .agg #[.string bAfter, .string bPrepare, .bool true, .int .u8 4])]).run Ybad.prog w = .ok (.agg (cf 3).form.toArray) w := by kernel_rfl
theorem bld36_4 (w : World) : (Instr.build 36 #[(0, .agg #[.string bNone, .string bAfter, .string bDecision, .string bNone, .string bNone]), (1, .int .i64 3), (2, .bool true), (3, .agg #[.string bAfter, .string bDecision, .bool false, .int .u8 5])]).run Ybad.prog w = .ok (.agg (cf 4).form.toArray) w := by kernel_rfl
theorem bld36_5 (w : World) : (Instr.build 36 #[(0, .agg #[.string bNone, .string bAfter, .string bDecision, .string bTo, .string bNone]), (1, .int .i64 5), (2, .bool true), (3, .agg #[.string bAfter, .string bDecision, .bool true, .int .u8 5])]).run Ybad.prog w = .ok (.agg (cf 5).form.toArray) w := by kernel_rfl
/-- The six forms, cell by cell. -/
def cells66 : List Value := (cf 0).form ++ (cf 1).form ++ (cf 2).form ++ (cf 3).form ++ (cf 4).form ++ (cf 5).form
theorem bld37 (w : World) : (Instr.build 37 #[(0, .agg (cf 0).form.toArray), (1, .agg (cf 1).form.toArray), (2, .agg (cf 2).form.toArray), (3, .agg (cf 3).form.toArray), (4, .agg (cf 4).form.toArray), (5, .agg (cf 5).form.toArray)]).run Ybad.prog w = .ok (.agg cells66.toArray) w := by kernel_rfl
theorem cells66_one : ∀ u ∈ cells66, u.oneCell' = true := by
  intro u hu
  unfold cells66 at hu
  simp only [List.mem_append] at hu
  rcases hu with ((((h | h) | h) | h) | h) | h <;> exact CF.form_one _ u h
theorem cells66_len : cells66.length = 66 := rfl
theorem cells66_at (i : Nat) (hi : i < 6) : (cells66.drop (i * 11)).take 11 = (cf i).form := by
  match i, hi with
  | 0, _ | 1, _ | 2, _ | 3, _ | 4, _ | 5, _ => rfl
theorem cells66_get (i : Nat) (hi : i < 6) (q : Nat) (v : Value) (h : (cf i).form[q]? = some v) : cells66[0 + i * 11 + q]? = some v := by
  rw [← cells66_at i hi, List.getElem?_take] at h
  split at h
  · rw [List.getElem?_drop] at h
    rw [Nat.zero_add]; exact h
  · cases h

/-- zzs5897cforms -/
theorem call8 (w : World) : Calls Ybad.prog 8 #[] w fun e w' => e = .returned (.agg cells66.toArray) ∧ Mm w [] [] w' := by
  cases hi : Ybad.prog.info? 37 with
  | none => have := info37; simp [hi] at this
  | some i =>
  have h37 := info37
  simp only [hi, Option.map_some, Option.some.injEq, Prod.mk.injEq] at h37
  obtain ⟨hz, hs⟩ := h37
  cases hzz : i.zero with
  | none => simp [hzz] at hz
  | some z =>
  simp [hzz] at hz
  have hz66 : z.cells.toList.length = 66 := by simpa using hz
  refine Calls.of_SC (args := []) Ybad.func8 rfl (by simp [Ybad.f8]) (Mm.start w) ?_
  refine SC.seq ?_
  refine SC.region ?_
  refine SL.e (OE.alloc hi hzz) rfl ?_
  intro b
  refine SL.nil ?_
  refine SC.then ?_
  refine SC.seq ?_
  refine SC.region ?_
  refine SL.y (OV.build (parts3 rfl rfl rfl) (bld34s bAfter bReady)) rfl ?_
  refine SL.y (OV.build (parts4 rfl rfl rfl rfl) (bld30 bAfter bReady _ _)) rfl ?_
  refine SL.y (OV.build (parts4 rfl rfl rfl rfl) (bld36_0)) rfl ?_
  refine SL.y (OV.build (parts3 rfl rfl rfl) (bld34s bBefore bPrepare)) rfl ?_
  refine SL.y (OV.build (parts4 rfl rfl rfl rfl) (bld30 bBefore bPrepare _ _)) rfl ?_
  refine SL.y (OV.build (parts4 rfl rfl rfl rfl) (bld36_1)) rfl ?_
  refine SL.y (OV.build (parts3 rfl rfl rfl) (bld34s bAfter bPrepare)) rfl ?_
  refine SL.y (OV.build (parts4 rfl rfl rfl rfl) (bld30 bAfter bPrepare _ _)) rfl ?_
  refine SL.y (OV.build (parts4 rfl rfl rfl rfl) (bld36_2)) rfl ?_
  refine SL.y (OV.build (parts5 rfl rfl rfl rfl rfl) (bld34l bAfter bPrepare)) rfl ?_
  refine SL.y (OV.build (parts4 rfl rfl rfl rfl) (bld30 bAfter bPrepare _ _)) rfl ?_
  refine SL.y (OV.build (parts4 rfl rfl rfl rfl) (bld36_3)) rfl ?_
  refine SL.y (OV.build (parts3 rfl rfl rfl) (bld34s bAfter bDecision)) rfl ?_
  refine SL.y (OV.build (parts4 rfl rfl rfl rfl) (bld30 bAfter bDecision _ _)) rfl ?_
  refine SL.y (OV.build (parts4 rfl rfl rfl rfl) (bld36_4)) rfl ?_
  refine SL.y (OV.build (parts5 rfl rfl rfl rfl rfl) (bld34l bAfter bDecision)) rfl ?_
  refine SL.y (OV.build (parts4 rfl rfl rfl rfl) (bld30 bAfter bDecision _ _)) rfl ?_
  refine SL.y (OV.build (parts4 rfl rfl rfl rfl) (bld36_5)) rfl ?_
  refine SL.y (OV.build (parts6 rfl rfl rfl rfl rfl rfl) bld37) rfl ?_
  refine SL.s (OS.storeAll 0 hi rfl rfl rfl (by rw [hs]; rfl) cells66_one (by rw [hs]; exact hz66)) ?_
  refine SL.nil ?_
  refine SC.then ?_
  refine SC.ret ?_
  exact SE.retC (j := 0) (xs := cells66) Ybad.results8 rfl ag37 us37 hi (by rw [hs]; rfl) rfl (fun q v h => h) (fun w' hM => ⟨rfl, hM.weaken (List.nil_sublist _)⟩)
end Go.Proofs.YbulkdrciDoor
