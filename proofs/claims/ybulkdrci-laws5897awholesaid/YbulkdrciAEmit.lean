import Derived.Test.YbulkdrciARun
namespace Go.Proofs.Ybulkdrci.A
open Go Go.RowKit Go.Proofs.Ybulkdrci.A.Sym
set_option linter.unusedVariables false
set_option linter.unusedSimpArgs false
set_option maxRecDepth 100000

/-- A run stands in memory. -/
structure At (D : RD) (br bN : Nat) (cm : Bool) (x y : Int) (s : NSt) (w : World) : Prop where
  hr : w.heap[br]? = some (rrow D bN cm x y)
  hn : w.heap[bN]? = some (nrow D s)
  ne : br ≠ bN
  hP : Ps D w [br, bN]
theorem At.start {D : RD} {br bN : Nat} {cm : Bool} {x y : Int} {s : NSt} {w : World} (h : At D br bN cm x y s w) : Mm w [br, bN] [(br, rrow D bN cm x y), (bN, nrow D s)] w :=
  Mm.start' (fun p hp => by simp at hp; rcases hp with rfl | rfl; exact h.hr; exact h.hn) rfl (by simp [h.ne])
theorem Mm.callR {w0 w w' : World} {F : List Nat} {br bN : Nat} {o1 o2 o1' o2' : Obj} {rest : List Blk} (h : Mm w0 F ((br, o1) :: (bN, o2) :: rest) w) (h' : Mm w [br, bN] [(br, o1'), (bN, o2')] w') : Mm w0 F ((br, o1') :: (bN, o2') :: rest) w' := by
  have := h.callee2 (j1 := 0) (j2 := 1) (new := []) h' rfl rfl (by decide)
  simpa using this
/-- The same run, further on in a method of its own. -/
theorem At.go {D : RD} {br bN : Nat} {cm cm' : Bool} {x y x' y' : Int} {s s' : NSt} {w0 w : World} {rest : List Blk} (h : At D br bN cm x y s w0) (hM : Mm w0 [br, bN] ((br, rrow D bN cm' x' y') :: (bN, nrow D s') :: rest) w) : At D br bN cm' x' y' s' w :=
  ⟨hM.block (j := 0) rfl, hM.block (j := 1) rfl, h.ne, h.hP.of_Mm hM (fun b hb => hb)⟩
/-- What a method of the run does. -/
def Does (f : Nat) (args : Array Value) (w : World) (D : RD) (br bN : Nat) (v : Value) (cm : Bool) (s : NSt) : Prop :=
  Calls Yba.prog f args w fun e w' => ∃ z : Int × Int, e = .returned v ∧ True ∧ Mm w [br, bN] [(br, rrow D bN cm z.1 z.2), (bN, nrow D s)] w'
theorem Sym.SL.callR {D : RD} {br bN : Nat} {cm cm' : Bool} {x y : Int} {s s' : NSt} {rest' : List Blk} {w0 : World} {F : List Nat} {env : Env} {ty : TypeId} {pos : String} {af : Array Edge} {Q : Exit → Act → World → Prop} {N : Nat} {ops : Array Oper} {rest : List Oper} {d f : Nat} {args : Array Operand} {ts : Array TypeId} {vs : Array Value} {v : Value} (hf : plainFunc Yba.prog f = true) (hargs : ∀ (ρ : Operand → Value), (∀ x u, ev env x = some u → ρ x = u) → args.map ρ = vs)
    (hc : ∀ w : World, Mm w0 F ((br, rrow D bN cm x y) :: (bN, nrow D s) :: rest') w → Does f vs w D br bN v cm' s') (hd : Nat.blt d N = true)
    (h : ∀ z : Int × Int, SL Yba.prog ops Q rest N ((d, v) :: env) w0 F ((br, rrow D bN cm' z.1 z.2) :: (bN, nrow D s') :: rest')) : SL Yba.prog ops Q (⟨some d, .call ⟨.value (.func f), args, ts⟩, ty, pos, af, none⟩ :: rest) N env w0 F ((br, rrow D bN cm x y) :: (bN, nrow D s) :: rest') :=
  SL.call (σ := Int × Int) (V := fun _ => v) (M := fun z => (br, rrow D bN cm' z.1 z.2) :: (bN, nrow D s') :: rest') (G := fun _ => True) hf hargs (fun w hM => (hc w hM).mono fun e w' ⟨z, he, _, hM'⟩ => ⟨z, he, trivial, Mm.callR hM hM'⟩) hd (fun z _ => h z)
section
variable {env : Env} {i0 i1 i2 i3 i4 : Nat} {x0 x1 x2 x3 x4 : Operand} {v0 v1 v2 v3 v4 : Value}
theorem parts1 (h0 : ev env x0 = some v0) (ρ : Operand → Value) (hρ : ∀ x u, ev env x = some u → ρ x = u) :
    (#[(i0, x0)] : Array (Nat × Operand)).map (fun p => (p.1, ρ p.2)) = #[(i0, v0)] := by simp [hρ x0 _ h0]
theorem parts2 (h0 : ev env x0 = some v0) (h1 : ev env x1 = some v1) (ρ : Operand → Value) (hρ : ∀ x u, ev env x = some u → ρ x = u) :
    (#[(i0, x0), (i1, x1)] : Array (Nat × Operand)).map (fun p => (p.1, ρ p.2)) = #[(i0, v0), (i1, v1)] := by simp [hρ x0 _ h0, hρ x1 _ h1]
theorem parts3 (h0 : ev env x0 = some v0) (h1 : ev env x1 = some v1) (h2 : ev env x2 = some v2) (ρ : Operand → Value) (hρ : ∀ x u, ev env x = some u → ρ x = u) :
    (#[(i0, x0), (i1, x1), (i2, x2)] : Array (Nat × Operand)).map (fun p => (p.1, ρ p.2)) = #[(i0, v0), (i1, v1), (i2, v2)] := by simp [hρ x0 _ h0, hρ x1 _ h1, hρ x2 _ h2]
theorem parts5 (h0 : ev env x0 = some v0) (h1 : ev env x1 = some v1) (h2 : ev env x2 = some v2) (h3 : ev env x3 = some v3) (h4 : ev env x4 = some v4) (ρ : Operand → Value) (hρ : ∀ x u, ev env x = some u → ρ x = u) :
    (#[(i0, x0), (i1, x1), (i2, x2), (i3, x3), (i4, x4)] : Array (Nat × Operand)).map (fun p => (p.1, ρ p.2)) = #[(i0, v0), (i1, v1), (i2, v2), (i3, v3), (i4, v4)] := by simp [hρ x0 _ h0, hρ x1 _ h1, hρ x2 _ h2, hρ x3 _ h3, hρ x4 _ h4]
end
abbrev evt (kd rc mg : Int) (a b : ByteArray) (l : Bool) : Value := .agg #[.int .u8 kd, .string a, .string b, .int .u8 rc, .int .u8 mg, .bool l]
theorem bldCrash (a : ByteArray) (w : World) : (Instr.build 118 #[(0, .int .u8 3), (1, .string a)]).run Yba.prog w = .ok (evt 3 0 0 a ⟨#[]⟩ false) w := by kernel_rfl
theorem bldLog (a : ByteArray) (r : Int) (w : World) : (Instr.build 118 #[(0, .int .u8 1), (1, .string a), (3, .int .u8 r)]).run Yba.prog w = .ok (evt 1 r 0 a ⟨#[]⟩ false) w := by kernel_rfl
theorem bldSend (a b : ByteArray) (mg : Int) (l : Bool) (w : World) : (Instr.build 118 #[(0, .int .u8 2), (1, .string a), (2, .string b), (4, .int .u8 mg), (5, .bool l)]).run Yba.prog w = .ok (evt 2 0 mg a b l) w := by kernel_rfl
theorem fn85 : isFunc Yba.prog 85 = true := by kernel_rfl
theorem fn104 : isFunc Yba.prog 104 = true := by kernel_rfl
theorem fn119 : isFunc Yba.prog 119 = true := by kernel_rfl
theorem info92 : (Yba.prog.info? 92).map (fun i => (i.zero, i.size, i.bytes)) = some (some (.agg #[.pointer none, .int .i64 0, .bool false, .int .u8 0, .int .u8 0]), 5, 24) := by kernel_rfl

section
variable {D : RD} {br bN : Nat} {cm : Bool} {x y : Int} {s : NSt} {w : World}
/-- count -/
theorem call48 {kd rc t : Int} (hA : At D br bN cm x y s w) : Does 48 #[pt br, .int .u8 kd, .int .u8 rc, .int .i64 t] w D br bN (.tuple #[]) cm s := by
  refine Calls.of_SC (args := [pt br, .int .u8 kd, .int .u8 rc, .int .i64 t]) Yba.func48 rfl (by simp [Yba.f48]) hA.start ?_
  refine SC.block ?_
  refine SC.seq ?_
  refine SC.region ?_
  refine SL.y (OV.move rfl) rfl ?_
  refine SL.y (OV.eql rfl rfl) rfl ?_
  refine SL.y (OV.assign rfl) rfl ?_
  refine SL.nil ?_
  refine SC.then ?_
  refine SC.condP rfl (fun h => ?_) (fun h => ?_)
  · skip
    refine SC.region ?_
    refine SL.y (OV.move rfl) rfl ?_
    refine SL.y (OV.nilCheck rfl) rfl ?_
    refine SL.y (OV.fld fo88_0 rfl) rfl ?_
    refine SL.y (OV.fld fo84_1 rfl) rfl ?_
    refine SL.y (OV.loadF 0 sc3 rfl rfl rfl) rfl ?_
    refine SL.y (OV.move rfl) rfl ?_
    refine SL.y (OV.add rfl rfl rfl) rfl ?_
    refine SL.y (OV.nilCheck rfl) rfl ?_
    refine SL.y (OV.fld fo88_0 rfl) rfl ?_
    refine SL.y (OV.fld fo84_1 rfl) rfl ?_
    refine SL.s (OS.store1 0 sz3 rfl rfl rfl rfl (by show 1 < 13; decide)) ?_
    refine SL.nil ?_
    exact SE.nb (SE.end0 Yba.results48 (fun w' hM => ⟨(_, y), rfl, trivial, hM⟩))
  · by_cases h1 : kd = 1
    · skip
      refine SC.seq ?_
      refine SC.region ?_
      refine SL.y (OV.move rfl) rfl ?_
      refine SL.y ((OV.eql rfl rfl).yes h1) rfl ?_
      refine SL.y (OV.move rfl) rfl ?_
      refine SL.yg rfl rfl (OV.move rfl) rfl ?_
      refine SL.yg rfl rfl (OV.neq rfl rfl) rfl ?_
      refine SL.y (OV.pickT rfl rfl) rfl ?_
      refine SL.y (OV.assign rfl) rfl ?_
      refine SL.nil ?_
      refine SC.then ?_
      refine SC.condP rfl (fun h2 => ?_) (fun h2 => ?_)
      · skip
        refine SC.region ?_
        refine SL.y (OV.move rfl) rfl ?_
        refine SL.y (OV.nilCheck rfl) rfl ?_
        refine SL.y (OV.fld fo88_0 rfl) rfl ?_
        refine SL.y (OV.fld fo84_2 rfl) rfl ?_
        refine SL.y (OV.loadF 0 sc3 rfl rfl rfl) rfl ?_
        refine SL.y (OV.move rfl) rfl ?_
        refine SL.y (OV.add rfl rfl rfl) rfl ?_
        refine SL.y (OV.nilCheck rfl) rfl ?_
        refine SL.y (OV.fld fo88_0 rfl) rfl ?_
        refine SL.y (OV.fld fo84_2 rfl) rfl ?_
        refine SL.s (OS.store1 0 sz3 rfl rfl rfl rfl (by show 2 < 13; decide)) ?_
        refine SL.nil ?_
        exact SE.nb (SE.end0 Yba.results48 (fun w' hM => ⟨(x, _), rfl, trivial, hM⟩))
      · refine SC.skip ?_
        exact SE.nb (SE.end0 Yba.results48 (fun w' hM => ⟨(x, y), rfl, trivial, hM⟩))
    · skip
      refine SC.seq ?_
      refine SC.region ?_
      refine SL.y (OV.move rfl) rfl ?_
      refine SL.y ((OV.eql rfl rfl).no h1) rfl ?_
      refine SL.y (OV.move rfl) rfl ?_
      refine SL.skip rfl rfl rfl ?_
      refine SL.skip rfl rfl rfl ?_
      refine SL.y (OV.pickF rfl rfl) rfl ?_
      refine SL.y (OV.assign rfl) rfl ?_
      refine SL.nil ?_
      refine SC.then ?_
      refine SC.cond rfl (fun e => by cases e) (fun _ => ?_)
      refine SC.skip ?_
      exact SE.nb (SE.end0 Yba.results48 (fun w' hM => ⟨(x, y), rfl, trivial, hM⟩))
theorem pf48 : plainFunc Yba.prog 48 = true := by kernel_rfl
/-- emit -/
theorem call39 {kd rc mg : Int} {a b : ByteArray} {l : Bool} (hA : At D br bN cm x y s w) : Does 39 #[pt br, evt kd rc mg a b l] w D br bN (.tuple #[]) cm s := by
  refine Calls.of_SC (args := [pt br, evt kd rc mg a b l]) Yba.func39 rfl (by simp [Yba.f39]) hA.start ?_
  refine SC.seq ?_
  refine SC.region ?_
  refine SL.e (OE.box rfl) rfl ?_
  intro b3
  refine SL.nil ?_
  refine SC.then ?_
  refine SC.seq ?_
  refine SC.seq ?_
  refine SC.region ?_
  refine SL.y (OV.move rfl) rfl ?_
  refine SL.y (OV.nilCheck rfl) rfl ?_
  refine SL.y (OV.fld fo88_7 rfl) rfl ?_
  refine SL.y (OV.loadF 0 sc4 rfl rfl rfl) rfl ?_
  refine SL.nil ?_
  refine SC.then ?_
  refine SC.cond rfl (fun e => by cases e) (fun _ => ?_)
  refine SC.skip ?_
  refine SC.then ?_
  refine SC.seq ?_
  refine SC.region ?_
  refine SL.y (OV.move rfl) rfl ?_
  refine SL.y (OV.fld fo118_0 rfl) rfl ?_
  refine SL.y (OV.loadF 2 sc116 rfl rfl rfl) rfl ?_
  refine SL.y (OV.fld fo118_3 rfl) rfl ?_
  refine SL.y (OV.loadF 2 sc90 rfl rfl rfl) rfl ?_
  refine SL.callR pf48 (args4 rfl rfl rfl rfl) (fun w' hM => call48 (hA.go hM)) rfl ?_
  intro z
  refine SL.nil ?_
  refine SC.then ?_
  refine SC.seq ?_
  refine SC.quiet mixed (by kernel_rfl) ?_
  refine SQ.y (OV.move rfl) rfl ?_
  refine SQ.y (OV.nilCheck rfl) rfl ?_
  refine SQ.y (OV.fld fo88_1 rfl) rfl ?_
  refine SQ.y (OV.loadF 0 sc85 rfl rfl rfl) rfl ?_
  refine SQ.y (OV.neqFnNil fn85 rfl) rfl ?_
  refine SQ.y (OV.move rfl) rfl ?_
  refine SQ.skip rfl rfl rfl ?_
  refine SQ.skip rfl rfl rfl ?_
  refine SQ.skip rfl rfl rfl ?_
  refine SQ.skip rfl rfl rfl ?_
  refine SQ.skip rfl rfl rfl ?_
  refine SQ.skip rfl rfl rfl ?_
  refine SQ.skip rfl rfl rfl ?_
  refine SQ.y (OV.pickF rfl rfl) rfl ?_
  refine SQ.nil ?_
  refine SC.then ?_
  refine SC.cond rfl (fun e => by cases e) (fun _ => ?_)
  refine SC.skip ?_
  exact SE.end0 Yba.results39 (fun w' hM => ⟨z, rfl, trivial, hM.weaken (((List.nil_sublist _).cons_cons _).cons_cons _)⟩)
theorem pf39 : plainFunc Yba.prog 39 = true := by kernel_rfl
/-- emitTimes -/
theorem call42 {kd rc mg t : Int} {a b : ByteArray} {l : Bool} (hA : At D br bN cm x y s w) : Does 42 #[pt br, evt kd rc mg a b l, .int .i64 t] w D br bN (.tuple #[]) cm s := by
  refine Calls.of_SC (args := [pt br, evt kd rc mg a b l, .int .i64 t]) Yba.func42 rfl (by simp [Yba.f42]) hA.start ?_
  refine SC.seq ?_
  refine SC.region ?_
  refine SL.e (OE.box rfl) rfl ?_
  intro b4
  refine SL.nil ?_
  refine SC.then ?_
  refine SC.seq ?_
  refine SC.seq ?_
  refine SC.region ?_
  refine SL.y (OV.move rfl) rfl ?_
  refine SL.y (OV.nilCheck rfl) rfl ?_
  refine SL.y (OV.fld fo88_1 rfl) rfl ?_
  refine SL.y (OV.loadF 0 sc85 rfl rfl rfl) rfl ?_
  refine SL.y (OV.eqlFnNil fn85 rfl) rfl ?_
  refine SL.nil ?_
  refine SC.then ?_
  refine SC.cond rfl (fun _ => ?_) (fun e => by cases e)
  refine SC.seq ?_
  refine SC.region ?_
  refine SL.y (OV.move rfl) rfl ?_
  refine SL.y (OV.fld fo118_0 rfl) rfl ?_
  refine SL.y (OV.loadF 2 sc116 rfl rfl rfl) rfl ?_
  refine SL.y (OV.fld fo118_3 rfl) rfl ?_
  refine SL.y (OV.loadF 2 sc90 rfl rfl rfl) rfl ?_
  refine SL.y (OV.move rfl) rfl ?_
  refine SL.callR pf48 (args4 rfl rfl rfl rfl) (fun w' hM => call48 (hA.go hM)) rfl ?_
  intro z
  refine SL.nil ?_
  refine SC.then ?_
  refine SC.ret ?_
  repeat (first | refine SE.blockR ?_ | refine SE.thenR ?_)
  exact SE.ret0 Yba.results42 (fun w' hM => ⟨z, rfl, trivial, hM.weaken (((List.nil_sublist _).cons_cons _).cons_cons _)⟩)
theorem pf42 : plainFunc Yba.prog 42 = true := by kernel_rfl
/-- log -/
theorem call28 {k : Nat} {rc : Int} (hk : k ≤ D.n) (hA : At D br bN cm x y s w) : Does 28 #[pt br, .int .i64 k, .int .u8 rc] w D br bN (.tuple #[]) cm s := by
  obtain ⟨i92, hi, hz, hs, hb⟩ := info_parts info92
  have hout := hA.hP.out k hk
  refine Calls.of_SC (args := [pt br, .int .i64 k, .int .u8 rc]) Yba.func28 rfl (by simp [Yba.f28]) hA.start ?_
  refine SC.region ?_
  refine SL.y (OV.move rfl) rfl ?_
  refine SL.y (OV.move rfl) rfl ?_
  refine SL.y (OV.nilCheck rfl) rfl ?_
  refine SL.y (OV.fld fo88_2 rfl) rfl ?_
  refine SL.y (OV.loadF 0 sc86 rfl rfl rfl) rfl ?_
  refine SL.y (OV.move rfl) rfl ?_
  refine SL.y (OV.idx k u86 hi hs rfl rfl rfl (by omega)) rfl ?_
  refine SL.y (OV.fld fo92_0 rfl) rfl ?_
  refine SL.y (OV.loadT 1 sc89 rfl rfl (by omega) (nc0 D s k)) rfl ?_
  refine SL.y (OV.nilCheck rfl) rfl ?_
  refine SL.y (OV.fld fo28_0 rfl) rfl ?_
  refine SL.y (OV.loadOld sc9 rfl hout (hA.hP.nm k hk)) rfl ?_
  refine SL.y (OV.move rfl) rfl ?_
  refine SL.y (OV.build (parts3 rfl rfl rfl) (bldLog _ _)) rfl ?_
  refine SL.callR pf39 (args2 rfl rfl) (fun w' hM => call39 (hA.go hM)) rfl ?_
  intro z
  refine SL.nil ?_
  exact SE.end0 Yba.results28 (fun w' hM => ⟨z, rfl, trivial, hM⟩)
theorem pf28 : plainFunc Yba.prog 28 = true := by kernel_rfl
/-- crash -/
theorem call27 {k : Nat} (hk : k ≤ D.n) (hA : At D br bN cm x y s w) : Does 27 #[pt br, .int .i64 k] w D br bN (.tuple #[]) cm (setDn s k true) := by
  obtain ⟨i92, hi, hz, hs, hb⟩ := info_parts info92
  have hout := hA.hP.out k hk
  refine Calls.of_SC (args := [pt br, .int .i64 k]) Yba.func27 rfl (by simp [Yba.f27]) hA.start ?_
  refine SC.seq ?_
  refine SC.region ?_
  refine SL.y (OV.move rfl) rfl ?_
  refine SL.y (OV.nilCheck rfl) rfl ?_
  refine SL.y (OV.fld fo88_2 rfl) rfl ?_
  refine SL.y (OV.loadF 0 sc86 rfl rfl rfl) rfl ?_
  refine SL.y (OV.move rfl) rfl ?_
  refine SL.y (OV.idx k u86 hi hs rfl rfl rfl (by omega)) rfl ?_
  refine SL.y (OV.fld fo92_2 rfl) rfl ?_
  refine SL.s (OS.store1 1 sz4 rfl rfl rfl rfl (by rw [length_tab]; omega)) ?_
  refine SL.nil ?_
  refine SC.then ?_
  rw [nset2 hk]
  refine SC.region ?_
  refine SL.y (OV.move rfl) rfl ?_
  refine SL.y (OV.move rfl) rfl ?_
  refine SL.y (OV.nilCheck rfl) rfl ?_
  refine SL.y (OV.fld fo88_2 rfl) rfl ?_
  refine SL.y (OV.loadF 0 sc86 rfl rfl rfl) rfl ?_
  refine SL.y (OV.move rfl) rfl ?_
  refine SL.y (OV.idx k u86 hi hs rfl rfl rfl (by omega)) rfl ?_
  refine SL.y (OV.fld fo92_0 rfl) rfl ?_
  refine SL.y (OV.loadT 1 sc89 rfl rfl (by omega) (nc0 D _ k)) rfl ?_
  refine SL.y (OV.nilCheck rfl) rfl ?_
  refine SL.y (OV.fld fo28_0 rfl) rfl ?_
  refine SL.y (OV.loadOld sc9 rfl hout (hA.hP.nm k hk)) rfl ?_
  refine SL.y (OV.build (parts2 rfl rfl) (bldCrash _)) rfl ?_
  refine SL.callR (s := setDn s k true) pf39 (args2 rfl rfl) (fun w' hM => call39 (hA.go hM)) rfl ?_
  intro z
  refine SL.nil ?_
  exact SE.end0 Yba.results27 (fun w' hM => ⟨z, rfl, trivial, hM⟩)
theorem pf27 : plainFunc Yba.prog 27 = true := by kernel_rfl
/-- send -/
theorem call43 {i j : Nat} {mg : Int} (hi0 : i ≤ D.n) (hj0 : j ≤ D.n) (hA : At D br bN cm x y s w) : Does 43 #[pt br, .int .i64 i, .int .i64 j, .int .u8 mg] w D br bN (.tuple #[]) cm s := by
  obtain ⟨i92, hi, hz, hs, hb⟩ := info_parts info92
  have hout := hA.hP.out i hi0
  have hout' := hA.hP.out j hj0
  have hPQ : PanicOk (bodyPost Yba.prog Yba.f43 (fun e w' => ∃ z : Int × Int, e = .returned (.tuple #[]) ∧ True ∧ Mm w [br, bN] [(br, rrow D bN cm z.1 z.2), (bN, nrow D s)] w')) := PanicOk.body
  refine Calls.of_SC (args := [pt br, .int .i64 i, .int .i64 j, .int .u8 mg]) Yba.func43 rfl (by simp [Yba.f43]) hA.start ?_
  refine SC.held 33 [(br, rrow D bN cm x y), (bN, nrow D s)] [] mixed ?_
  refine SA.takeZ (i := 0) [33] (by repeat (first | exact hPQ | refine PanicOk.then ?_ | refine PanicOk.block ?_ | exact PanicOk.body)) rfl rfl (by kernel_rfl) (by kernel_rfl) (by kernel_rfl) rfl (by kernel_rfl) (by kernel_rfl) (by kernel_rfl) (by first | exact List.nil_sublist _ | exact List.Sublist.refl _ | (repeat (first | exact List.Sublist.refl _ | exact List.nil_sublist _ | refine List.Sublist.cons_cons _ ?_ | refine List.Sublist.cons _ ?_))) (yiN (OV.move rfl)) rfl ?_
  refine SA.takeZ (i := 1) [2, 3, 4, 6, 7, 8, 9, 10, 11, 32, 33] (by repeat (first | exact hPQ | refine PanicOk.then ?_ | refine PanicOk.block ?_ | exact PanicOk.body)) rfl rfl (by kernel_rfl) (by kernel_rfl) (by kernel_rfl) rfl (by kernel_rfl) (by kernel_rfl) (by kernel_rfl) (by first | exact List.nil_sublist _ | exact List.Sublist.refl _ | (repeat (first | exact List.Sublist.refl _ | exact List.nil_sublist _ | refine List.Sublist.cons_cons _ ?_ | refine List.Sublist.cons _ ?_))) (yiN (OV.move rfl)) rfl ?_
  refine SA.takeZ (i := 2) [3, 4, 6, 7, 8, 9, 10, 11, 32, 33] (by repeat (first | exact hPQ | refine PanicOk.then ?_ | refine PanicOk.block ?_ | exact PanicOk.body)) rfl rfl (by kernel_rfl) (by kernel_rfl) (by kernel_rfl) rfl (by kernel_rfl) (by kernel_rfl) (by kernel_rfl) (by first | exact List.nil_sublist _ | exact List.Sublist.refl _ | (repeat (first | exact List.Sublist.refl _ | exact List.nil_sublist _ | refine List.Sublist.cons_cons _ ?_ | refine List.Sublist.cons _ ?_))) (yiN (OV.nilCheck rfl)) rfl ?_
  refine SA.takeZ (i := 3) [4, 6, 7, 8, 9, 10, 11, 32, 33] (by repeat (first | exact hPQ | refine PanicOk.then ?_ | refine PanicOk.block ?_ | exact PanicOk.body)) rfl rfl (by kernel_rfl) (by kernel_rfl) (by kernel_rfl) rfl (by kernel_rfl) (by kernel_rfl) (by kernel_rfl) (by first | exact List.nil_sublist _ | exact List.Sublist.refl _ | (repeat (first | exact List.Sublist.refl _ | exact List.nil_sublist _ | refine List.Sublist.cons_cons _ ?_ | refine List.Sublist.cons _ ?_))) (yiN (OV.fld fo88_2 rfl)) rfl ?_
  refine SA.takeZ (i := 4) [6, 7, 8, 9, 10, 11, 32, 33] (by repeat (first | exact hPQ | refine PanicOk.then ?_ | refine PanicOk.block ?_ | exact PanicOk.body)) rfl rfl (by kernel_rfl) (by kernel_rfl) (by kernel_rfl) rfl (by kernel_rfl) (by kernel_rfl) (by kernel_rfl) (by first | exact List.nil_sublist _ | exact List.Sublist.refl _ | (repeat (first | exact List.Sublist.refl _ | exact List.nil_sublist _ | refine List.Sublist.cons_cons _ ?_ | refine List.Sublist.cons _ ?_))) (yiN (OV.loadF 0 sc86 rfl rfl rfl)) rfl ?_
  refine SA.takeZ (i := 5) [6, 7, 8, 9, 10, 11, 32, 33] (by repeat (first | exact hPQ | refine PanicOk.then ?_ | refine PanicOk.block ?_ | exact PanicOk.body)) rfl rfl (by kernel_rfl) (by kernel_rfl) (by kernel_rfl) rfl (by kernel_rfl) (by kernel_rfl) (by kernel_rfl) (by first | exact List.nil_sublist _ | exact List.Sublist.refl _ | (repeat (first | exact List.Sublist.refl _ | exact List.nil_sublist _ | refine List.Sublist.cons_cons _ ?_ | refine List.Sublist.cons _ ?_))) (yiN (OV.move rfl)) rfl ?_
  refine SA.takeZ (i := 6) [7, 8, 9, 10, 11, 32, 33] (by repeat (first | exact hPQ | refine PanicOk.then ?_ | refine PanicOk.block ?_ | exact PanicOk.body)) rfl rfl (by kernel_rfl) (by kernel_rfl) (by kernel_rfl) rfl (by kernel_rfl) (by kernel_rfl) (by kernel_rfl) (by first | exact List.nil_sublist _ | exact List.Sublist.refl _ | (repeat (first | exact List.Sublist.refl _ | exact List.nil_sublist _ | refine List.Sublist.cons_cons _ ?_ | refine List.Sublist.cons _ ?_))) (yiN (OV.idx i u86 hi hs rfl rfl rfl (by omega))) rfl ?_
  refine SA.takeZ (i := 7) [8, 9, 10, 11, 32, 33] (by repeat (first | exact hPQ | refine PanicOk.then ?_ | refine PanicOk.block ?_ | exact PanicOk.body)) rfl rfl (by kernel_rfl) (by kernel_rfl) (by kernel_rfl) rfl (by kernel_rfl) (by kernel_rfl) (by kernel_rfl) (by first | exact List.nil_sublist _ | exact List.Sublist.refl _ | (repeat (first | exact List.Sublist.refl _ | exact List.nil_sublist _ | refine List.Sublist.cons_cons _ ?_ | refine List.Sublist.cons _ ?_))) (yiN (OV.fld fo92_0 rfl)) rfl ?_
  refine SA.takeZ (i := 8) [9, 10, 11, 32, 33] (by repeat (first | exact hPQ | refine PanicOk.then ?_ | refine PanicOk.block ?_ | exact PanicOk.body)) rfl rfl (by kernel_rfl) (by kernel_rfl) (by kernel_rfl) rfl (by kernel_rfl) (by kernel_rfl) (by kernel_rfl) (by first | exact List.nil_sublist _ | exact List.Sublist.refl _ | (repeat (first | exact List.Sublist.refl _ | exact List.nil_sublist _ | refine List.Sublist.cons_cons _ ?_ | refine List.Sublist.cons _ ?_))) (yiN (OV.loadT 1 sc89 rfl rfl (by omega) (nc0 D s i))) rfl ?_
  refine SA.takeZ (i := 9) [10, 11, 32, 33] (by repeat (first | exact hPQ | refine PanicOk.then ?_ | refine PanicOk.block ?_ | exact PanicOk.body)) rfl rfl (by kernel_rfl) (by kernel_rfl) (by kernel_rfl) rfl (by kernel_rfl) (by kernel_rfl) (by kernel_rfl) (by first | exact List.nil_sublist _ | exact List.Sublist.refl _ | (repeat (first | exact List.Sublist.refl _ | exact List.nil_sublist _ | refine List.Sublist.cons_cons _ ?_ | refine List.Sublist.cons _ ?_))) (yiN (OV.nilCheck rfl)) rfl ?_
  refine SA.takeZ (i := 10) [11, 32, 33] (by repeat (first | exact hPQ | refine PanicOk.then ?_ | refine PanicOk.block ?_ | exact PanicOk.body)) rfl rfl (by kernel_rfl) (by kernel_rfl) (by kernel_rfl) rfl (by kernel_rfl) (by kernel_rfl) (by kernel_rfl) (by first | exact List.nil_sublist _ | exact List.Sublist.refl _ | (repeat (first | exact List.Sublist.refl _ | exact List.nil_sublist _ | refine List.Sublist.cons_cons _ ?_ | refine List.Sublist.cons _ ?_))) (yiN (OV.fld fo28_0 rfl)) rfl ?_
  refine SA.takeZ (i := 11) [32, 33] (by repeat (first | exact hPQ | refine PanicOk.then ?_ | refine PanicOk.block ?_ | exact PanicOk.body)) rfl rfl (by kernel_rfl) (by kernel_rfl) (by kernel_rfl) rfl (by kernel_rfl) (by kernel_rfl) (by kernel_rfl) (by first | exact List.nil_sublist _ | exact List.Sublist.refl _ | (repeat (first | exact List.Sublist.refl _ | exact List.nil_sublist _ | refine List.Sublist.cons_cons _ ?_ | refine List.Sublist.cons _ ?_))) (yiN (OV.loadOld sc9 rfl hout (hA.hP.nm i hi0))) rfl ?_
  refine SA.takeZ (i := 12) [13, 14, 15, 17, 18, 19, 20, 21, 22, 32, 33] (by repeat (first | exact hPQ | refine PanicOk.then ?_ | refine PanicOk.block ?_ | exact PanicOk.body)) rfl rfl (by kernel_rfl) (by kernel_rfl) (by kernel_rfl) rfl (by kernel_rfl) (by kernel_rfl) (by kernel_rfl) (by first | exact List.nil_sublist _ | exact List.Sublist.refl _ | (repeat (first | exact List.Sublist.refl _ | exact List.nil_sublist _ | refine List.Sublist.cons_cons _ ?_ | refine List.Sublist.cons _ ?_))) (yiN (OV.move rfl)) rfl ?_
  refine SA.takeZ (i := 13) [14, 15, 17, 18, 19, 20, 21, 22, 32, 33] (by repeat (first | exact hPQ | refine PanicOk.then ?_ | refine PanicOk.block ?_ | exact PanicOk.body)) rfl rfl (by kernel_rfl) (by kernel_rfl) (by kernel_rfl) rfl (by kernel_rfl) (by kernel_rfl) (by kernel_rfl) (by first | exact List.nil_sublist _ | exact List.Sublist.refl _ | (repeat (first | exact List.Sublist.refl _ | exact List.nil_sublist _ | refine List.Sublist.cons_cons _ ?_ | refine List.Sublist.cons _ ?_))) (yiN (OV.nilCheck rfl)) rfl ?_
  refine SA.takeZ (i := 14) [15, 17, 18, 19, 20, 21, 22, 32, 33] (by repeat (first | exact hPQ | refine PanicOk.then ?_ | refine PanicOk.block ?_ | exact PanicOk.body)) rfl rfl (by kernel_rfl) (by kernel_rfl) (by kernel_rfl) rfl (by kernel_rfl) (by kernel_rfl) (by kernel_rfl) (by first | exact List.nil_sublist _ | exact List.Sublist.refl _ | (repeat (first | exact List.Sublist.refl _ | exact List.nil_sublist _ | refine List.Sublist.cons_cons _ ?_ | refine List.Sublist.cons _ ?_))) (yiN (OV.fld fo88_2 rfl)) rfl ?_
  refine SA.takeZ (i := 15) [17, 18, 19, 20, 21, 22, 32, 33] (by repeat (first | exact hPQ | refine PanicOk.then ?_ | refine PanicOk.block ?_ | exact PanicOk.body)) rfl rfl (by kernel_rfl) (by kernel_rfl) (by kernel_rfl) rfl (by kernel_rfl) (by kernel_rfl) (by kernel_rfl) (by first | exact List.nil_sublist _ | exact List.Sublist.refl _ | (repeat (first | exact List.Sublist.refl _ | exact List.nil_sublist _ | refine List.Sublist.cons_cons _ ?_ | refine List.Sublist.cons _ ?_))) (yiN (OV.loadF 0 sc86 rfl rfl rfl)) rfl ?_
  refine SA.takeZ (i := 16) [17, 18, 19, 20, 21, 22, 32, 33] (by repeat (first | exact hPQ | refine PanicOk.then ?_ | refine PanicOk.block ?_ | exact PanicOk.body)) rfl rfl (by kernel_rfl) (by kernel_rfl) (by kernel_rfl) rfl (by kernel_rfl) (by kernel_rfl) (by kernel_rfl) (by first | exact List.nil_sublist _ | exact List.Sublist.refl _ | (repeat (first | exact List.Sublist.refl _ | exact List.nil_sublist _ | refine List.Sublist.cons_cons _ ?_ | refine List.Sublist.cons _ ?_))) (yiN (OV.move rfl)) rfl ?_
  refine SA.takeZ (i := 17) [18, 19, 20, 21, 22, 32, 33] (by repeat (first | exact hPQ | refine PanicOk.then ?_ | refine PanicOk.block ?_ | exact PanicOk.body)) rfl rfl (by kernel_rfl) (by kernel_rfl) (by kernel_rfl) rfl (by kernel_rfl) (by kernel_rfl) (by kernel_rfl) (by first | exact List.nil_sublist _ | exact List.Sublist.refl _ | (repeat (first | exact List.Sublist.refl _ | exact List.nil_sublist _ | refine List.Sublist.cons_cons _ ?_ | refine List.Sublist.cons _ ?_))) (yiN (OV.idx j u86 hi hs rfl rfl rfl (by omega))) rfl ?_
  refine SA.takeZ (i := 18) [19, 20, 21, 22, 32, 33] (by repeat (first | exact hPQ | refine PanicOk.then ?_ | refine PanicOk.block ?_ | exact PanicOk.body)) rfl rfl (by kernel_rfl) (by kernel_rfl) (by kernel_rfl) rfl (by kernel_rfl) (by kernel_rfl) (by kernel_rfl) (by first | exact List.nil_sublist _ | exact List.Sublist.refl _ | (repeat (first | exact List.Sublist.refl _ | exact List.nil_sublist _ | refine List.Sublist.cons_cons _ ?_ | refine List.Sublist.cons _ ?_))) (yiN (OV.fld fo92_0 rfl)) rfl ?_
  refine SA.takeZ (i := 19) [20, 21, 22, 32, 33] (by repeat (first | exact hPQ | refine PanicOk.then ?_ | refine PanicOk.block ?_ | exact PanicOk.body)) rfl rfl (by kernel_rfl) (by kernel_rfl) (by kernel_rfl) rfl (by kernel_rfl) (by kernel_rfl) (by kernel_rfl) (by first | exact List.nil_sublist _ | exact List.Sublist.refl _ | (repeat (first | exact List.Sublist.refl _ | exact List.nil_sublist _ | refine List.Sublist.cons_cons _ ?_ | refine List.Sublist.cons _ ?_))) (yiN (OV.loadT 1 sc89 rfl rfl (by omega) (nc0 D s j))) rfl ?_
  refine SA.takeZ (i := 20) [21, 22, 32, 33] (by repeat (first | exact hPQ | refine PanicOk.then ?_ | refine PanicOk.block ?_ | exact PanicOk.body)) rfl rfl (by kernel_rfl) (by kernel_rfl) (by kernel_rfl) rfl (by kernel_rfl) (by kernel_rfl) (by kernel_rfl) (by first | exact List.nil_sublist _ | exact List.Sublist.refl _ | (repeat (first | exact List.Sublist.refl _ | exact List.nil_sublist _ | refine List.Sublist.cons_cons _ ?_ | refine List.Sublist.cons _ ?_))) (yiN (OV.nilCheck rfl)) rfl ?_
  refine SA.takeZ (i := 21) [22, 32, 33] (by repeat (first | exact hPQ | refine PanicOk.then ?_ | refine PanicOk.block ?_ | exact PanicOk.body)) rfl rfl (by kernel_rfl) (by kernel_rfl) (by kernel_rfl) rfl (by kernel_rfl) (by kernel_rfl) (by kernel_rfl) (by first | exact List.nil_sublist _ | exact List.Sublist.refl _ | (repeat (first | exact List.Sublist.refl _ | exact List.nil_sublist _ | refine List.Sublist.cons_cons _ ?_ | refine List.Sublist.cons _ ?_))) (yiN (OV.fld fo28_0 rfl)) rfl ?_
  refine SA.takeZ (i := 22) [32, 33] (by repeat (first | exact hPQ | refine PanicOk.then ?_ | refine PanicOk.block ?_ | exact PanicOk.body)) rfl rfl (by kernel_rfl) (by kernel_rfl) (by kernel_rfl) rfl (by kernel_rfl) (by kernel_rfl) (by kernel_rfl) (by first | exact List.nil_sublist _ | exact List.Sublist.refl _ | (repeat (first | exact List.Sublist.refl _ | exact List.nil_sublist _ | refine List.Sublist.cons_cons _ ?_ | refine List.Sublist.cons _ ?_))) (yiN (OV.loadOld sc9 rfl hout' (hA.hP.nm j hj0))) rfl ?_
  refine SA.takeZ (i := 23) [32, 33] (by repeat (first | exact hPQ | refine PanicOk.then ?_ | refine PanicOk.block ?_ | exact PanicOk.body)) rfl rfl (by kernel_rfl) (by kernel_rfl) (by kernel_rfl) rfl (by kernel_rfl) (by kernel_rfl) (by kernel_rfl) (by first | exact List.nil_sublist _ | exact List.Sublist.refl _ | (repeat (first | exact List.Sublist.refl _ | exact List.nil_sublist _ | refine List.Sublist.cons_cons _ ?_ | refine List.Sublist.cons _ ?_))) (yiN (OV.move rfl)) rfl ?_
  refine SA.takeZ (i := 24) [25, 26, 27, 29, 30, 31, 32, 33] (by repeat (first | exact hPQ | refine PanicOk.then ?_ | refine PanicOk.block ?_ | exact PanicOk.body)) rfl rfl (by kernel_rfl) (by kernel_rfl) (by kernel_rfl) rfl (by kernel_rfl) (by kernel_rfl) (by kernel_rfl) (by first | exact List.nil_sublist _ | exact List.Sublist.refl _ | (repeat (first | exact List.Sublist.refl _ | exact List.nil_sublist _ | refine List.Sublist.cons_cons _ ?_ | refine List.Sublist.cons _ ?_))) (yiN (OV.move rfl)) rfl ?_
  refine SA.takeZ (i := 25) [26, 27, 29, 30, 31, 32, 33] (by repeat (first | exact hPQ | refine PanicOk.then ?_ | refine PanicOk.block ?_ | exact PanicOk.body)) rfl rfl (by kernel_rfl) (by kernel_rfl) (by kernel_rfl) rfl (by kernel_rfl) (by kernel_rfl) (by kernel_rfl) (by first | exact List.nil_sublist _ | exact List.Sublist.refl _ | (repeat (first | exact List.Sublist.refl _ | exact List.nil_sublist _ | refine List.Sublist.cons_cons _ ?_ | refine List.Sublist.cons _ ?_))) (yiN (OV.nilCheck rfl)) rfl ?_
  refine SA.takeZ (i := 26) [27, 29, 30, 31, 32, 33] (by repeat (first | exact hPQ | refine PanicOk.then ?_ | refine PanicOk.block ?_ | exact PanicOk.body)) rfl rfl (by kernel_rfl) (by kernel_rfl) (by kernel_rfl) rfl (by kernel_rfl) (by kernel_rfl) (by kernel_rfl) (by first | exact List.nil_sublist _ | exact List.Sublist.refl _ | (repeat (first | exact List.Sublist.refl _ | exact List.nil_sublist _ | refine List.Sublist.cons_cons _ ?_ | refine List.Sublist.cons _ ?_))) (yiN (OV.fld fo88_2 rfl)) rfl ?_
  refine SA.takeZ (i := 27) [29, 30, 31, 32, 33] (by repeat (first | exact hPQ | refine PanicOk.then ?_ | refine PanicOk.block ?_ | exact PanicOk.body)) rfl rfl (by kernel_rfl) (by kernel_rfl) (by kernel_rfl) rfl (by kernel_rfl) (by kernel_rfl) (by kernel_rfl) (by first | exact List.nil_sublist _ | exact List.Sublist.refl _ | (repeat (first | exact List.Sublist.refl _ | exact List.nil_sublist _ | refine List.Sublist.cons_cons _ ?_ | refine List.Sublist.cons _ ?_))) (yiN (OV.loadF 0 sc86 rfl rfl rfl)) rfl ?_
  refine SA.takeZ (i := 28) [29, 30, 31, 32, 33] (by repeat (first | exact hPQ | refine PanicOk.then ?_ | refine PanicOk.block ?_ | exact PanicOk.body)) rfl rfl (by kernel_rfl) (by kernel_rfl) (by kernel_rfl) rfl (by kernel_rfl) (by kernel_rfl) (by kernel_rfl) (by first | exact List.nil_sublist _ | exact List.Sublist.refl _ | (repeat (first | exact List.Sublist.refl _ | exact List.nil_sublist _ | refine List.Sublist.cons_cons _ ?_ | refine List.Sublist.cons _ ?_))) (yiN (OV.move rfl)) rfl ?_
  refine SA.takeZ (i := 29) [30, 31, 32, 33] (by repeat (first | exact hPQ | refine PanicOk.then ?_ | refine PanicOk.block ?_ | exact PanicOk.body)) rfl rfl (by kernel_rfl) (by kernel_rfl) (by kernel_rfl) rfl (by kernel_rfl) (by kernel_rfl) (by kernel_rfl) (by first | exact List.nil_sublist _ | exact List.Sublist.refl _ | (repeat (first | exact List.Sublist.refl _ | exact List.nil_sublist _ | refine List.Sublist.cons_cons _ ?_ | refine List.Sublist.cons _ ?_))) (yiN (OV.idx j u86 hi hs rfl rfl rfl (by omega))) rfl ?_
  refine SA.takeZ (i := 30) [31, 32, 33] (by repeat (first | exact hPQ | refine PanicOk.then ?_ | refine PanicOk.block ?_ | exact PanicOk.body)) rfl rfl (by kernel_rfl) (by kernel_rfl) (by kernel_rfl) rfl (by kernel_rfl) (by kernel_rfl) (by kernel_rfl) (by first | exact List.nil_sublist _ | exact List.Sublist.refl _ | (repeat (first | exact List.Sublist.refl _ | exact List.nil_sublist _ | refine List.Sublist.cons_cons _ ?_ | refine List.Sublist.cons _ ?_))) (yiN (OV.fld fo92_2 rfl)) rfl ?_
  refine SA.takeZ (i := 31) [32, 33] (by repeat (first | exact hPQ | refine PanicOk.then ?_ | refine PanicOk.block ?_ | exact PanicOk.body)) rfl rfl (by kernel_rfl) (by kernel_rfl) (by kernel_rfl) rfl (by kernel_rfl) (by kernel_rfl) (by kernel_rfl) (by first | exact List.nil_sublist _ | exact List.Sublist.refl _ | (repeat (first | exact List.Sublist.refl _ | exact List.nil_sublist _ | refine List.Sublist.cons_cons _ ?_ | refine List.Sublist.cons _ ?_))) (yiN (OV.loadT 1 sc4 rfl rfl (by omega) (nc2 D s j))) rfl ?_
  refine SA.takeZ (i := 32) [33] (by repeat (first | exact hPQ | refine PanicOk.then ?_ | refine PanicOk.block ?_ | exact PanicOk.body)) rfl rfl (by kernel_rfl) (by kernel_rfl) (by kernel_rfl) rfl (by kernel_rfl) (by kernel_rfl) (by kernel_rfl) (by first | exact List.nil_sublist _ | exact List.Sublist.refl _ | (repeat (first | exact List.Sublist.refl _ | exact List.nil_sublist _ | refine List.Sublist.cons_cons _ ?_ | refine List.Sublist.cons _ ?_))) (yiN (OV.build (parts5 rfl rfl rfl rfl rfl) (bldSend _ _ _ _))) rfl ?_
  refine SA.all (rs := [33]) (by kernel_rfl) (by simp) (all_cons ?_ (all_nil))
  · skip
    refine SO.call (σ := Int × Int) (V := fun _ => .tuple #[]) (M := fun z => [(br, rrow D bN cm z.1 z.2), (bN, nrow D s)]) (G := fun _ => True) rfl pf39 (args2 rfl rfl) (fun w' hM => (call39 (hA.go hM)).mono fun e w'' ⟨z, he, _, hM'⟩ => ⟨z, he, trivial, Mm.callR hM hM'⟩) rfl (fun _ => List.nil_sublist _) ?_
    intro z _
    refine SA.done (by kernel_rfl) ?_
    exact SE.end0 Yba.results43 (fun w' hM => ⟨z, rfl, trivial, hM⟩)
theorem pf43 : plainFunc Yba.prog 43 = true := by kernel_rfl
end
end Go.Proofs.Ybulkdrci.A
