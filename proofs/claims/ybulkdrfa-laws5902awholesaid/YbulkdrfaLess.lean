import Derived.Test.YbulkdrfaTypes
import Derived.Test.YbulkdrfaOps4
import Derived.Test.YbulkdrfaFloat
import Derived.Sort.AssemblyPlain
namespace Go.Proofs.Ybulkdrfa
open Go Go.RowKit Go.Proofs.Ybulkdrfa.Sym
set_option linter.unusedVariables false
set_option linter.unusedSimpArgs false

section
variable {P : Program} {w0 : World} {F : List Nat} {env : Env} {m : List Blk} {d : Option Nat} {ty : TypeId} {pos : String} {af : Array Edge} {g : Option (Nat × Bool)}
variable {x y z : Operand} {a b : Nat} {T T' : TypeId}
theorem Sym.OV.lssF (hx : ev env x = some (.float .f64 a)) (hy : ev env y = some (.float .f64 b)) : OV P env w0 F m ⟨d, .binOp .lss T x y T', ty, pos, af, g⟩ (.bool (Fl.lss a b)) :=
  ⟨fun A w hE hM => by simp [execOp, hE x _ hx, hE y _ hy, eqGuard, binOp, Op.floatCmp]; rfl⟩
theorem Sym.OV.eqlF (hx : ev env x = some (.float .f64 a)) (hy : ev env y = some (.float .f64 b)) : OV P env w0 F m ⟨d, .binOp .eql T x y T', ty, pos, af, g⟩ (.bool (Fl.eql a b)) :=
  ⟨fun A w hE hM => by simp [execOp, hE x _ hx, hE y _ hy, eqGuard, binOp, Op.floatCmp]; rfl⟩
theorem Sym.OV.neqF (hx : ev env x = some (.float .f64 a)) (hy : ev env y = some (.float .f64 b)) : OV P env w0 F m ⟨d, .binOp .neq T x y T', ty, pos, af, g⟩ (.bool (!Fl.eql a b)) :=
  ⟨fun A w hE hM => by simp [execOp, hE x _ hx, hE y _ hy, eqGuard, binOp, Op.floatCmp]; rfl⟩
theorem Sym.OV.leqF (hx : ev env x = some (.float .f64 a)) (hy : ev env y = some (.float .f64 b)) : OV P env w0 F m ⟨d, .binOp .leq T x y T', ty, pos, af, g⟩ (.bool (Fl.leq a b)) :=
  ⟨fun A w hE hM => by simp [execOp, hE x _ hx, hE y _ hy, eqGuard, binOp, Op.floatCmp]; rfl⟩
end
theorem eql_self (a : Nat) : Fl.eql a a = !Fl.isNaN a := by rw [Fl.eql_eq]; simp

/-- cmp.isNaN -/
theorem call26 (a : Nat) (w : World) : Calls Yba.prog 26 #[.float .f64 a] w fun e w' => e = .returned (.bool (Fl.isNaN a)) ∧ Mm w [] [] w' := by
  refine Calls.of_SC (args := [.float .f64 a]) Yba.func26 rfl (by simp [Yba.f26]) (Mm.start w) ?_
  refine SC.seq ?_
  refine SC.region ?_
  refine SL.y (OV.assign rfl) rfl ?_
  refine SL.nil ?_
  refine SC.then ?_
  refine SC.seq ?_
  refine SC.region ?_
  refine SL.y (OV.move rfl) rfl ?_
  refine SL.y (OV.move rfl) rfl ?_
  refine SL.y (OV.neqF rfl rfl) rfl ?_
  refine SL.y (OV.assign rfl) rfl ?_
  refine SL.nil ?_
  refine SC.then ?_
  refine SC.ret ?_
  exact SE.ret1 Yba.results26 rfl (fun w' hM => ⟨by rw [eql_self]; simp, hM⟩)
theorem pf26 : plainFunc Yba.prog 26 = true := by kernel_rfl
/-- cmp.Less -/
theorem call16 (a b : Nat) (w : World) : Calls Yba.prog 16 #[.float .f64 a, .float .f64 b] w fun e w' => e = .returned (.bool (Fl.lt a b)) ∧ Mm w [] [] w' := by
  refine Calls.of_SC (args := [.float .f64 a, .float .f64 b]) Yba.func16 rfl (by simp [Yba.f16]) (Mm.start w) ?_
  refine SC.seq ?_
  refine SC.region ?_
  refine SL.y (OV.assign rfl) rfl ?_
  refine SL.nil ?_
  refine SC.then ?_
  refine SC.seq ?_
  cases ha : Fl.isNaN a
  · skip
    refine SC.region ?_
    refine SL.y (OV.move rfl) rfl ?_
    refine SL.callQ pf26 (args1 rfl) (fun w hM => by have := call26 a w; rwa [ha] at this) rfl ?_
    refine SL.y (OV.move rfl) rfl ?_
    refine SL.skip rfl rfl rfl ?_
    refine SL.skip rfl rfl rfl ?_
    refine SL.skip rfl rfl rfl ?_
    refine SL.y (OV.pickF rfl rfl) rfl ?_
    refine SL.y (OV.move rfl) rfl ?_
    refine SL.yg rfl rfl (OV.move rfl) rfl ?_
    refine SL.yg rfl rfl (OV.move rfl) rfl ?_
    refine SL.yg rfl rfl (OV.lssF rfl rfl) rfl ?_
    refine SL.y (OV.pickF rfl rfl) rfl ?_
    refine SL.y (OV.assign rfl) rfl ?_
    refine SL.nil ?_
    refine SC.then ?_
    refine SC.ret ?_
    exact SE.ret1 Yba.results16 rfl (fun w' hM => ⟨by simp [Fl.lt, ha], hM⟩)
  · cases hb : Fl.isNaN b
    · skip
      refine SC.region ?_
      refine SL.y (OV.move rfl) rfl ?_
      refine SL.callQ pf26 (args1 rfl) (fun w hM => by have := call26 a w; rwa [ha] at this) rfl ?_
      refine SL.y (OV.move rfl) rfl ?_
      refine SL.yg rfl rfl (OV.move rfl) rfl ?_
      refine SL.callQg rfl rfl pf26 (args1 rfl) (fun w hM => by have := call26 b w; rwa [hb] at this) rfl ?_
      refine SL.yg rfl rfl (OV.not rfl) rfl ?_
      refine SL.y (OV.pickT rfl rfl) rfl ?_
      refine SL.y (OV.move rfl) rfl ?_
      refine SL.skip rfl rfl rfl ?_
      refine SL.skip rfl rfl rfl ?_
      refine SL.skip rfl rfl rfl ?_
      refine SL.y (OV.pickT rfl rfl) rfl ?_
      refine SL.y (OV.assign rfl) rfl ?_
      refine SL.nil ?_
      refine SC.then ?_
      refine SC.ret ?_
      exact SE.ret1 Yba.results16 rfl (fun w' hM => ⟨by simp [Fl.lt, ha, hb], hM⟩)
    · skip
      refine SC.region ?_
      refine SL.y (OV.move rfl) rfl ?_
      refine SL.callQ pf26 (args1 rfl) (fun w hM => by have := call26 a w; rwa [ha] at this) rfl ?_
      refine SL.y (OV.move rfl) rfl ?_
      refine SL.yg rfl rfl (OV.move rfl) rfl ?_
      refine SL.callQg rfl rfl pf26 (args1 rfl) (fun w hM => by have := call26 b w; rwa [hb] at this) rfl ?_
      refine SL.yg rfl rfl (OV.not rfl) rfl ?_
      refine SL.y (OV.pickT rfl rfl) rfl ?_
      refine SL.y (OV.move rfl) rfl ?_
      refine SL.yg rfl rfl (OV.move rfl) rfl ?_
      refine SL.yg rfl rfl (OV.move rfl) rfl ?_
      refine SL.yg rfl rfl (OV.lssF rfl rfl) rfl ?_
      refine SL.y (OV.pickF rfl rfl) rfl ?_
      refine SL.y (OV.assign rfl) rfl ?_
      refine SL.nil ?_
      refine SC.then ?_
      refine SC.ret ?_
      exact SE.ret1 Yba.results16 rfl (fun w' hM => ⟨by simp [Fl.lt, ha, hb], hM⟩)
theorem pf16 : plainFunc Yba.prog 16 = true := by kernel_rfl
/-- zzs5902aless -/
theorem call6 (a b : Nat) (w : World) : Calls Yba.prog 6 #[.float .f64 a, .float .f64 b] w fun e w' => e = .returned (.bool (Fl.lt a b)) ∧ Mm w [] [] w' := by
  refine Calls.of_SC (args := [.float .f64 a, .float .f64 b]) Yba.func6 rfl (by simp [Yba.f6]) (Mm.start w) ?_
  refine SC.seq ?_
  refine SC.region ?_
  refine SL.y (OV.assign rfl) rfl ?_
  refine SL.nil ?_
  refine SC.then ?_
  refine SC.seq ?_
  cases hl : Fl.lss a b
  · cases ha : Fl.isNaN a
    · skip
      refine SC.region ?_
      refine SL.y (OV.move rfl) rfl ?_
      refine SL.y (OV.move rfl) rfl ?_
      refine SL.y ((OV.lssF rfl rfl).is (by rw [hl])) rfl ?_
      refine SL.y (OV.move rfl) rfl ?_
      refine SL.yg rfl rfl (OV.move rfl) rfl ?_
      refine SL.yg rfl rfl (OV.move rfl) rfl ?_
      refine SL.yg rfl rfl ((OV.neqF rfl rfl).is (v' := .bool false) (by rw [eql_self, ha]; rfl)) rfl ?_
      refine SL.yg rfl rfl (OV.move rfl) rfl ?_
      refine SL.skip rfl rfl rfl ?_
      refine SL.skip rfl rfl rfl ?_
      refine SL.skip rfl rfl rfl ?_
      refine SL.yg rfl rfl (OV.pickF rfl rfl) rfl ?_
      refine SL.y (OV.pickF rfl rfl) rfl ?_
      refine SL.y (OV.assign rfl) rfl ?_
      refine SL.nil ?_
      refine SC.then ?_
      refine SC.ret ?_
      exact SE.ret1 Yba.results6 rfl (fun w' hM => ⟨by simp [Fl.lt, ha, hl], hM⟩)
    · skip
      refine SC.region ?_
      refine SL.y (OV.move rfl) rfl ?_
      refine SL.y (OV.move rfl) rfl ?_
      refine SL.y ((OV.lssF rfl rfl).is (by rw [hl])) rfl ?_
      refine SL.y (OV.move rfl) rfl ?_
      refine SL.yg rfl rfl (OV.move rfl) rfl ?_
      refine SL.yg rfl rfl (OV.move rfl) rfl ?_
      refine SL.yg rfl rfl ((OV.neqF rfl rfl).is (v' := .bool true) (by rw [eql_self, ha]; rfl)) rfl ?_
      refine SL.yg rfl rfl (OV.move rfl) rfl ?_
      refine SL.yg rfl rfl (OV.move rfl) rfl ?_
      refine SL.yg rfl rfl (OV.move rfl) rfl ?_
      refine SL.yg rfl rfl (OV.eqlF rfl rfl) rfl ?_
      refine SL.yg rfl rfl (OV.pickT rfl rfl) rfl ?_
      refine SL.y (OV.pickF rfl rfl) rfl ?_
      refine SL.y (OV.assign rfl) rfl ?_
      refine SL.nil ?_
      refine SC.then ?_
      refine SC.ret ?_
      exact SE.ret1 Yba.results6 rfl (fun w' hM => ⟨by simp [Fl.lt, ha, hl, eql_self], hM⟩)
  · skip
    refine SC.region ?_
    refine SL.y (OV.move rfl) rfl ?_
    refine SL.y (OV.move rfl) rfl ?_
    refine SL.y ((OV.lssF rfl rfl).is (by rw [hl])) rfl ?_
    refine SL.y (OV.move rfl) rfl ?_
    refine SL.skip rfl rfl rfl ?_
    refine SL.skip rfl rfl rfl ?_
    refine SL.skip rfl rfl rfl ?_
    refine SL.skip rfl rfl rfl ?_
    refine SL.skipU rfl rfl rfl ?_
    refine SL.skipU rfl rfl rfl ?_
    refine SL.skipU rfl rfl rfl ?_
    refine SL.skip rfl rfl rfl ?_
    refine SL.y (OV.pickT rfl rfl) rfl ?_
    refine SL.y (OV.assign rfl) rfl ?_
    refine SL.nil ?_
    refine SC.then ?_
    refine SC.ret ?_
    exact SE.ret1 Yba.results6 rfl (fun w' hM => ⟨by simp [Fl.lt, hl], hM⟩)
theorem pf6 : plainFunc Yba.prog 6 = true := by kernel_rfl

/-- cmp.Less at float64 is a strict weak order. -/
theorem swo : Go.Sort.SWO Fl.lt where
  irrefl x := by
    rw [Bool.eq_false_iff, Ne, Fl.lt_eq]
    rintro ⟨h1, h2 | h2⟩
    · rw [h1] at h2; cases h2
    · omega
  trans x y z h1 h2 := by
    rw [Fl.lt_eq] at h1 h2 ⊢
    refine ⟨h2.1, ?_⟩
    rcases h1.2 with h | h
    · exact .inl h
    · rcases h2.2 with h' | h'
      · rw [h1.1] at h'; cases h'
      · exact .inr (by omega)
  ntrans x y z h1 h2 := by
    rw [Bool.eq_false_iff, Ne, Fl.lt_eq] at h1 h2 ⊢
    intro h3
    cases hx : Fl.isNaN x <;> cases hy : Fl.isNaN y <;> cases hz : Fl.isNaN z <;> simp [hx, hy, hz] at h1 h2 h3 <;> omega
end Go.Proofs.Ybulkdrfa
