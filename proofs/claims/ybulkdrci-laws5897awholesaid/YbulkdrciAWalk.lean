import Derived.Test.YbulkdrciAMeth
namespace Go.Proofs.Ybulkdrci.A
open Go Go.RowKit Go.Proofs.Ybulkdrci.A.Sym
set_option linter.unusedVariables false
set_option linter.unusedSimpArgs false
set_option maxRecDepth 100000

section
variable {P : Program} {w0 : World} {F : List Nat} {env : Env} {m : List Blk} {d : Option Nat} {ty T : TypeId} {pos : String} {af : Array Edge} {g : Option (Nat × Bool)} {x : Operand}
/-- 's[:hi]' -/
theorem Sym.OV.sliceTo {e : TypeId} {i : TypeInfo} {b off n c : Nat} {hi' : Operand} {kh : IntKind} {H : Int} (h : Nat) (hT : P.underlying T = some (.slice e)) (hi : P.info? e = some i) (hx : ev env x = some (.slice (some ⟨b, off, none⟩) n c)) (hhi : ev env hi' = some (.int kh H)) (hH : H = (h : Int)) (hhc : h ≤ c) :
    OV P env w0 F m ⟨d, .slice T x none (some hi') none, ty, pos, af, g⟩ (.slice (some ⟨b, off, none⟩) h c) := by
  subst hH
  exact ⟨fun A w hE hM => by
    have hhc' : (h : Int) ≤ (c : Int) := by omega
    simp [execOp, hE x _ hx, hE hi' _ hhi, Instr.sliceAt, Instr.slice, Instr.sliceBounds, Instr.sliceBound, run_underlying hT, asIntOf, hhc, sizeOf, typeInfo, hi, add_none]⟩
/-- 's[lo:]' -/
theorem Sym.OV.sliceFrom {e : TypeId} {i : TypeInfo} {b off n c s : Nat} {lo : Operand} {kl : IntKind} {L : Int} (l : Nat) (hT : P.underlying T = some (.slice e)) (hi : P.info? e = some i) (hs : i.size = s) (hx : ev env x = some (.slice (some ⟨b, off, none⟩) n c)) (hlo : ev env lo = some (.int kl L)) (hL : L = (l : Int)) (hln : l ≤ n) {off' : Nat} (ho : (if c = l then off else off + l * s) = off') :
    OV P env w0 F m ⟨d, .slice T x (some lo) none none, ty, pos, af, g⟩ (.slice (some ⟨b, off', none⟩) (n - l) (c - l)) := by
  subst hL
  subst ho
  subst hs
  exact ⟨fun A w hE hM => by
    have hln' : (l : Int) ≤ (n : Int) := by omega
    simp [execOp, hE x _ hx, hE lo _ hlo, Instr.sliceAt, Instr.slice, Instr.sliceBounds, Instr.sliceBound, run_underlying hT, asIntOf, hln, sizeOf, typeInfo, hi, add_none]
    split <;> rfl⟩
end
theorem info121 : (Yba.prog.info? 121).map (fun i => (i.zero, i.size, i.bytes)) = some (some (.agg #[.int .i64 0, .int .i64 0, .bool false]), 3, 24) := by kernel_rfl
theorem bld121 (a b : Int) (w : World) : (Instr.build 121 #[(0, .int .i64 a), (1, .int .i64 b)]).run Yba.prog w = .ok (.agg #[.int .i64 a, .int .i64 b, .bool false]) w := by kernel_rfl
theorem fill121 (a b : Int) (c : Bool) : Instr.fill (fun i => some (i * 3, 3)) ((Array.range (1 * 3)).map ((Value.agg #[.int .i64 0, .int .i64 0, .bool false]).cells[· % (Value.agg #[.int .i64 0, .int .i64 0, .bool false]).cells.size]!)) [(0, .agg #[.int .i64 a, .int .i64 b, .bool c])] = some #[.int .i64 a, .int .i64 b, .bool c] := by kernel_rfl
def fcs3 (a b : Nat) (c : Bool) : List Value := [.int .i64 a, .int .i64 b, .bool c]

section
variable {D : RD} {br bN : Nat} {cm : Bool} {x y : Int} {s : NSt} {w : World}
/-- The run's variable, and till. -/
structure Caps1 (w : World) (br bN b4 b1 : Nat) (till : Nat) : Prop where
  h4 : w.cell? ⟨b4, 0, none⟩ = some (.int .i64 till)
  h1 : w.cell? ⟨b1, 0, none⟩ = some (pt br)
  o4 : b4 ∉ [br, bN]
  o1 : b1 ∉ [br, bN]
def step1 (D : RD) (till : Nat) (s : NSt) (k : Nat) : NSt := if till ≤ k then s else ansSt D s k
/-- phaseOne$2 -/
theorem call33 {k b4 b1 till : Nat} (hk1 : 1 ≤ k) (hk : k ≤ D.n) (hD : D.n ≤ 100000) (hC : Caps1 w br bN b4 b1 till) (hA : At D br bN cm x y s w) : Does 33 #[.int .i64 k, .int .i64 0, pt b4, pt b1] w D br bN (.bool false) cm (step1 D till s k) := by
  obtain ⟨i92, hi, hz, hs, hb⟩ := info_parts info92
  refine Calls.of_SC (args := [.int .i64 k, .int .i64 0, pt b4, pt b1]) Yba.func33 rfl (by simp [Yba.f33]) hA.start ?_
  refine SC.seq ?_
  refine SC.region ?_
  refine SL.y (OV.assign rfl) rfl ?_
  refine SL.nil ?_
  refine SC.then ?_
  refine SC.seq ?_
  refine SC.seq ?_
  refine SC.region ?_
  refine SL.y (OV.move rfl) rfl ?_
  refine SL.y ((OV.eql rfl rfl).yes rfl) rfl ?_
  refine SL.y (OV.move rfl) rfl ?_
  refine SL.yg rfl rfl (OV.move rfl) rfl ?_
  refine SL.yg rfl rfl (OV.loadOld sc3 rfl hC.o4 hC.h4) rfl ?_
  refine SL.yg rfl rfl (OV.geq rfl rfl) rfl ?_
  refine SL.y (OV.pickT rfl rfl) rfl ?_
  refine SL.nil ?_
  refine SC.then ?_
  refine SC.condP rfl (fun hge => ?_) (fun hlt => ?_)
  · have e : step1 D till s k = s := by unfold step1; rw [if_pos (by omega)]
    rw [e]
    refine SC.seq ?_
    refine SC.region ?_
    refine SL.y (OV.assign rfl) rfl ?_
    refine SL.nil ?_
    refine SC.then ?_
    refine SC.ret ?_
    repeat (first | refine SE.blockR ?_ | refine SE.thenR ?_)
    exact SE.ret1 Yba.results33 rfl (fun w' hM => ⟨(x, y), rfl, trivial, hM⟩)
  · have e : step1 D till s k = ansSt D s k := by unfold step1; rw [if_neg (by omega)]
    rw [e]
    refine SC.skip ?_
    refine SC.then ?_
    refine SC.seq ?_
    refine SC.seq ?_
    refine SC.region ?_
    refine SL.y (OV.loadOld sc81 rfl hC.o1 hC.h1) rfl ?_
    refine SL.y (OV.nilCheck rfl) rfl ?_
    refine SL.y (OV.fld fo88_2 rfl) rfl ?_
    refine SL.y (OV.loadF 0 sc86 rfl rfl rfl) rfl ?_
    refine SL.y (OV.move rfl) rfl ?_
    refine SL.y (OV.idx k u86 hi hs rfl rfl rfl (by omega)) rfl ?_
    refine SL.y (OV.assign rfl) rfl ?_
    refine SL.nil ?_
    refine SC.then ?_
    refine SC.seq ?_
    refine SC.region ?_
    refine SL.y (OV.move rfl) rfl ?_
    refine SL.y (OV.nilCheck rfl) rfl ?_
    refine SL.y (OV.fld fo92_1 rfl) rfl ?_
    refine SL.y (OV.loadT 1 sc3 rfl rfl (by omega) (nc1 D s k)) rfl ?_
    refine SL.y (OV.move rfl) rfl ?_
    refine SL.y (OV.add rfl rfl (wrap_i64 (by omega) (by omega))) rfl ?_
    refine SL.y ((OV.gtr rfl rfl).no (by rw [endOf_pos hk1]; omega)) rfl ?_
    refine SL.y (OV.move rfl) rfl ?_
    refine SL.skip rfl rfl rfl ?_
    refine SL.skip rfl rfl rfl ?_
    refine SL.skip rfl rfl rfl ?_
    refine SL.skip rfl rfl rfl ?_
    refine SL.skip rfl rfl rfl ?_
    refine SL.y (OV.pickF rfl rfl) rfl ?_
    refine SL.y (OV.move rfl) rfl ?_
    refine SL.skip rfl rfl rfl ?_
    refine SL.skip rfl rfl rfl ?_
    refine SL.skip rfl rfl rfl ?_
    refine SL.skip rfl rfl rfl ?_
    refine SL.skip rfl rfl rfl ?_
    refine SL.skip rfl rfl rfl ?_
    refine SL.skip rfl rfl rfl ?_
    refine SL.skip rfl rfl rfl ?_
    refine SL.y (OV.pickF rfl rfl) rfl ?_
    refine SL.nil ?_
    refine SC.then ?_
    refine SC.cond rfl (fun e => by cases e) (fun _ => ?_)
    refine SC.skip ?_
    refine SC.then ?_
    refine SC.seq ?_
    refine SC.region ?_
    refine SL.y (OV.loadOld sc81 rfl hC.o1 hC.h1) rfl ?_
    refine SL.y (OV.move rfl) rfl ?_
    refine SL.y (OV.move rfl) rfl ?_
    refine SL.callR pf31 (args3 rfl rfl rfl) (fun w' hM => call31 (b := 0) hk1 hk (by omega) hD (hA.go hM)) rfl ?_
    intro z
    refine SL.nil ?_
    refine SC.then ?_
    refine SC.seq ?_
    refine SC.region ?_
    refine SL.y (OV.assign rfl) rfl ?_
    refine SL.nil ?_
    refine SC.then ?_
    refine SC.ret ?_
    exact SE.ret1 Yba.results33 rfl (fun w' hM => ⟨z, rfl, trivial, hM⟩)
theorem pf33 : plainFunc Yba.prog 33 = true := by kernel_rfl
/-- The nodes' standing once those before place k have been gone through. -/
def p1 (D : RD) (till : Nat) (s : NSt) : Nat → NSt
  | 0 => s
  | k + 1 => if k = 0 then s else step1 D till (p1 D till s k) k
theorem p1_one (D : RD) (till : Nat) (s : NSt) : p1 D till s 1 = s := rfl
theorem p1_succ (D : RD) (till : Nat) (s : NSt) {k : Nat} (h : 1 ≤ k) : p1 D till s (k + 1) = step1 D till (p1 D till s k) k := by
  show (if k = 0 then s else _) = _
  rw [if_neg (by omega)]
theorem Caps1.go {w0 w : World} {br bN b4 b1 till : Nat} {m : List Blk} (h : Caps1 w0 br bN b4 b1 till) (hM : Mm w0 [br, bN] m w) : Caps1 w br bN b4 b1 till :=
  ⟨Mm.oldCell hM h.o4 h.h4, Mm.oldCell hM h.o1 h.h1, h.o4, h.o1⟩
/-- walk, in phase one -/
theorem walk1 {b4 b1 till : Nat} {fs cap : Array Value} {fl : Nat} (hD : D.n ≤ 100000) (hC : Caps1 w br bN b4 b1 till) (hA : At D br bN cm x y s w) : Does 29 #[pt br, .func (.func 33) #[] #[pt b4, pt b1], .func (.func fl) fs cap, .nilFunc] w D br bN (.tuple #[]) cm (p1 D till s (D.n + 1)) := by
  obtain ⟨i92, hi, hz, hs, hb⟩ := info_parts info92
  obtain ⟨i121, hi1, hz1, hs1, hb1⟩ := info_parts info121
  refine Calls.of_SC (args := [pt br, .func (.func 33) #[] #[pt b4, pt b1], .func (.func fl) fs cap, .nilFunc]) Yba.func29 rfl (by simp [Yba.f29]) hA.start ?_
  refine SC.seq ?_
  refine SC.region ?_
  refine SL.y (OV.build (parts2 rfl rfl) (bld121 0 1)) rfl ?_
  refine SL.e (OE.bsliceN (s := 3) (cs := #[.int .i64 0, .int .i64 1, .bool false]) u122 hi1 hz1 hs1 (by decide) (by decide) (parts1 rfl) (fill121 _ _ _)) rfl ?_
  intro bs
  refine SL.y (OV.assign rfl) rfl ?_
  refine SL.nil ?_
  refine SC.then ?_
  refine SC.block ?_
  refine SC.loopAB (fun (k : Nat) (z : Bool × Int × Int) => [(8, .slice (some ⟨bs, 0, none⟩) (if z.1 then 0 else 1) 1), (0, pt br), (1, .func (.func 33) #[] #[pt b4, pt b1]), (2, .func (.func fl) fs cap), (3, .nilFunc)]) (fun k z => [(br, rrow D bN cm z.2.1 z.2.2), (bN, nrow D (p1 D till s k)), (bs, row 121 (fcs3 0 k false))]) (fun k z => 1 ≤ k ∧ k ≤ D.n + 1 ∧ (z.1 = true → k = D.n + 1)) (fun k z => 2 * (D.n + 1 - k) + (if z.1 then 0 else 1)) 1 (false, x, y) ⟨by omega, by omega, by simp⟩ (by repeat' (first | exact trivial | refine ⟨rfl, ?_⟩)) (List.Sublist.refl _) ?_
  rintro k ⟨fin, z⟩ ⟨hk1, hk2, hfin⟩
  refine SC.seq ?_
  cases fin with
  | true =>
    have hk := hfin rfl
    subst hk
    refine SC.seq ?_
    refine SC.region ?_
    refine SL.y (OV.move rfl) rfl ?_
    refine SL.y (OV.len u122 rfl) rfl ?_
    refine SL.y (OV.gtr rfl rfl) rfl ?_
    refine SL.nil ?_
    refine SC.then ?_
    refine SC.condP rfl (fun h => absurd h (by simp)) (fun h => ?_)
    refine SC.exit ?_
    refine SE.thenE (SE.thenE (SE.inBlock ?_))
    exact SE.end0 Yba.results29 (fun w' hM => ⟨z, rfl, trivial, hM.weaken (((List.nil_sublist _).cons_cons _).cons_cons _)⟩)
  | false =>
    refine SC.seq ?_
    refine SC.region ?_
    refine SL.y (OV.move rfl) rfl ?_
    refine SL.y (OV.len u122 rfl) rfl ?_
    refine SL.y ((OV.gtr rfl rfl).yes (by simp)) rfl ?_
    refine SL.nil ?_
    refine SC.then ?_
    refine SC.cond rfl (fun _ => ?_) (fun e => by cases e)
    refine SC.skip ?_
    refine SC.then ?_
    refine SC.block ?_
    refine SC.seq ?_
    refine SC.region ?_
    refine SL.y (OV.move rfl) rfl ?_
    refine SL.y (OV.move rfl) rfl ?_
    refine SL.y (OV.len u122 rfl) rfl ?_
    refine SL.y (OV.sub (r := 0) rfl rfl (by rfl)) rfl ?_
    refine SL.y (OV.idx 0 u122 hi1 hs1 rfl rfl rfl (by show 0 < 1; decide)) rfl ?_
    refine SL.y (OV.assign rfl) rfl ?_
    refine SL.nil ?_
    refine SC.then ?_
    refine SC.seq ?_
    refine SC.seq ?_
    refine SC.quiet mixed (by kernel_rfl) ?_
    refine SQ.y (OV.move rfl) rfl ?_
    refine SQ.y (OV.nilCheck rfl) rfl ?_
    refine SQ.y (OV.fld fo121_1 rfl) rfl ?_
    refine SQ.y (OV.loadF 2 sc3 rfl rfl rfl) rfl ?_
    refine SQ.y (OV.move rfl) rfl ?_
    refine SQ.y (OV.nilCheck rfl) rfl ?_
    refine SQ.y (OV.fld fo88_2 rfl) rfl ?_
    refine SQ.y (OV.loadF 0 sc86 rfl rfl rfl) rfl ?_
    refine SQ.y (OV.move rfl) rfl ?_
    refine SQ.y (OV.nilCheck rfl) rfl ?_
    refine SQ.y (OV.fld fo121_0 rfl) rfl ?_
    refine SQ.y (OV.loadF 2 sc3 rfl rfl rfl) rfl ?_
    refine SQ.y (OV.idx 0 u86 hi hs rfl rfl rfl (by omega)) rfl ?_
    refine SQ.y (OV.fld fo92_1 rfl) rfl ?_
    refine SQ.y (OV.loadT 1 sc3 rfl rfl (by omega) (nc1 D _ 0)) rfl ?_
    refine SQ.y (OV.eql rfl rfl) rfl ?_
    refine SQ.nil ?_
    refine SC.then ?_
    rw [endOf_zero]
    refine SC.condP rfl (fun heq => ?_) (fun hne => ?_)
    · have hk : k = D.n + 1 := by omega
      subst hk
      refine SC.seq ?_
      refine SC.seq ?_
      refine SC.region ?_
      refine SL.y (OV.move rfl) rfl ?_
      refine SL.y (OV.neqFnNil fn119 rfl) rfl ?_
      refine SL.y (OV.move rfl) rfl ?_
      refine SL.skip rfl rfl rfl ?_
      refine SL.skip rfl rfl rfl ?_
      refine SL.skip rfl rfl rfl ?_
      refine SL.skip rfl rfl rfl ?_
      refine SL.skip rfl rfl rfl ?_
      refine SL.y (OV.pickF rfl rfl) rfl ?_
      refine SL.nil ?_
      refine SC.then ?_
      refine SC.cond rfl (fun e => by cases e) (fun _ => ?_)
      refine SC.skip ?_
      refine SC.then ?_
      refine SC.seq ?_
      refine SC.region ?_
      refine SL.y (OV.move rfl) rfl ?_
      refine SL.y (OV.move rfl) rfl ?_
      refine SL.y (OV.len u122 rfl) rfl ?_
      refine SL.y (OV.sub (r := 0) rfl rfl (by rfl)) rfl ?_
      refine SL.y (OV.sliceTo 0 u122 hi1 rfl rfl rfl (by decide)) rfl ?_
      refine SL.y (OV.assign rfl) rfl ?_
      refine SL.nil ?_
      refine SC.then ?_
      refine SC.seq ?_
      refine SC.seq ?_
      refine SC.region ?_
      refine SL.y (OV.move rfl) rfl ?_
      refine SL.y (OV.len u122 rfl) rfl ?_
      refine SL.y ((OV.gtr rfl rfl).no (by decide)) rfl ?_
      refine SL.y (OV.move rfl) rfl ?_
      refine SL.skip rfl rfl rfl ?_
      refine SL.skip rfl rfl rfl ?_
      refine SL.y (OV.pickF rfl rfl) rfl ?_
      refine SL.nil ?_
      refine SC.then ?_
      refine SC.cond rfl (fun e => by cases e) (fun _ => ?_)
      refine SC.skip ?_
      refine SC.then ?_
      refine SC.exit ?_
      refine SE.thenE (SE.inBlock ?_)
      exact SE.roundAB (D.n + 1) (true, z) ⟨by omega, by omega, fun _ => rfl⟩ (by simp) (by repeat' (first | exact trivial | refine ⟨rfl, ?_⟩)) (List.Sublist.refl _)
    · have hk : k ≤ D.n := by omega
      refine SC.skip ?_
      refine SC.then ?_
      refine SC.seq ?_
      refine SC.quiet mixed (by kernel_rfl) ?_
      refine SQ.y (OV.move rfl) rfl ?_
      refine SQ.y (OV.nilCheck rfl) rfl ?_
      refine SQ.y (OV.fld fo121_1 rfl) rfl ?_
      refine SQ.y (OV.loadF 2 sc3 rfl rfl rfl) rfl ?_
      refine SQ.y (OV.move rfl) rfl ?_
      refine SQ.y (OV.nilCheck rfl) rfl ?_
      refine SQ.y (OV.fld fo121_0 rfl) rfl ?_
      refine SQ.y (OV.loadF 2 sc3 rfl rfl rfl) rfl ?_
      refine SQ.y (OV.assign rfl) rfl ?_
      refine SQ.y (OV.assign rfl) rfl ?_
      refine SQ.nil ?_
      refine SC.then ?_
      refine SC.seq ?_
      refine SC.region ?_
      refine SL.y (OV.move rfl) rfl ?_
      refine SL.y (OV.move rfl) rfl ?_
      refine SL.y (OV.nilCheck rfl) rfl ?_
      refine SL.y (OV.fld fo88_2 rfl) rfl ?_
      refine SL.y (OV.loadF 0 sc86 rfl rfl rfl) rfl ?_
      refine SL.y (OV.move rfl) rfl ?_
      refine SL.y (OV.idx k u86 hi hs rfl rfl rfl (by omega)) rfl ?_
      refine SL.y (OV.fld fo92_1 rfl) rfl ?_
      refine SL.y (OV.loadT 1 sc3 rfl rfl (by omega) (nc1 D _ k)) rfl ?_
      refine SL.y (OV.nilCheck rfl) rfl ?_
      refine SL.y (OV.fld fo121_1 rfl) rfl ?_
      refine SL.s (OS.store1 2 sz3 rfl rfl rfl rfl (by show 1 < 3; decide)) ?_
      refine SL.nil ?_
      refine SC.then ?_
      rw [endOf_pos hk1]
      refine SC.seq ?_
      refine SC.seq ?_
      refine SC.quiet mixed (by kernel_rfl) ?_
      refine SQ.y (OV.move rfl) rfl ?_
      refine SQ.y (OV.neqFnNil fn119 rfl) rfl ?_
      refine SQ.y (OV.move rfl) rfl ?_
      refine SQ.skip rfl rfl rfl ?_
      refine SQ.skip rfl rfl rfl ?_
      refine SQ.skip rfl rfl rfl ?_
      refine SQ.skip rfl rfl rfl ?_
      refine SQ.skip rfl rfl rfl ?_
      refine SQ.skip rfl rfl rfl ?_
      refine SQ.skip rfl rfl rfl ?_
      refine SQ.skip rfl rfl rfl ?_
      refine SQ.y (OV.pickF rfl rfl) rfl ?_
      refine SQ.nil ?_
      refine SC.then ?_
      refine SC.cond rfl (fun e => by cases e) (fun _ => ?_)
      refine SC.skip ?_
      refine SC.then ?_
      refine SC.seq ?_
      refine SC.region ?_
      refine SL.y (OV.move rfl) rfl ?_
      refine SL.y (OV.move rfl) rfl ?_
      refine SL.y (OV.move rfl) rfl ?_
      refine SL.callV (σ := Int × Int) (V := fun _ => .bool false) (M := fun z => [(br, rrow D bN cm z.1 z.2), (bN, nrow D (p1 D till s (k + 1))), (bs, row 121 (fcs3 0 (k + 1) false))]) (G := fun _ => True) pf33 rfl (fun ρ hρ => by rw [args2 rfl rfl ρ hρ]; rfl) (fun w' hM => (call33 (k := k) hk1 hk hD (hC.go hM) (hA.go hM)).mono fun e w'' ⟨z', he, _, hM'⟩ => ⟨z', he, trivial, by rw [p1_succ D till s hk1]; exact Mm.callR hM hM'⟩) rfl ?_
      intro z' _
      refine SL.nil ?_
      refine SC.then ?_
      refine SC.cond rfl (fun e => by cases e) (fun _ => ?_)
      refine SC.skip ?_
      refine SE.nb ?_
      exact SE.roundAB (k + 1) (false, z') ⟨by omega, by omega, fun e => by cases e⟩ (by simp; omega) (by repeat' (first | exact trivial | refine ⟨rfl, ?_⟩)) (List.Sublist.refl _)
theorem pf29 : plainFunc Yba.prog 29 = true := by kernel_rfl
end
end Go.Proofs.Ybulkdrci.A
