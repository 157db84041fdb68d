import Derived.Test.YbulkdrgqMay
import Derived.Laws.StructEq
namespace Go.Proofs.Ybulkdrgq
open Go Go.RowKit Go.Proofs.Ybulkdrgq.Sym
set_option linter.unusedVariables false
set_option linter.unusedSimpArgs false
set_option maxRecDepth 100000

def nodeCells (cd cg n : Nat) (s : Int) : List Value := [.pointer none, .int .i64 0, .pointer none, .pointer none, .int .u64 0, .int .i64 0, .pointer none, .string ⟨#[]⟩, .slice none 0 0, .int .i64 0, .slice none 0 0, .chan (some cd), .int .u64 n, .int .i64 s, .pointer none, .chan (some cg), .nilFunc, .int .u64 0, .int .u32 0, .int .u32 0, .int .i32 0, .int .u32 0, .chan none, .nilIface, .int .i32 0, .int .u32 0, .map none, .int .i64 0, .map none, .int .i64 0, .bool false, .pointer none, .map none, .map none, .map none]
theorem bld25 (w : World) : (Instr.build 25 #[]).run Yba.prog w = .ok (tv 0 0) w := by kernel_rfl
theorem bld62 (cd cg n : Nat) (s : Int) (w : World) : (Instr.build 62 #[(9, .chan (some cd)), (11, .chan (some cg)), (10, tv n s)]).run Yba.prog w = .ok (.agg (nodeCells cd cg n s).toArray) w := by kernel_rfl
theorem bld65 (c : Nat) (t : Bool) (w : World) : (Instr.build 65 #[(0, .chan (some c)), (1, .bool t)]).run Yba.prog w = .ok (.agg #[.chan (some c), .bool t]) w := by kernel_rfl
section
variable {env : Env} {i0 i1 i2 : Nat} {x0 x1 x2 : Operand} {v0 v1 v2 : Value}
theorem parts2 (h0 : ev env x0 = some v0) (h1 : ev env x1 = some v1) (ρ : Operand → Value) (hρ : ∀ x u, ev env x = some u → ρ x = u) :
    (#[(i0, x0), (i1, x1)] : Array (Nat × Operand)).map (fun p => (p.1, ρ p.2)) = #[(i0, v0), (i1, v1)] := by simp [hρ x0 _ h0, hρ x1 _ h1]
theorem parts3 (h0 : ev env x0 = some v0) (h1 : ev env x1 = some v1) (h2 : ev env x2 = some v2) (ρ : Operand → Value) (hρ : ∀ x u, ev env x = some u → ρ x = u) :
    (#[(i0, x0), (i1, x1), (i2, x2)] : Array (Nat × Operand)).map (fun p => (p.1, ρ p.2)) = #[(i0, v0), (i1, v1), (i2, v2)] := by simp [hρ x0 _ h0, hρ x1 _ h1, hρ x2 _ h2]
end
theorem eqIn_int {P : Program} {d : Nat} (w : World) {T : TypeId} {k' : IntKind} (h : P.underlying T = some (.int k')) (k : IntKind) (a b : Int) : (Op.equalIn (d + 1) T (.int k a) (.int k b)).run P w = .ok (a == b) w := by
  simp [Op.equalIn, run_underlying h]
theorem u23 : Yba.prog.underlying 23 = some (.pointer 96) := by kernel_rfl
theorem opEq25 (n : Nat) (s : Int) (w : World) : (Op.equal 25 (tv n s) (tv n s)).run Yba.prog w = .ok true w := by
  have h := run_equalIn_struct (P := Yba.prog) w 9999 25 #[.int .u64 n, .int .i64 s, .pointer none] #[.int .u64 n, .int .i64 s, .pointer none] (by kernel_rfl) (by kernel_rfl)
  have hf : (Yba.prog.fieldsOf 25).toList.map (fun f => (f.name, f.type, f.offset)) = [("wall", 22, 0), ("ext", 2, 1), ("loc", 23, 2)] := by kernel_rfl
  have hu23 := u23
  unfold Op.equal Op.maxDepth
  rw [h]
  simp only [List.map_eq_cons_iff, List.map_eq_nil_iff] at hf
  obtain ⟨f0, _, hL, h0, f1, _, rfl, h1, f2, _, rfl, h2, rfl⟩ := hf
  simp only [Prod.mk.injEq] at h0 h1 h2
  obtain ⟨a0, a1, a2⟩ := h0
  obtain ⟨b0, b1, b2⟩ := h1
  obtain ⟨c0, c1, c2⟩ := h2
  rw [hL]
  have e0 := eqIn_int (P := Yba.prog) (d := 9998) w u22 .u64 n n
  have e1 := eqIn_int (P := Yba.prog) (d := 9998) w u2 .i64 s s
  have e2 := eqIn_ptr_nil (P := Yba.prog) 9998 (q := none) hu23 w
  simp only [Nat.reduceAdd] at e0 e1 e2
  simp [Op.eqFields, a0, a1, a2, b0, b1, b2, c0, c1, c2, part, isAgg, run_underlying u22, run_underlying u2, run_underlying hu23, e0, e1, e2]
theorem eg25 : Yba.prog.eqGuardType Yba.prog.depth 25 = false := by kernel_rfl

/-- How the law maps the state, so that mayGrant has one answer. -/
def Mapped (g d c : Bool) (af : Bool) : Prop := (g = true ∧ c = false ∧ (d = true → af = false)) ∨ (g = false ∧ (c = true ∨ d = true ∧ af = true))
theorem aft_self (n : Nat) (s : Int) : aft n s n s = false := decide_eq_false (fun h => h.elim (fun h => absurd h (Int.lt_irrefl _)) (fun h => absurd h.2 (Nat.lt_irrefl _)))
section
variable {w0 : World}
/-- From the built node on. -/
theorem tail {g d c : Bool} {b11 b12 nd n : Nat} {sd s : Int} (hnd : nd < 1000000000) (hn : n < 1000000000) (H : Mapped g d c (aft n s nd sd)) :
    SC Yba.prog (sub [1, 1, 1, 1, 1] (Yba.f3.body.getD .skip)) (bodyPost Yba.prog Yba.f3 (fun e w' => e = .returned (.bool true) ∧ Below w0.heap.size w0 w')) Yba.f3.ntmps [(0, .bool g), (1, .bool d), (13, .bool c), (11, pt b11), (12, pt b12)] w0 [] [(b11, row 25 (tcs nd sd)), (b12, row 25 (tcs n s))] := by
  obtain ⟨i25, hi25, hz25, hs25, hb25⟩ := info_parts info25
  have hPQ : PanicOk (bodyPost Yba.prog Yba.f3 (fun e w' => e = .returned (.bool true) ∧ Below w0.heap.size w0 w')) := PanicOk.body
  refine SC.cutG (fun x : Nat × Nat × Nat => [(14, pt x.2.2), (0, .bool g), (1, .bool d), (13, .bool c), (11, pt b11), (12, pt b12)]) (fun x => [(b11, row 25 (tcs nd sd)), (b12, row 25 (tcs n s)), (x.1, chn d), (x.2.1, chn g), (x.2.2, row 62 (nodeCells x.1 x.2.1 n s))]) (fun _ => True) ?_ ?_
  · skip
    refine SC.held 5 [(b11, row 25 (tcs nd sd)), (b12, row 25 (tcs n s))] [] mixed ?_
    refine SA.takeC (i := 0) (by repeat (first | exact hPQ | refine PanicOk.then ?_ | refine PanicOk.block ?_ | exact PanicOk.body)) rfl (by kernel_rfl) (by kernel_rfl) (by kernel_rfl) rfl (by first | exact List.nil_sublist _ | exact List.Sublist.refl _ | (repeat (first | exact List.Sublist.refl _ | exact List.nil_sublist _ | refine List.Sublist.cons_cons _ ?_ | refine List.Sublist.cons _ ?_))) (OV.move rfl) rfl ?_
    refine SA.takeC (i := 2) (by repeat (first | exact hPQ | refine PanicOk.then ?_ | refine PanicOk.block ?_ | exact PanicOk.body)) rfl (by kernel_rfl) (by kernel_rfl) (by kernel_rfl) rfl (by first | exact List.nil_sublist _ | exact List.Sublist.refl _ | (repeat (first | exact List.Sublist.refl _ | exact List.nil_sublist _ | refine List.Sublist.cons_cons _ ?_ | refine List.Sublist.cons _ ?_))) (OV.move rfl) rfl ?_
    refine SA.takeA (i := 4) (by repeat (first | exact hPQ | refine PanicOk.then ?_ | refine PanicOk.block ?_ | exact PanicOk.body)) rfl (by kernel_rfl) (by kernel_rfl) (by kernel_rfl) rfl (by kernel_rfl) (by kernel_rfl) (by first | exact List.nil_sublist _ | exact List.Sublist.refl _ | (repeat (first | exact List.Sublist.refl _ | exact List.nil_sublist _ | refine List.Sublist.cons_cons _ ?_ | refine List.Sublist.cons _ ?_))) (OV.loadAgg (vs := tcs n s) 1 ag25 us25 hi25 rfl rfl (by rw [hs25]; rfl) (fun q v h => by rw [Nat.zero_add]; exact h)) rfl ?_
    refine SA.all (rs := [1]) (by kernel_rfl) (by simp) (all_cons ?_ (all_nil))
    · skip
      refine SO.call (σ := Nat) (V := fun c => .chan (some c)) (M := fun c => [(b11, row 25 (tcs nd sd)), (b12, row 25 (tcs n s)), (c, chn d)]) (G := fun _ => True) rfl pf6 (args1 rfl) (fun w' hM => (call6 d w').mono fun e w'' ⟨c, he, _, hM'⟩ => ⟨c, he, trivial, hM.callee0 hM'⟩) rfl (fun _ => (((List.nil_sublist _).cons_cons _).cons_cons _)) ?_
      intro cd _
      refine SA.all (rs := [3]) (by kernel_rfl) (by simp) (all_cons ?_ (all_nil))
      · skip
        refine SO.call (σ := Nat) (V := fun c => .chan (some c)) (M := fun c => [(b11, row 25 (tcs nd sd)), (b12, row 25 (tcs n s)), (cd, chn d), (c, chn g)]) (G := fun _ => True) rfl pf6 (args1 rfl) (fun w' hM => (call6 g w').mono fun e w'' ⟨c, he, _, hM'⟩ => ⟨c, he, trivial, hM.callee0 hM'⟩) rfl (fun _ => (((List.nil_sublist _).cons_cons _).cons_cons _)) ?_
        intro cg _
        refine SA.all (rs := [5]) (by kernel_rfl) (by simp) (all_cons ?_ (all_nil))
        · skip
          refine SO.v rfl (OV.build (parts3 rfl rfl rfl) (bld62 cd cg n s)) rfl (by first | exact List.nil_sublist _ | exact List.Sublist.refl _ | (repeat (first | exact List.Sublist.refl _ | exact List.nil_sublist _ | refine List.Sublist.cons_cons _ ?_ | refine List.Sublist.cons _ ?_))) ?_
          refine SA.all (rs := [6]) (by kernel_rfl) (by simp) (all_cons ?_ (all_nil))
          · skip
            refine SO.e rfl (OE.box rfl) rfl (fun _ => (by first | exact List.nil_sublist _ | exact List.Sublist.refl _ | (repeat (first | exact List.Sublist.refl _ | exact List.nil_sublist _ | refine List.Sublist.cons_cons _ ?_ | refine List.Sublist.cons _ ?_)))) ?_
            intro bn
            refine SA.takeC (i := 7) (by repeat (first | exact hPQ | refine PanicOk.then ?_ | refine PanicOk.block ?_ | exact PanicOk.body)) rfl (by kernel_rfl) (by kernel_rfl) (by kernel_rfl) rfl (by first | exact List.nil_sublist _ | exact List.Sublist.refl _ | (repeat (first | exact List.Sublist.refl _ | exact List.nil_sublist _ | refine List.Sublist.cons_cons _ ?_ | refine List.Sublist.cons _ ?_))) (OV.assign rfl) rfl ?_
            refine SA.done (by kernel_rfl) ?_
            exact SE.toG (cd, cg, bn) trivial (by repeat' (first | exact trivial | refine ⟨rfl, ?_⟩)) (List.Sublist.refl _)
  rintro ⟨cd, cg, bn⟩ _
  refine SC.seq ?_
  refine SC.quiet mixed (by kernel_rfl) ?_
  refine SQ.y (OV.move rfl) rfl ?_
  refine SQ.y (OV.nilCheck rfl) rfl ?_
  refine SQ.y (OV.fld fo62_11 rfl) rfl ?_
  refine SQ.y (OV.loadF 4 sc30 rfl rfl rfl) rfl ?_
  refine SQ.y (OV.move rfl) rfl ?_
  refine SQ.y (OV.nilCheck rfl) rfl ?_
  refine SQ.y (OV.fld fo62_9 rfl) rfl ?_
  refine SQ.y (OV.loadF 4 sc30 rfl rfl rfl) rfl ?_
  refine SQ.y (OV.assign rfl) rfl ?_
  refine SQ.y (OV.assign rfl) rfl ?_
  refine SQ.nil ?_
  refine SC.then ?_
  refine SC.seq ?_
  refine SC.region ?_
  refine SL.y (OV.move rfl) rfl ?_
  refine SL.call (σ := Nat) (V := fun c => .chan (some c)) (M := fun cc => [(b11, row 25 (tcs nd sd)), (b12, row 25 (tcs n s)), (cd, chn d), (cg, chn g), (bn, row 62 (nodeCells cd cg n s)), (cc, chn c)]) (G := fun _ => True) pf6 (args1 rfl) (fun w' hM => (call6 c w').mono fun e w'' ⟨c, he, _, hM'⟩ => ⟨c, he, trivial, hM.callee0 hM'⟩) rfl ?_
  intro cc _
  refine SL.y (OV.move rfl) rfl ?_
  refine SL.y (OV.build (parts2 rfl rfl) (bld65 cc c)) rfl ?_
  refine SL.e (OE.box rfl) rfl ?_
  intro bx
  refine SL.y (OV.assign rfl) rfl ?_
  refine SL.nil ?_
  refine SC.then ?_
  refine SC.seq ?_
  refine SC.region ?_
  refine SL.y (OV.move rfl) rfl ?_
  refine SL.y (OV.move rfl) rfl ?_
  refine SL.y (OV.mkP u63 rfl) rfl ?_
  refine SL.y (OV.loadAgg (vs := tcs nd sd) 0 ag25 us25 hi25 rfl rfl (by rw [hs25]; rfl) (fun q v h => by rw [Nat.zero_add]; exact h)) rfl ?_
  refine SL.callQ pf7 (args3 rfl rfl rfl) (fun w' hM => call7 (w := w') (bn := bn) (bx := bx) (cd := cd) (cg := cg) (cc := cc) (g := g) (d := d) (c := c) (t := c) hn hnd ⟨_, hM.block (j := 4) rfl, rfl, rfl, rfl, rfl, rfl⟩ (hM.block (j := 6) rfl) (hM.block (j := 3) rfl) (hM.block (j := 2) rfl) (hM.block (j := 5) rfl) rfl H) rfl ?_
  refine SL.y (OV.assign rfl) rfl ?_
  refine SL.nil ?_
  refine SC.then ?_
  refine SC.seq ?_
  refine SC.region ?_
  refine SL.y (OV.assign rfl) rfl ?_
  refine SL.nil ?_
  refine SC.then ?_
  refine SC.cutSt [(19, .bool g), (18, .bool g), (15, .chan (some cg)), (16, .chan (some cd)), (14, pt bn), (12, pt b12)] [(b12, row 25 (tcs n s)), (bn, row 62 (nodeCells cd cg n s))] ?_ ?_
  · skip
    refine SC.seq ?_
    refine SC.region ?_
    refine SL.y (OV.move rfl) rfl ?_
    refine SL.nil ?_
    refine SC.then ?_
    cases g with
    | true =>
      refine SC.cond rfl (fun _ => ?_) (fun e => by cases e)
      refine SC.region ?_
      refine SL.y (OV.assign rfl) rfl ?_
      refine SL.nil ?_
      exact SE.toSt (by repeat' (first | exact trivial | refine ⟨rfl, ?_⟩)) (by repeat (first | exact List.Sublist.refl _ | exact List.nil_sublist _ | refine List.Sublist.cons_cons _ ?_ | refine List.Sublist.cons _ ?_))
    | false =>
      refine SC.cond rfl (fun e => by cases e) (fun _ => ?_)
      refine SC.skip ?_
      exact SE.toSt (by repeat' (first | exact trivial | refine ⟨rfl, ?_⟩)) (by repeat (first | exact List.Sublist.refl _ | exact List.nil_sublist _ | refine List.Sublist.cons_cons _ ?_ | refine List.Sublist.cons _ ?_))
  refine SC.seq ?_
  refine SC.quiet mixed (by kernel_rfl) ?_
  refine SQ.y (OV.move rfl) rfl ?_
  refine SQ.y (OV.move rfl) rfl ?_
  refine SQ.y ((OV.eqlB u4 rfl rfl).is (v' := .bool true) (by simp)) rfl ?_
  refine SQ.y (OV.move rfl) rfl ?_
  refine SQ.yg rfl rfl (OV.move rfl) rfl ?_
  refine SQ.yg rfl rfl (OV.nilCheck rfl) rfl ?_
  refine SQ.yg rfl rfl (OV.fld fo62_11 rfl) rfl ?_
  refine SQ.yg rfl rfl (OV.loadF 1 sc30 rfl rfl rfl) rfl ?_
  refine SQ.yg rfl rfl (OV.move rfl) rfl ?_
  refine SQ.yg rfl rfl ((OV.eqlCh u30 rfl rfl).is (v' := .bool true) (by simp)) rfl ?_
  refine SQ.y (OV.pickT rfl rfl) rfl ?_
  refine SQ.y (OV.move rfl) rfl ?_
  refine SQ.yg rfl rfl (OV.move rfl) rfl ?_
  refine SQ.yg rfl rfl (OV.nilCheck rfl) rfl ?_
  refine SQ.yg rfl rfl (OV.fld fo62_9 rfl) rfl ?_
  refine SQ.yg rfl rfl (OV.loadF 1 sc30 rfl rfl rfl) rfl ?_
  refine SQ.yg rfl rfl (OV.move rfl) rfl ?_
  refine SQ.yg rfl rfl ((OV.eqlCh u30 rfl rfl).is (v' := .bool true) (by simp)) rfl ?_
  refine SQ.y (OV.pickT rfl rfl) rfl ?_
  refine SQ.y (OV.move rfl) rfl ?_
  refine SQ.yg rfl rfl (OV.move rfl) rfl ?_
  refine SQ.yg rfl rfl (OV.nilCheck rfl) rfl ?_
  refine SQ.yg rfl rfl (OV.fld fo62_10 rfl) rfl ?_
  refine SQ.yg rfl rfl (OV.loadAgg (vs := tcs n s) 1 ag25 us25 hi25 rfl rfl (by rw [hs25]; rfl) (fun q v h => by match q, h with | 0, h => exact h | 1, h => exact h | 2, h => exact h)) rfl ?_
  refine SQ.yg rfl rfl (OV.loadAgg (vs := tcs n s) 0 ag25 us25 hi25 rfl rfl (by rw [hs25]; rfl) (fun q v h => by rw [Nat.zero_add]; exact h)) rfl ?_
  refine SQ.callQg rfl rfl pf8 (args2 rfl rfl) (fun w' hM => call8 hn) rfl ?_
  refine SQ.y (OV.pickT rfl rfl) rfl ?_
  refine SQ.y (OV.move rfl) rfl ?_
  refine SQ.yg rfl rfl (OV.move rfl) rfl ?_
  refine SQ.yg rfl rfl (OV.nilCheck rfl) rfl ?_
  refine SQ.yg rfl rfl (OV.fld fo62_10 rfl) rfl ?_
  refine SQ.yg rfl rfl (OV.loadAgg (vs := tcs n s) 1 ag25 us25 hi25 rfl rfl (by rw [hs25]; rfl) (fun q v h => by match q, h with | 0, h => exact h | 1, h => exact h | 2, h => exact h)) rfl ?_
  refine SQ.yg rfl rfl (OV.loadAgg (vs := tcs n s) 0 ag25 us25 hi25 rfl rfl (by rw [hs25]; rfl) (fun q v h => by rw [Nat.zero_add]; exact h)) rfl ?_
  refine SQ.yg rfl rfl (OV.eqlAgg (r := true) eg25 rfl rfl (opEq25 n s)) rfl ?_
  refine SQ.y (OV.pickT rfl rfl) rfl ?_
  refine SQ.y (OV.assign rfl) rfl ?_
  refine SQ.nil ?_
  refine SC.then ?_
  refine SC.ret ?_
  exact SE.ret1 Yba.results3 rfl (fun w' hM => ⟨rfl, hM.below⟩)
end
/-- The law. -/
theorem walk {w : World} {g d x : Bool} {gf dl : Int} (hg1 : -9223372036854775808 ≤ gf) (hg2 : gf ≤ 9223372036854775807) (hd1 : -9223372036854775808 ≤ dl) (hd2 : dl ≤ 9223372036854775807) :
    Calls Yba.prog 3 #[.bool g, .bool d, .bool x, .int .i64 gf, .int .i64 dl] w fun e w' => e = .returned (.bool true) ∧ Below w.heap.size w w' := by
  obtain ⟨i25, hi25, hz25, hs25, hb25⟩ := info_parts info25
  refine Calls.of_SC (args := [.bool g, .bool d, .bool x, .int .i64 gf, .int .i64 dl]) Yba.func3 rfl (by simp [Yba.f3]) (Mm.start w) ?_
  have hnd := nsOf_lt dl
  have hng := nsOf_lt gf
  refine SC.seq ?_
  refine SC.region ?_
  refine SL.y (OV.assign rfl) rfl ?_
  refine SL.nil ?_
  refine SC.then ?_
  refine SC.seq ?_
  refine SC.region ?_
  refine SL.y (OV.build (vs := #[]) (fun ρ hρ => by simp) bld25) rfl ?_
  refine SL.y (OV.move rfl) rfl ?_
  refine SL.callQ pf4 (args2 rfl rfl) (fun w' hM => call4 hd1 hd2) rfl ?_
  refine SL.e (OE.alloc hi25 hz25) rfl ?_
  intro b11
  refine SL.s (OS.storeAll 0 hi25 rfl rfl rfl (by rw [hs25]; rfl) tcs_one (by rw [hs25]; rfl)) ?_
  refine SL.nil ?_
  refine SC.then ?_
  refine SC.seq ?_
  refine SC.region ?_
  refine SL.y (OV.build (vs := #[]) (fun ρ hρ => by simp) bld25) rfl ?_
  refine SL.y (OV.move rfl) rfl ?_
  refine SL.callQ pf4 (args2 rfl rfl) (fun w' hM => call4 hg1 hg2) rfl ?_
  refine SL.e (OE.alloc hi25 hz25) rfl ?_
  intro b12
  refine SL.s (OS.storeAll 1 hi25 rfl rfl rfl (by rw [hs25]; rfl) tcs_one (by rw [hs25]; rfl)) ?_
  refine SL.nil ?_
  refine SC.then ?_
  refine SC.seq ?_
  refine SC.region ?_
  refine SL.y (OV.move rfl) rfl ?_
  refine SL.y (OV.assign rfl) rfl ?_
  refine SL.nil ?_
  refine SC.then ?_
  refine SC.cutG (fun z : Bool × Nat × Int => [(0, .bool g), (1, .bool d), (13, .bool z.1), (11, pt b11), (12, pt b12)]) (fun z => [(b11, row 25 (tcs (nsOf dl) (secOf dl))), (b12, row 25 (tcs z.2.1 z.2.2))]) (fun z => z.2.1 < 1000000000 ∧ Mapped g d z.1 (aft z.2.1 z.2.2 (nsOf dl) (secOf dl))) ?_ ?_
  · skip
    refine SC.seq ?_
    refine SC.region ?_
    refine SL.y (OV.move rfl) rfl ?_
    refine SL.nil ?_
    refine SC.then ?_
    cases g with
    | true =>
      refine SC.cond rfl (fun _ => ?_) (fun e => by cases e)
      refine SC.seq ?_
      refine SC.region ?_
      refine SL.y (OV.assign rfl) rfl ?_
      refine SL.nil ?_
      refine SC.then ?_
      cases d with
      | true =>
        refine SC.seq ?_
        refine SC.region ?_
        refine SL.y (OV.move rfl) rfl ?_
        refine SL.y (OV.move rfl) rfl ?_
        refine SL.yg rfl rfl (OV.loadAgg (vs := tcs (nsOf gf) (secOf gf)) 1 ag25 us25 hi25 rfl rfl (by rw [hs25]; rfl) (fun q v h => by rw [Nat.zero_add]; exact h)) rfl ?_
        refine SL.yg rfl rfl (OV.loadAgg (vs := tcs (nsOf dl) (secOf dl)) 0 ag25 us25 hi25 rfl rfl (by rw [hs25]; rfl) (fun q v h => by rw [Nat.zero_add]; exact h)) rfl ?_
        refine SL.callQg rfl rfl pf5 (args2 rfl rfl) (fun w' hM => call5 hng hnd) rfl ?_
        refine SL.y (OV.pickT rfl rfl) rfl ?_
        refine SL.nil ?_
        refine SC.then ?_
        refine SC.cond rfl (fun ha => ?_) (fun ha => ?_)
        · skip
          refine SC.region ?_
          refine SL.y (OV.loadAgg (vs := tcs (nsOf dl) (secOf dl)) 0 ag25 us25 hi25 rfl rfl (by rw [hs25]; rfl) (fun q v h => by rw [Nat.zero_add]; exact h)) rfl ?_
          refine SL.s (OS.storeAll 1 hi25 rfl rfl rfl (by rw [hs25]; rfl) tcs_one (by rw [hs25]; rfl)) ?_
          refine SL.nil ?_
          exact SE.toG (false, nsOf dl, secOf dl) ⟨hnd, .inl ⟨rfl, rfl, fun _ => aft_self _ _⟩⟩ (by repeat' (first | exact trivial | refine ⟨rfl, ?_⟩)) (List.Sublist.refl _)
        · refine SC.skip ?_
          exact SE.toG (false, nsOf gf, secOf gf) ⟨hng, .inl ⟨rfl, rfl, fun _ => ha⟩⟩ (by repeat' (first | exact trivial | refine ⟨rfl, ?_⟩)) (List.Sublist.refl _)
      | false =>
        refine SC.seq ?_
        refine SC.region ?_
        refine SL.y (OV.move rfl) rfl ?_
        refine SL.y (OV.move rfl) rfl ?_
        refine SL.skip rfl rfl rfl ?_
        refine SL.skip rfl rfl rfl ?_
        refine SL.skip rfl rfl rfl ?_
        refine SL.y (OV.pickF rfl rfl) rfl ?_
        refine SL.nil ?_
        refine SC.then ?_
        refine SC.cond rfl (fun e => by cases e) (fun _ => ?_)
        refine SC.skip ?_
        exact SE.toG (false, nsOf gf, secOf gf) ⟨hng, .inl ⟨rfl, rfl, fun e => by cases e⟩⟩ (by repeat' (first | exact trivial | refine ⟨rfl, ?_⟩)) (List.Sublist.refl _)
    | false =>
      refine SC.cond rfl (fun e => by cases e) (fun _ => ?_)
      cases d with
      | true =>
        refine SC.seq ?_
        refine SC.region ?_
        refine SL.y (OV.move rfl) rfl ?_
        refine SL.y (OV.not rfl) rfl ?_
        refine SL.y (OV.move rfl) rfl ?_
        refine SL.yg rfl rfl (OV.loadAgg (vs := tcs (nsOf gf) (secOf gf)) 1 ag25 us25 hi25 rfl rfl (by rw [hs25]; rfl) (fun q v h => by rw [Nat.zero_add]; exact h)) rfl ?_
        refine SL.yg rfl rfl (OV.loadAgg (vs := tcs (nsOf dl) (secOf dl)) 0 ag25 us25 hi25 rfl rfl (by rw [hs25]; rfl) (fun q v h => by rw [Nat.zero_add]; exact h)) rfl ?_
        refine SL.callQg rfl rfl pf5 (args2 rfl rfl) (fun w' hM => call5 hng hnd) rfl ?_
        refine SL.yg rfl rfl (OV.not rfl) rfl ?_
        refine SL.y (OV.pickF rfl rfl) rfl ?_
        refine SL.nil ?_
        refine SC.then ?_
        refine SC.cond rfl (fun ha => ?_) (fun ha => ?_)
        · skip
          refine SC.region ?_
          refine SL.y (OV.assign rfl) rfl ?_
          refine SL.nil ?_
          exact SE.toG (true, nsOf gf, secOf gf) ⟨hng, .inr ⟨rfl, .inl rfl⟩⟩ (by repeat' (first | exact trivial | refine ⟨rfl, ?_⟩)) (List.Sublist.refl _)
        · refine SC.skip ?_
          exact SE.toG (x, nsOf gf, secOf gf) ⟨hng, .inr ⟨rfl, .inr ⟨rfl, by simpa using ha⟩⟩⟩ (by repeat' (first | exact trivial | refine ⟨rfl, ?_⟩)) (List.Sublist.refl _)
      | false =>
        refine SC.seq ?_
        refine SC.region ?_
        refine SL.y (OV.move rfl) rfl ?_
        refine SL.y (OV.not rfl) rfl ?_
        refine SL.y (OV.move rfl) rfl ?_
        refine SL.skip rfl rfl rfl ?_
        refine SL.skip rfl rfl rfl ?_
        refine SL.skip rfl rfl rfl ?_
        refine SL.skip rfl rfl rfl ?_
        refine SL.y (OV.pickT rfl rfl) rfl ?_
        refine SL.nil ?_
        refine SC.then ?_
        refine SC.cond rfl (fun _ => ?_) (fun e => by cases e)
        refine SC.region ?_
        refine SL.y (OV.assign rfl) rfl ?_
        refine SL.nil ?_
        exact SE.toG (true, nsOf gf, secOf gf) ⟨hng, .inr ⟨rfl, .inl rfl⟩⟩ (by repeat' (first | exact trivial | refine ⟨rfl, ?_⟩)) (List.Sublist.refl _)
  rintro ⟨c, n, s⟩ ⟨hn, H⟩
  exact tail hnd hn H
end Go.Proofs.Ybulkdrgq
