import Derived.Test.YbulkdrgqOps5
import Derived.Conc.EventLaws
namespace Go.Proofs.Ybulkdrgq.Sym
open Go Go.RowKit
set_option linter.unusedVariables false
set_option linter.unusedSimpArgs false

/-! ### A select of receives on channels that are closed or open, nothing in them, in one goroutine -/
def rest0 : Rest := { timers := #[], alone := none, slice := none }
def ph0 : Goroutine := { (default : Goroutine) with status := .finished }
theorem step_comm {P : Program} {b : Frame} {a : Act} {k : List Item} {cs : List Frame} {w w₁ : World} {ops : Array Oper} {i : Nat} {rest : List Nat} {o : Oper} {cases : Array CommCase} {blocking : Bool} {shape : CommShape}
    (ho : ops[i]? = some o) (hw : Region.wanted o (yielded ops a.tmps) = true) (hr : (execOp a.eval o).run P w = .ok (.comm cases blocking shape) w₁) :
    step P (lone (b.at a (.inRegion ops (i :: rest) :: k)) cs w) = (communicate P rest0 #[ph0] 0 { frame := b.at a (.inRegion ops (i :: rest) :: k), callers := cs, status := .running, dying := none } cases blocking shape w₁).1 := by
  have hg := stepG_op (P := P) (b := b) (k := k) (cs := cs) (w := w) (rest := rest) ho hw
  have hex : ∃ es, stepG P true { frame := b.at a (.inRegion ops (i :: rest) :: k), callers := cs, status := .running, dying := none } w = .comm { frame := b.at a (.inRegion ops (i :: rest) :: k), callers := cs, status := .running, dying := none } cases blocking shape w₁ es := by
    rw [hg]
    simp only [stepG.apply, Sem.runT_eq, if_true, hr, GStep.after]
    exact ⟨_, rfl⟩
  obtain ⟨es, hs⟩ := hex
  rw [step, stepT, move_lone]
  simp [runT, lone, Array.swapAt!, Array.swapAt, hs, rest0, ph0]

def rc (c : Nat) : CommCase := { chan := .chan (some c), send := none, zero := .agg #[] }
def chn (cl : Bool) : Obj := .chan 0 #[] cl 0 0 false
theorem ways_rc {w : World} {c : Nat} {cl : Bool} (h : w.heap[c]? = some (chn cl)) : ways w #[ph0] (rc c) = if cl then [.closed] else [] := by
  have hp : partners #[ph0] c true = [] := by simp [partners, ph0]
  simp [ways, rc, h, chn, hp]
/-- What the select of these cases hands over. -/
def selV (n k : Nat) : Value := .tuple (#[goInt k, .bool false] ++ Array.replicate n (.agg #[]))
def Same (w w' : World) : Prop := w'.heap = w.heap ∧ w'.os = w.os ∧ w'.tape = w.tape ∧ w'.output = w.output

theorem comm2 {P : Program} {fr : Frame} {cs : List Frame} {w : World} {c0 c1 : Nat} {f0 f1 : Bool} (h0 : w.heap[c0]? = some (chn f0)) (h1 : w.heap[c1]? = some (chn f1)) (hf : f0 = true ∨ f1 = true) :
    ∃ (k : Nat) (w' : World), (k = 0 ∧ f0 = true ∨ k = 1 ∧ f1 = true) ∧ Same w w' ∧
      (communicate P rest0 #[ph0] 0 { frame := fr, callers := cs, status := .running, dying := none } #[rc c0, rc c1] true .select w).1 = .next (lone (fr.finish (selV 2 k)) cs w') := by
  have e0 := ways_rc h0
  have e1 := ways_rc h1
  unfold chn at h0 h1
  have g0 : (rc c0).chan = .chan (some c0) := rfl
  have g1 : (rc c1).chan = .chan (some c1) := rfl
  have s0 : (rc c0).send = none := rfl
  have s1 : (rc c1).send = none := rfl
  have z0 : (rc c0).zero = .agg #[] := rfl
  have z1 : (rc c1).zero = .agg #[] := rfl
  cases f0 with
  | false =>
    cases f1 with
    | false =>
      simp at hf
    | true =>
      have ht := True.intro
      refine ⟨1, w, by simp, ⟨rfl, rfl, rfl, rfl⟩, ?_⟩
      simp [communicate, e0, g0, s0, z0, h0, e1, g1, s1, z1, h1, List.zipIdx_cons, choose, Sem.run, Question.forced, Question.cut, bind, Sem.bind, pure, Goroutine.finishComm, commResult, selV, lone, rest0, ht]
      rfl
  | true =>
    cases f1 with
    | false =>
      have ht := True.intro
      refine ⟨0, w, by simp, ⟨rfl, rfl, rfl, rfl⟩, ?_⟩
      simp [communicate, e0, g0, s0, z0, h0, e1, g1, s1, z1, h1, List.zipIdx_cons, choose, Sem.run, Question.forced, Question.cut, bind, Sem.bind, pure, Goroutine.finishComm, commResult, selV, lone, rest0, ht]
      rfl
    | true =>
      have ht : w.tape w.drawn (Question.select 2) % 2 = 0 ∨ w.tape w.drawn (Question.select 2) % 2 = 1 := by omega
      rcases ht with ht | ht
      · refine ⟨0, { w with drawn := w.drawn + 1 }, by simp, ⟨rfl, rfl, rfl, rfl⟩, ?_⟩
        simp [communicate, e0, g0, s0, z0, h0, e1, g1, s1, z1, h1, List.zipIdx_cons, choose, Sem.run, Question.forced, Question.cut, bind, Sem.bind, pure, Goroutine.finishComm, commResult, selV, lone, rest0, ht]
        rfl
      · refine ⟨1, { w with drawn := w.drawn + 1 }, by simp, ⟨rfl, rfl, rfl, rfl⟩, ?_⟩
        simp [communicate, e0, g0, s0, z0, h0, e1, g1, s1, z1, h1, List.zipIdx_cons, choose, Sem.run, Question.forced, Question.cut, bind, Sem.bind, pure, Goroutine.finishComm, commResult, selV, lone, rest0, ht]
        rfl
theorem comm3 {P : Program} {fr : Frame} {cs : List Frame} {w : World} {c0 c1 c2 : Nat} {f0 f1 f2 : Bool} (h0 : w.heap[c0]? = some (chn f0)) (h1 : w.heap[c1]? = some (chn f1)) (h2 : w.heap[c2]? = some (chn f2)) (hf : f0 = true ∨ f1 = true ∨ f2 = true) :
    ∃ (k : Nat) (w' : World), (k = 0 ∧ f0 = true ∨ k = 1 ∧ f1 = true ∨ k = 2 ∧ f2 = true) ∧ Same w w' ∧
      (communicate P rest0 #[ph0] 0 { frame := fr, callers := cs, status := .running, dying := none } #[rc c0, rc c1, rc c2] true .select w).1 = .next (lone (fr.finish (selV 3 k)) cs w') := by
  have e0 := ways_rc h0
  have e1 := ways_rc h1
  have e2 := ways_rc h2
  unfold chn at h0 h1 h2
  have g0 : (rc c0).chan = .chan (some c0) := rfl
  have g1 : (rc c1).chan = .chan (some c1) := rfl
  have g2 : (rc c2).chan = .chan (some c2) := rfl
  have s0 : (rc c0).send = none := rfl
  have s1 : (rc c1).send = none := rfl
  have s2 : (rc c2).send = none := rfl
  have z0 : (rc c0).zero = .agg #[] := rfl
  have z1 : (rc c1).zero = .agg #[] := rfl
  have z2 : (rc c2).zero = .agg #[] := rfl
  cases f0 with
  | false =>
    cases f1 with
    | false =>
      cases f2 with
      | false =>
        simp at hf
      | true =>
        have ht := True.intro
        refine ⟨2, w, by simp, ⟨rfl, rfl, rfl, rfl⟩, ?_⟩
        simp [communicate, e0, g0, s0, z0, h0, e1, g1, s1, z1, h1, e2, g2, s2, z2, h2, List.zipIdx_cons, choose, Sem.run, Question.forced, Question.cut, bind, Sem.bind, pure, Goroutine.finishComm, commResult, selV, lone, rest0, ht]
        rfl
    | true =>
      cases f2 with
      | false =>
        have ht := True.intro
        refine ⟨1, w, by simp, ⟨rfl, rfl, rfl, rfl⟩, ?_⟩
        simp [communicate, e0, g0, s0, z0, h0, e1, g1, s1, z1, h1, e2, g2, s2, z2, h2, List.zipIdx_cons, choose, Sem.run, Question.forced, Question.cut, bind, Sem.bind, pure, Goroutine.finishComm, commResult, selV, lone, rest0, ht]
        rfl
      | true =>
        have ht : w.tape w.drawn (Question.select 2) % 2 = 0 ∨ w.tape w.drawn (Question.select 2) % 2 = 1 := by omega
        rcases ht with ht | ht
        · refine ⟨1, { w with drawn := w.drawn + 1 }, by simp, ⟨rfl, rfl, rfl, rfl⟩, ?_⟩
          simp [communicate, e0, g0, s0, z0, h0, e1, g1, s1, z1, h1, e2, g2, s2, z2, h2, List.zipIdx_cons, choose, Sem.run, Question.forced, Question.cut, bind, Sem.bind, pure, Goroutine.finishComm, commResult, selV, lone, rest0, ht]
          rfl
        · refine ⟨2, { w with drawn := w.drawn + 1 }, by simp, ⟨rfl, rfl, rfl, rfl⟩, ?_⟩
          simp [communicate, e0, g0, s0, z0, h0, e1, g1, s1, z1, h1, e2, g2, s2, z2, h2, List.zipIdx_cons, choose, Sem.run, Question.forced, Question.cut, bind, Sem.bind, pure, Goroutine.finishComm, commResult, selV, lone, rest0, ht]
          rfl
  | true =>
    cases f1 with
    | false =>
      cases f2 with
      | false =>
        have ht := True.intro
        refine ⟨0, w, by simp, ⟨rfl, rfl, rfl, rfl⟩, ?_⟩
        simp [communicate, e0, g0, s0, z0, h0, e1, g1, s1, z1, h1, e2, g2, s2, z2, h2, List.zipIdx_cons, choose, Sem.run, Question.forced, Question.cut, bind, Sem.bind, pure, Goroutine.finishComm, commResult, selV, lone, rest0, ht]
        rfl
      | true =>
        have ht : w.tape w.drawn (Question.select 2) % 2 = 0 ∨ w.tape w.drawn (Question.select 2) % 2 = 1 := by omega
        rcases ht with ht | ht
        · refine ⟨0, { w with drawn := w.drawn + 1 }, by simp, ⟨rfl, rfl, rfl, rfl⟩, ?_⟩
          simp [communicate, e0, g0, s0, z0, h0, e1, g1, s1, z1, h1, e2, g2, s2, z2, h2, List.zipIdx_cons, choose, Sem.run, Question.forced, Question.cut, bind, Sem.bind, pure, Goroutine.finishComm, commResult, selV, lone, rest0, ht]
          rfl
        · refine ⟨2, { w with drawn := w.drawn + 1 }, by simp, ⟨rfl, rfl, rfl, rfl⟩, ?_⟩
          simp [communicate, e0, g0, s0, z0, h0, e1, g1, s1, z1, h1, e2, g2, s2, z2, h2, List.zipIdx_cons, choose, Sem.run, Question.forced, Question.cut, bind, Sem.bind, pure, Goroutine.finishComm, commResult, selV, lone, rest0, ht]
          rfl
    | true =>
      cases f2 with
      | false =>
        have ht : w.tape w.drawn (Question.select 2) % 2 = 0 ∨ w.tape w.drawn (Question.select 2) % 2 = 1 := by omega
        rcases ht with ht | ht
        · refine ⟨0, { w with drawn := w.drawn + 1 }, by simp, ⟨rfl, rfl, rfl, rfl⟩, ?_⟩
          simp [communicate, e0, g0, s0, z0, h0, e1, g1, s1, z1, h1, e2, g2, s2, z2, h2, List.zipIdx_cons, choose, Sem.run, Question.forced, Question.cut, bind, Sem.bind, pure, Goroutine.finishComm, commResult, selV, lone, rest0, ht]
          rfl
        · refine ⟨1, { w with drawn := w.drawn + 1 }, by simp, ⟨rfl, rfl, rfl, rfl⟩, ?_⟩
          simp [communicate, e0, g0, s0, z0, h0, e1, g1, s1, z1, h1, e2, g2, s2, z2, h2, List.zipIdx_cons, choose, Sem.run, Question.forced, Question.cut, bind, Sem.bind, pure, Goroutine.finishComm, commResult, selV, lone, rest0, ht]
          rfl
      | true =>
        have ht : w.tape w.drawn (Question.select 3) % 3 = 0 ∨ w.tape w.drawn (Question.select 3) % 3 = 1 ∨ w.tape w.drawn (Question.select 3) % 3 = 2 := by omega
        rcases ht with ht | ht | ht
        · refine ⟨0, { w with drawn := w.drawn + 1 }, by simp, ⟨rfl, rfl, rfl, rfl⟩, ?_⟩
          simp [communicate, e0, g0, s0, z0, h0, e1, g1, s1, z1, h1, e2, g2, s2, z2, h2, List.zipIdx_cons, choose, Sem.run, Question.forced, Question.cut, bind, Sem.bind, pure, Goroutine.finishComm, commResult, selV, lone, rest0, ht]
          rfl
        · refine ⟨1, { w with drawn := w.drawn + 1 }, by simp, ⟨rfl, rfl, rfl, rfl⟩, ?_⟩
          simp [communicate, e0, g0, s0, z0, h0, e1, g1, s1, z1, h1, e2, g2, s2, z2, h2, List.zipIdx_cons, choose, Sem.run, Question.forced, Question.cut, bind, Sem.bind, pure, Goroutine.finishComm, commResult, selV, lone, rest0, ht]
          rfl
        · refine ⟨2, { w with drawn := w.drawn + 1 }, by simp, ⟨rfl, rfl, rfl, rfl⟩, ?_⟩
          simp [communicate, e0, g0, s0, z0, h0, e1, g1, s1, z1, h1, e2, g2, s2, z2, h2, List.zipIdx_cons, choose, Sem.run, Question.forced, Question.cut, bind, Sem.bind, pure, Goroutine.finishComm, commResult, selV, lone, rest0, ht]
          rfl
theorem wp_region_first {P : Program} {Q : Exit → Act → World → Prop} {a : Act} {w : World} {id : Nat} {o : Oper} {l : List Oper}
    (h : ∀ (b : Frame) (k : List Item) (cs : List Frame) (rest : List Nat), ∃ v w', step P (lone (b.at a (.inRegion (o :: l).toArray (0 :: rest) :: k)) cs w) = .next (lone (b.at (a.put o.dst v) (.inRegion (o :: l).toArray rest :: k)) cs w') ∧ wpList P (o :: l).toArray Q l (a.put o.dst v) w') :
    (Code.region id (o :: l).toArray false).wp P Q a w := by
  intro b k cs
  obtain ⟨v, w', hs, hl⟩ := h b k cs (List.range' 1 l.length)
  have hops : wpOps P (o :: l).toArray Q (List.range' 1 l.length) (a.put o.dst v) w' := by
    rw [wpOps_eq_wpList l 1 (by intro j; simp [Nat.add_comm 1 j])]; exact hl
  obtain ⟨e, a', w'', hq, harr⟩ := wp_ops _ _ _ hops b k cs
  have hrange : List.range (o :: l).toArray.size = 0 :: List.range' 1 l.length := by simp [List.range_eq_range', List.range'_succ]
  refine ⟨e, a', w'', hq, .of_steps (.head step_region (.one ?_)) harr⟩
  rw [hrange]
  exact hs

section
variable {P : Program} {Q : Exit → Act → World → Prop} {N : Nat} {w0 : World} {F : List Nat} {env : Env} {m : List Blk} {ops : Array Oper} {rest : List Oper} {l : List Oper} {d : Nat} {ty : TypeId} {pos : String} {af : Array Edge} {x x0 x1 x2 : Operand} {E T : TypeId} {id : Nat}
theorem SC.select3 {i : TypeInfo} {c0 c1 c2 : Nat} {f0 f1 f2 : Bool} (hi : P.info? E = some i) (hz : i.zero = some (.agg #[])) (hx0 : ev env x0 = some (.chan (some c0))) (hx1 : ev env x1 = some (.chan (some c1))) (hx2 : ev env x2 = some (.chan (some c2)))
    (hm0 : ∀ w, Mm w0 F m w → w.heap[c0]? = some (chn f0)) (hm1 : ∀ w, Mm w0 F m w → w.heap[c1]? = some (chn f1)) (hm2 : ∀ w, Mm w0 F m w → w.heap[c2]? = some (chn f2)) (hf : f0 = true ∨ f1 = true ∨ f2 = true) (hd : Nat.blt d N = true)
    (h : ∀ k : Nat, (k = 0 ∧ f0 = true ∨ k = 1 ∧ f1 = true ∨ k = 2 ∧ f2 = true) → SL P (⟨some d, .select #[⟨x0, none, E⟩, ⟨x1, none, E⟩, ⟨x2, none, E⟩] true, ty, pos, af, none⟩ :: l).toArray Q l N ((d, selV 3 k) :: env) w0 F m) :
    SC P (.region id (⟨some d, .select #[⟨x0, none, E⟩, ⟨x1, none, E⟩, ⟨x2, none, E⟩] true, ty, pos, af, none⟩ :: l).toArray false) Q N env w0 F m :=
  ⟨fun a w hF hM => wp_region_first fun b k cs rest => by
    have hr : (execOp a.eval ⟨some d, .select #[⟨x0, none, E⟩, ⟨x1, none, E⟩, ⟨x2, none, E⟩] true, ty, pos, af, none⟩).run P w = .ok (.comm #[rc c0, rc c1, rc c2] true .select) w := by
      simp [execOp, hF.eval hx0, hF.eval hx1, hF.eval hx2, rc, zeroValue, typeInfo, hi, hz]
    obtain ⟨k', w', hk, ⟨s1, s2, s3, s4⟩, hcomm⟩ := comm3 (P := P) (fr := b.at a (.inRegion (⟨some d, .select #[⟨x0, none, E⟩, ⟨x1, none, E⟩, ⟨x2, none, E⟩] true, ty, pos, af, none⟩ :: l).toArray (0 :: rest) :: k)) (cs := cs) (hm0 w hM) (hm1 w hM) (hm2 w hM) hf
    refine ⟨selV 3 k', w', ?_, (h k' hk).out _ w' (hF.put hd _) (hM.of_heap s1 s2 s3 s4)⟩
    rw [step_comm (o := ⟨some d, .select #[⟨x0, none, E⟩, ⟨x1, none, E⟩, ⟨x2, none, E⟩] true, ty, pos, af, none⟩) (by simp) (by simp [Region.wanted]) hr, hcomm, Frame.finish_at]
    simp⟩
theorem SC.select2 {i : TypeInfo} {c0 c1 : Nat} {f0 f1 : Bool} (hi : P.info? E = some i) (hz : i.zero = some (.agg #[])) (hx0 : ev env x0 = some (.chan (some c0))) (hx1 : ev env x1 = some (.chan (some c1)))
    (hm0 : ∀ w, Mm w0 F m w → w.heap[c0]? = some (chn f0)) (hm1 : ∀ w, Mm w0 F m w → w.heap[c1]? = some (chn f1)) (hf : f0 = true ∨ f1 = true) (hd : Nat.blt d N = true)
    (h : ∀ k : Nat, (k = 0 ∧ f0 = true ∨ k = 1 ∧ f1 = true) → SL P (⟨some d, .select #[⟨x0, none, E⟩, ⟨x1, none, E⟩] true, ty, pos, af, none⟩ :: l).toArray Q l N ((d, selV 2 k) :: env) w0 F m) :
    SC P (.region id (⟨some d, .select #[⟨x0, none, E⟩, ⟨x1, none, E⟩] true, ty, pos, af, none⟩ :: l).toArray false) Q N env w0 F m :=
  ⟨fun a w hF hM => wp_region_first fun b k cs rest => by
    have hr : (execOp a.eval ⟨some d, .select #[⟨x0, none, E⟩, ⟨x1, none, E⟩] true, ty, pos, af, none⟩).run P w = .ok (.comm #[rc c0, rc c1] true .select) w := by
      simp [execOp, hF.eval hx0, hF.eval hx1, rc, zeroValue, typeInfo, hi, hz]
    obtain ⟨k', w', hk, ⟨s1, s2, s3, s4⟩, hcomm⟩ := comm2 (P := P) (fr := b.at a (.inRegion (⟨some d, .select #[⟨x0, none, E⟩, ⟨x1, none, E⟩] true, ty, pos, af, none⟩ :: l).toArray (0 :: rest) :: k)) (cs := cs) (hm0 w hM) (hm1 w hM) hf
    refine ⟨selV 2 k', w', ?_, (h k' hk).out _ w' (hF.put hd _) (hM.of_heap s1 s2 s3 s4)⟩
    rw [step_comm (o := ⟨some d, .select #[⟨x0, none, E⟩, ⟨x1, none, E⟩] true, ty, pos, af, none⟩) (by simp) (by simp [Region.wanted]) hr, hcomm, Frame.finish_at]
    simp⟩
theorem OV.selK {n k : Nat} {g : Option (Nat × Bool)} {dd : Option Nat} (hx : ev env x = some (selV n k)) : OV P env w0 F m ⟨dd, .extract x 0, ty, pos, af, g⟩ (.int .i64 k) :=
  OV.extract hx (by rw [Array.getElem?_append_left (by simp)]; rfl)

/-! ### make(chan struct{}), close -/
theorem OE.makeChan {g : Option (Nat × Bool)} {dir : ChanDir} {i : TypeInfo} {dd : Option Nat} (hT : P.underlying T = some (.chan dir E)) (hi : P.info? E = some i) :
    OE P env w0 F m ⟨dd, .makeChan T (.const (.int .i64 0)), ty, pos, af, g⟩ (fun nb : Nat => .chan (some nb)) (fun nb => m ++ [(nb, chn false)]) :=
  ⟨fun A w hE hM => ⟨w.heap.size, _, by simp [execOp, Instr.makeChan, Act.eval, asInt, run_underlying hT, typeInfo, hi, newObj, IntKind.max]; rfl, hM.alloc _⟩⟩
theorem SL.close {c j : Nat} {ts : Array TypeId} (hx : ev env x = some (.chan (some c))) (hm : m[j]? = some (c, chn false)) (h : SL P ops Q rest N env w0 F (m.set j (c, chn true))) :
    SL P ops Q (⟨none, .call ⟨.builtin .close, #[x], ts⟩, ty, pos, af, none⟩ :: rest) N env w0 F m :=
  ⟨fun a w hF hM => wpList_plain rfl fun K hK => by
    have hb := hM.block hm
    have hlt := (Array.getElem?_eq_some_iff.1 hb).1
    unfold chn at hb
    have hr : (execOp a.eval ⟨none, .call ⟨.builtin .close, #[x], ts⟩, ty, pos, af, none⟩).run P w = .ok (.value (.tuple #[])) { w with heap := w.heap.setIfInBounds c (chn true) } := by
      have hcl := run_close_open (P := P) ts ty hb
      simp only [execOp, resolve, invoke, builtin, Sem.run_bind, Sem.run_pure, Result.andThen_ok, List.map_toArray, List.map_cons, List.map_nil, hF.eval hx, hcl]
      rfl
    unfold Oper.wp
    rw [hr]
    refine hK _ _ (h.out _ _ (hF.put_none _) (hM.write hm rfl rfl rfl (by simp) (by simp [hlt]) (fun k hk => ?_)))
    simp [Array.getElem?_setIfInBounds_ne (Ne.symm hk)]⟩

/-! ### A method through an interface value -/
theorem SL.callI {v u : Value} {f : Nat} {name : String} (hinv : ∀ w, (invoke (.fn (.method name) #[]) #[.iface T u]).run P w = .ok (.enter f #[u]) w) (hx : ev env x = some (.iface T u))
    (hc : ∀ w, Mm w0 F m w → Calls P f #[u] w fun e w' => e = .returned v ∧ Mm w [] [] w') (hd : Nat.blt d N = true)
    (h : SL P ops Q rest N ((d, v) :: env) w0 F m) : SL P ops Q (⟨some d, .call ⟨.invoke x name, #[], #[]⟩, ty, pos, af, none⟩ :: rest) N env w0 F m :=
  ⟨fun a w hF hM => wpList_plain rfl fun K hK => by
    have hr : (execOp a.eval ⟨some d, .call ⟨.invoke x name, #[], #[]⟩, ty, pos, af, none⟩).run P w = .ok (.enter f #[u]) w := by
      have := hinv w
      simp only [execOp, resolve, Sem.run_bind, Sem.run_pure, Result.andThen_ok, hF.eval hx]
      simpa using this
    unfold Oper.wp
    rw [hr]
    refine (hc w hM).mono fun e w' ⟨he, hM'⟩ => ?_
    subst he
    exact hK _ _ (h.out _ w' (hF.put hd _) (by have := hM.callee0 hM'; rwa [List.append_nil] at this))⟩
theorem OV.mkP {g : Option (Nat × Bool)} {dd : Option Nat} {e : TypeId} {v : Value} (hT : P.underlying T = some (.pointer e)) (hx : ev env x = some v) : OV P env w0 F m ⟨dd, .makeInterface T x, ty, pos, af, g⟩ (.iface T v) :=
  ⟨fun A w hE hM => by simp [execOp, hE x _ hx, Instr.makeInterface, run_underlying hT]⟩
theorem eqIn_chan {dd : Nat} (w : World) {e : TypeId} {dir : ChanDir} (h : P.underlying T = some (.chan dir e)) (a b : Option Nat) : (Op.equalIn (dd + 1) T (.chan a) (.chan b)).run P w = .ok (a == b) w := by
  simp [Op.equalIn, run_underlying h]
theorem OV.eqlCh {g : Option (Nat × Bool)} {dd : Option Nat} {e T' : TypeId} {dir : ChanDir} {a b : Option Nat} {y : Operand} (hT : P.underlying T = some (.chan dir e)) (hx : ev env x = some (.chan a)) (hy : ev env y = some (.chan b)) : OV P env w0 F m ⟨dd, .binOp .eql T x y T', ty, pos, af, g⟩ (.bool (a == b)) :=
  ⟨fun A w hE hM => by
    have hr : (Op.equal T (.chan a) (.chan b)).run P w = .ok (a == b) w := eqIn_chan (dd := 9999) w hT a b
    simp [execOp, hE x _ hx, hE y _ hy, eqGuard, binOp, hr]⟩
theorem OV.or {g : Option (Nat × Bool)} {dd : Option Nat} {T' : TypeId} {k : IntKind} {a b r : Int} {y : Operand} (hx : ev env x = some (.int k a)) (hy : ev env y = some (.int k b)) (hr : k.wrap ((BitVec.ofInt k.bits a ||| BitVec.ofInt k.bits b).toNat : Int) = r) : OV P env w0 F m ⟨dd, .binOp .or T x y T', ty, pos, af, g⟩ (.int k r) :=
  ⟨fun A w hE hM => by simp only [execOp, hE x _ hx, hE y _ hy, eqGuard, binOp, Op.intBits]; simp at hr; simp [hr]⟩
theorem OV.andNot {g : Option (Nat × Bool)} {dd : Option Nat} {T' : TypeId} {k : IntKind} {a b r : Int} {y : Operand} (hx : ev env x = some (.int k a)) (hy : ev env y = some (.int k b)) (hr : k.wrap ((BitVec.ofInt k.bits a &&& ~~~BitVec.ofInt k.bits b).toNat : Int) = r) : OV P env w0 F m ⟨dd, .binOp .andNot T x y T', ty, pos, af, g⟩ (.int k r) :=
  ⟨fun A w hE hM => by simp only [execOp, hE x _ hx, hE y _ hy, eqGuard, binOp, Op.intBits]; simp at hr; simp [hr]⟩
theorem OV.quo {g : Option (Nat × Bool)} {dd : Option Nat} {T' : TypeId} {k : IntKind} {a b r : Int} {y : Operand} (hx : ev env x = some (.int k a)) (hy : ev env y = some (.int k b)) (h0 : b ≠ 0) (hr : k.wrap (a.tdiv b) = r) : OV P env w0 F m ⟨dd, .binOp .quo T x y T', ty, pos, af, g⟩ (.int k r) :=
  ⟨fun A w hE hM => by simp [execOp, hE x _ hx, hE y _ hy, eqGuard, binOp, Op.intDiv, h0, hr]⟩
end
end Go.Proofs.Ybulkdrgq.Sym
