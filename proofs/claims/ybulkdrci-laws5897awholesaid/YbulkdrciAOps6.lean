import Derived.Test.YbulkdrciAOps5
namespace Go.Proofs.Ybulkdrci.A.Sym
open Go Go.RowKit
set_option linter.unusedVariables false
set_option linter.unusedSimpArgs false

/-! ### An operation taken first that k1 waits for by way of others -/
def chainB (ops : Array Oper) : Nat → List Nat → Bool
  | _, [] => true
  | i, c :: r => waitsFor ops c i && chainB ops c r
theorem waits_not_ready {ops : Array Oper} {c i : Nat} {L : Array Bool} (hw : waitsFor ops c i = true) (hLi : L.getD i true = false) : c ∉ Region.ready .any ops L := by
  intro hj
  obtain ⟨_, o, ho', hall⟩ := mem_ready.1 hj
  unfold waitsFor at hw
  rw [ho'] at hw
  simp only [Array.any_eq_true'] at hw
  obtain ⟨e, he, hb⟩ := hw
  simp only [Bool.and_eq_true, beq_iff_eq] at hb
  have h1 := hall e he hb.1
  rw [hb.2] at h1
  rcases Nat.lt_or_ge i L.size with h' | h'
  · simp [h'] at hLi h1; rw [hLi] at h1; cases h1
  · simp [Array.getElem?_eq_none h'] at h1
theorem chain_not_ready {ops : Array Oper} {L : Array Bool} : ∀ (ch : List Nat) (i : Nat), chainB ops i ch = true → L.getD i true = false → (∀ c ∈ ch, L.getD c true = false) → ∀ c ∈ ch, c ∉ Region.ready .any ops L
  | [], _, _, _, _, c, hc => by cases hc
  | a :: r, i, hch, hLi, hall, c, hc => by
    simp only [chainB, Bool.and_eq_true] at hch
    rcases List.mem_cons.1 hc with rfl | hc
    · exact waits_not_ready hch.1 hLi
    · exact chain_not_ready r a hch.2 (hall a (by simp)) (fun c hc => hall c (by simp [hc])) c hc
section
variable {P : Program} {Q : Exit → Act → World → Prop} {N fuel k1 : Nat} {ops : Array Oper} {m1 m2 : List Blk} {listed : Array Bool} {w0 : World} {F : List Nat} {env : Env} {m : List Blk}
theorem SA.takeZ {i dd : Nat} {oi : Oper} {v : Value} (ch : List Nat) (hQ : PanicOk Q) (hi : ops[i]? = some oi) (hdst : oi.dst = some dd) (hs : Region.noSelect ops = true) (hf : Region.free .any ops listed i = true) (hr : (Region.ready .any ops listed).contains i = true)
    (hik : Nat.beq i k1 = false) (hch : chainB ops i ch = true) (hlast : ch.contains k1 = true) (hun : ch.all (fun c => !listed.getD c true) = true) (hmS : m1.Sublist m) (hy : ∀ a, Fr N env a → YieldsIf P ops (Mm w0 F m1) oi v a) (hd : Nat.blt dd N = true)
    (h : SA P ops Q k1 m1 m2 fuel (listed.setIfInBounds i true) N ((dd, v) :: env) w0 F m) : SA P ops Q k1 m1 m2 (fuel + 1) listed N env w0 F m := by
  have hun' : ∀ c ∈ ch, listed.getD c true = false := fun c hc => by simpa using List.all_eq_true.1 hun c hc
  have hk1 : k1 ∈ ch := by simpa using hlast
  refine ⟨fun a w hF hM => wpAnyI_first (v := v) (V := fun L => ∀ c ∈ ch, L.getD c true = false) hi (Region.noSelect_spec hs) (fun c a w hq => hQ c a _ _ w hq) (Two.ins hik) ?_ fuel listed a w (Region.free_spec hi hf) (by simpa using hr) hun' ?_ ?_ ?_⟩
  · intro L j hVL hji hLi hj c hc
    have hne : j ≠ c := fun e => by subst e; exact chain_not_ready ch i hch hLi hVL j hc hj
    rw [getD_set_ne true hne]
    exact hVL c hc
  · intro L hVL _
    rcases hy a hF with ⟨hw, hv⟩ | ⟨hw, hv⟩
    · refine .inl ⟨hw, fun w' hM' => hv w' ?_⟩
      unfold Two at hM'
      rw [hVL k1 hk1] at hM'
      exact hM'
    · exact .inr ⟨hw, hv⟩
  · unfold Two
    rw [hun' k1 hk1]
    exact hM.weaken hmS
  · have := h.out (a.put oi.dst v) w (by rw [hdst]; exact hF.put hd v) hM
    exact this
theorem yiN {d : Nat} {op : Op} {t : TypeId} {pos : String} {af : Array Edge} {v : Value} (ho : OV P env w0 F m1 ⟨some d, op, t, pos, af, none⟩ v) (a : Act) (hF : Fr N env a) : YieldsIf P ops (Mm w0 F m1) ⟨some d, op, t, pos, af, none⟩ v a :=
  .inl ⟨rfl, fun w hM => ho.out a w (fun x u hx => hF.eval hx) hM⟩
theorem yiG {d j g : Nat} {b : Bool} {op : Op} {t : TypeId} {pos : String} {af : Array Edge} {v : Value} (hg : (ops[j]?).bind (·.dst) = some g) (hb : look env g = some (.bool b)) (ho : OV P env w0 F m1 ⟨some d, op, t, pos, af, some (j, b)⟩ v) (a : Act) (hF : Fr N env a) : YieldsIf P ops (Mm w0 F m1) ⟨some d, op, t, pos, af, some (j, b)⟩ v a :=
  .inl ⟨by simp [Region.wanted, yielded_of hF hg hb], fun w hM => ho.out a w (fun x u hx => hF.eval hx) hM⟩
theorem yiS {d j g : Nat} {b : Bool} {op : Op} {t : TypeId} {pos : String} {af : Array Edge} (hg : (ops[j]?).bind (·.dst) = some g) (hb : look env g = some (.bool (!b))) (a : Act) (hF : Fr N env a) : YieldsIf P ops (Mm w0 F m1) ⟨some d, op, t, pos, af, some (j, b)⟩ undef a :=
  .inr ⟨by simp [Region.wanted, yielded_of hF hg hb], rfl⟩
theorem yiU {d j g : Nat} {b : Bool} {op : Op} {t : TypeId} {pos : String} {af : Array Edge} (hg : (ops[j]?).bind (·.dst) = some g) (hb : look env g = some undef) (a : Act) (hF : Fr N env a) : YieldsIf P ops (Mm w0 F m1) ⟨some d, op, t, pos, af, some (j, b)⟩ undef a :=
  .inr ⟨by simp [Region.wanted, unyielded_of hF hg hb], rfl⟩
end

/-! ### Function values -/
section
variable {P : Program} {Q : Exit → Act → World → Prop} {N : Nat} {ops : Array Oper} {rest : List Oper} {w0 : World} {F : List Nat} {env : Env} {m : List Blk} {d f : Nat} {ty T : TypeId} {pos : String} {af : Array Edge} {x : Operand} {args : Array Operand} {ts : Array TypeId} {vs fs cap : Array Value}
theorem run_callV (hf : plainFunc P f = true) {a : Act} {w : World} {dd : Option Nat} {g : Option (Nat × Bool)} (hx : a.eval x = .func (.func f) fs cap) (hv : fs ++ args.map a.eval ++ cap = vs) : (execOp a.eval ⟨dd, .call ⟨.value x, args, ts⟩, ty, pos, af, g⟩).run P w = .ok (.enter f vs) w := by
  unfold plainFunc at hf
  cases hfn : P.funcs[f]? with
  | none => simp [hfn] at hf
  | some fn =>
    simp [hfn] at hf
    obtain ⟨h1, h2⟩ := hf
    cases hb : fn.body with
    | none => simp [hb] at h2
    | some c =>
      subst hv
      simp [execOp, resolve, hx, Deferred.ofValue, invoke, callFunc, hfn, h1, hb]
/-- A call of a function value. -/
theorem SL.callV {σ : Type} {V : σ → Value} {M : σ → List Blk} {G : σ → Prop} (hf : plainFunc P f = true) (hx : ev env x = some (.func (.func f) fs cap)) (hargs : ∀ (ρ : Operand → Value), (∀ x u, ev env x = some u → ρ x = u) → fs ++ args.map ρ ++ cap = vs)
    (hc : ∀ w, Mm w0 F m w → Calls P f vs w fun e w' => ∃ s, e = .returned (V s) ∧ G s ∧ Mm w0 F (M s) w') (hd : Nat.blt d N = true)
    (h : ∀ s, G s → SL P ops Q rest N ((d, V s) :: env) w0 F (M s)) : SL P ops Q (⟨some d, .call ⟨.value x, args, ts⟩, ty, pos, af, none⟩ :: rest) N env w0 F m :=
  ⟨fun a w hF hM => wpList_plain rfl fun K hK => by
    unfold Oper.wp
    rw [run_callV hf (hF.eval hx) (hargs a.eval (fun x u hx => hF.eval hx))]
    refine (hc w hM).mono fun e w' ⟨s, he, hG, hM'⟩ => ?_
    subst he
    exact hK _ _ ((h s hG).out _ w' (hF.put hd _) hM')⟩
theorem SQ.callVg {v : Value} {j g : Nat} {b : Bool} (hg : (ops[j]?).bind (·.dst) = some g) (hb : look env g = some (.bool b)) (hf : plainFunc P f = true) (hx : ev env x = some (.func (.func f) fs cap)) (hargs : ∀ (ρ : Operand → Value), (∀ x u, ev env x = some u → ρ x = u) → fs ++ args.map ρ ++ cap = vs)
    (hc : ∀ w, Mm w0 F m w → Calls P f vs w fun e w' => e = .returned v ∧ Mm w [] [] w') (hd : Nat.blt d N = true)
    (h : SQ P ops Q rest N ((d, v) :: env) w0 F m) : SQ P ops Q (⟨some d, .call ⟨.value x, args, ts⟩, ty, pos, af, some (j, b)⟩ :: rest) N env w0 F m :=
  ⟨fun a hF => wpQuiet_step fun K hK => by
    rw [if_pos (by simp [Region.wanted, yielded_of hF hg hb])]
    refine ⟨v, fun w hM => ?_, hK _ (h.out _ (hF.put hd v))⟩
    unfold Oper.quietAt
    rw [run_callV hf (hF.eval hx) (hargs a.eval (fun x u hx => hF.eval hx))]
    refine ⟨rfl, (hc w hM).mono fun e w' ⟨he, hM'⟩ => ⟨he, ?_⟩⟩
    have := hM.callee0 hM'
    rwa [List.append_nil] at this⟩
theorem SO.callV {σ : Type} {V : σ → Value} {M : σ → List Blk} {G : σ → Prop} {k1 fuel i : Nat} {m1 m2 : List Blk} {listed : Array Bool} (hi : ops[i]? = some ⟨some d, .call ⟨.value x, args, ts⟩, ty, pos, af, none⟩) (hf : plainFunc P f = true) (hx : ev env x = some (.func (.func f) fs cap)) (hargs : ∀ (ρ : Operand → Value), (∀ x u, ev env x = some u → ρ x = u) → fs ++ args.map ρ ++ cap = vs)
    (hc : ∀ w, Mm w0 F m w → Calls P f vs w fun e w' => ∃ s, e = .returned (V s) ∧ G s ∧ Mm w0 F (M s) w') (hd : Nat.blt d N = true) (hmS : ∀ s, (bif (listed.setIfInBounds i true).getD k1 true then m2 else m1).Sublist (M s))
    (h : ∀ s, G s → SA P ops Q k1 m1 m2 fuel (listed.setIfInBounds i true) N ((d, V s) :: env) w0 F (M s)) : SO P ops Q k1 m1 m2 i fuel listed N env w0 F m :=
  ⟨fun a w hF hM => by
    have hr := run_callV (P := P) (w := w) (dd := some d) (ty := ty) (pos := pos) (af := af) (g := none) (ts := ts) hf (hF.eval hx) (hargs a.eval (fun x u hx => hF.eval hx))
    unfold wpOp
    rw [hi]
    refine (if_pos rfl).mpr (.inl ?_)
    unfold Oper.wp
    rw [hr]
    refine (hc w hM).mono fun e w' ⟨s, he, hG, hM'⟩ => ?_
    subst he
    exact ⟨hM'.weaken (hmS s), (h s hG).out _ w' (hF.put hd _) hM'⟩⟩
theorem OV.mkF {g : Option (Nat × Bool)} {dd : Option Nat} {first captured : Array Operand} (h1 : ∀ (ρ : Operand → Value), (∀ x u, ev env x = some u → ρ x = u) → first.map ρ = fs) (h2 : ∀ (ρ : Operand → Value), (∀ x u, ev env x = some u → ρ x = u) → captured.map ρ = cap) :
    OV P env w0 F m ⟨dd, .makeFunc (.func f) first captured, ty, pos, af, g⟩ (.func (.func f) fs cap) :=
  ⟨fun A w hE hM => by simp [execOp, Instr.makeFunc, h1 A.eval hE, h2 A.eval hE]⟩
theorem eqIn_func_nil {dd : Nat} (w : World) {a : Array TypeId} {b : Array TypeId} {c : Bool} (h : P.underlying T = some (.func a b c)) (fn : Fn) (fs cap : Array Value) : (Op.equalIn (dd + 1) T (.func fn fs cap) .nilFunc).run P w = .ok false w := by
  simp [Op.equalIn, run_underlying h]
theorem eqIn_nil_nil {dd : Nat} (w : World) {a : Array TypeId} {b : Array TypeId} {c : Bool} (h : P.underlying T = some (.func a b c)) : (Op.equalIn (dd + 1) T .nilFunc .nilFunc).run P w = .ok true w := by
  simp [Op.equalIn, run_underlying h]
def isFunc (P : Program) (T : TypeId) : Bool := match P.underlying T with
  | some (.func _ _ _) => true
  | _ => false
theorem isFunc_spec (h : isFunc P T = true) : ∃ a b c, P.underlying T = some (.func a b c) := by
  unfold isFunc at h
  split at h
  · exact ⟨_, _, _, by assumption⟩
  · cases h
theorem OV.eqlFnNil {g : Option (Nat × Bool)} {dd : Option Nat} {T' : TypeId} (hT : isFunc P T = true) (hx : ev env x = some .nilFunc) : OV P env w0 F m ⟨dd, .binOp .eql T x (.const .nilFunc) T', ty, pos, af, g⟩ (.bool true) :=
  ⟨fun A w hE hM => by
    obtain ⟨a, b, c, hT⟩ := isFunc_spec hT
    have hr : (Op.equal T .nilFunc .nilFunc).run P w = .ok true w := eqIn_nil_nil (dd := 9999) w hT
    have hc : A.eval (.const .nilFunc) = .nilFunc := rfl
    simp [execOp, hE x _ hx, hc, eqGuard, binOp, hr]⟩
theorem OV.neqFnNil {g : Option (Nat × Bool)} {dd : Option Nat} {T' : TypeId} (hT : isFunc P T = true) (hx : ev env x = some .nilFunc) : OV P env w0 F m ⟨dd, .binOp .neq T x (.const .nilFunc) T', ty, pos, af, g⟩ (.bool false) :=
  ⟨fun A w hE hM => by
    obtain ⟨a, b, c, hT⟩ := isFunc_spec hT
    have hr : (Op.equal T .nilFunc .nilFunc).run P w = .ok true w := eqIn_nil_nil (dd := 9999) w hT
    have hc : A.eval (.const .nilFunc) = .nilFunc := rfl
    simp [execOp, hE x _ hx, hc, eqGuard, binOp, hr]⟩
theorem OV.neqFn {g : Option (Nat × Bool)} {dd : Option Nat} {T' : TypeId} {fn : Fn} (hT : isFunc P T = true) (hx : ev env x = some (.func fn fs cap)) : OV P env w0 F m ⟨dd, .binOp .neq T x (.const .nilFunc) T', ty, pos, af, g⟩ (.bool true) :=
  ⟨fun A w hE hM => by
    obtain ⟨a, b, c, hT⟩ := isFunc_spec hT
    have hr : (Op.equal T (.func fn fs cap) .nilFunc).run P w = .ok false w := eqIn_func_nil (dd := 9999) w hT fn fs cap
    have hc : A.eval (.const .nilFunc) = .nilFunc := rfl
    simp [execOp, hE x _ hx, hc, eqGuard, binOp, hr]⟩
end
end Go.Proofs.Ybulkdrci.A.Sym
