import Derived.Test.YbulkdrciAOps2
namespace Go.Proofs.Ybulkdrci.A.Sym
open Go Go.RowKit
set_option linter.unusedVariables false
set_option linter.unusedSimpArgs false
section
variable {P : Program} {w0 : World} {F : List Nat} {env : Env} {m : List Blk} {ty : TypeId} {pos : String} {af : Array Edge}
variable {Q : Exit → Act → World → Prop} {N : Nat} {ops : Array Oper} {rest : List Oper} {d f : Nat} {args : Array Operand} {ts : Array TypeId} {vs : Array Value}

theorem run_call (hf : plainFunc P f = true) {a : Act} {w : World} {g : Option (Nat × Bool)} (hv : args.map a.eval = vs) : (execOp a.eval ⟨some d, .call ⟨.value (.func f), args, ts⟩, ty, pos, af, g⟩).run P w = .ok (.enter f vs) w := by
  unfold plainFunc at hf
  cases hfn : P.funcs[f]? with
  | none => simp [hfn] at hf
  | some fn =>
    simp [hfn] at hf
    obtain ⟨h1, h2⟩ := hf
    cases hb : fn.body with
    | none => simp [hb] at h2
    | some c => simp [execOp, resolve, Act.eval, Deferred.ofValue, invoke, callFunc, hfn, h1, hb, hv]

/-- A call that leaves the memory as it was. -/
theorem SL.callQ {v : Value} (hf : plainFunc P f = true) (hargs : ∀ (ρ : Operand → Value), (∀ x u, ev env x = some u → ρ x = u) → args.map ρ = vs)
    (hc : ∀ w, Mm w0 F m w → Calls P f vs w fun e w' => e = .returned v ∧ Mm w [] [] w') (hd : Nat.blt d N = true)
    (h : SL P ops Q rest N ((d, v) :: env) w0 F m) : SL P ops Q (⟨some d, .call ⟨.value (.func f), args, ts⟩, ty, pos, af, none⟩ :: rest) N env w0 F m :=
  SL.call (σ := Unit) (V := fun _ => v) (M := fun _ => m) (G := fun _ => True) hf hargs (fun w hM => (hc w hM).mono fun e w' ⟨he, hM'⟩ => ⟨(), he, trivial, by have := hM.callee0 hM'; rwa [List.append_nil] at this⟩) hd (fun _ _ => h)

theorem SL.callQg {v : Value} {j g : Nat} {b : Bool} (hg : (ops[j]?).bind (·.dst) = some g) (hb : look env g = some (.bool b)) (hf : plainFunc P f = true) (hargs : ∀ (ρ : Operand → Value), (∀ x u, ev env x = some u → ρ x = u) → args.map ρ = vs)
    (hc : ∀ w, Mm w0 F m w → Calls P f vs w fun e w' => e = .returned v ∧ Mm w [] [] w') (hd : Nat.blt d N = true)
    (h : SL P ops Q rest N ((d, v) :: env) w0 F m) : SL P ops Q (⟨some d, .call ⟨.value (.func f), args, ts⟩, ty, pos, af, some (j, b)⟩ :: rest) N env w0 F m :=
  ⟨fun a w hF hM => wpList_step fun K hK => by
    rw [if_pos (by simp [Region.wanted, yielded_of hF hg hb])]
    unfold Oper.wp
    rw [run_call hf (hargs a.eval (fun x u hx => hF.eval hx))]
    refine (hc w hM).mono fun e w' ⟨he, hM'⟩ => ?_
    subst he
    exact hK _ _ (h.out _ w' (hF.put hd _) (by have := hM.callee0 hM'; rwa [List.append_nil] at this))⟩

theorem args1 {env : Env} {x : Operand} {u : Value} (hx : ev env x = some u) (ρ : Operand → Value) (hρ : ∀ x u, ev env x = some u → ρ x = u) : (#[x] : Array Operand).map ρ = #[u] := by simp [hρ x u hx]
theorem args2 {env : Env} {x y : Operand} {u v : Value} (hx : ev env x = some u) (hy : ev env y = some v) (ρ : Operand → Value) (hρ : ∀ x u, ev env x = some u → ρ x = u) : (#[x, y] : Array Operand).map ρ = #[u, v] := by simp [hρ x u hx, hρ y v hy]

/-- A call that makes one new row, a copy of a listed one. -/
theorem SL.clone {x : Operand} {e : TypeId} {b n c j : Nat} {cs xs : List Value} {G : Nat × Nat × List Value → Prop} (hf : plainFunc P f = true) (hx : ev env x = some (.slice (some ⟨b, 0, none⟩) n c)) (hm : m[j]? = some (b, row e cs)) (hp : ∀ (q : Nat) u, xs[q]? = some u → cs[q]? = some u)
    (hc : ∀ w : World, (∀ (q : Nat) u, xs[q]? = some u → w.cell? ⟨b, 0 + q, none⟩ = some u) → Calls P f #[.slice (some ⟨b, 0, none⟩) n c] w fun e' w' => ∃ st : Nat × Nat × List Value, e' = .returned (.slice (some ⟨st.1, 0, none⟩) n st.2.1) ∧ G st ∧ Mm w [] [(st.1, row e (xs ++ st.2.2))] w') (hd : Nat.blt d N = true)
    (h : ∀ st : Nat × Nat × List Value, G st → SL P ops Q rest N ((d, .slice (some ⟨st.1, 0, none⟩) n st.2.1) :: env) w0 F (m ++ [(st.1, row e (xs ++ st.2.2))])) : SL P ops Q (⟨some d, .call ⟨.value (.func f), #[x], ts⟩, ty, pos, af, none⟩ :: rest) N env w0 F m :=
  SL.call (σ := Nat × Nat × List Value) (V := fun st => .slice (some ⟨st.1, 0, none⟩) n st.2.1) (M := fun st => m ++ [(st.1, row e (xs ++ st.2.2))]) (G := G) hf (fun ρ hρ => by simp [hρ x _ hx]) (fun w hM => (hc w (fun q u hq => by
      have hb := (hM.own _ (List.mem_of_getElem? hm)).1
      simp only [row] at hb
      simp [World.cell?, hb, hp q u hq])).mono fun e' w' ⟨st, he, hok, hM'⟩ => ⟨st, he, hok, hM.callee0 hM'⟩) hd h

/-- The cells of a listed block, in the world. -/
theorem Mm.cells {w : World} (hM : Mm w0 F m w) {j b : Nat} {e : TypeId} {cs xs : List Value} (hm : m[j]? = some (b, row e cs)) (hp : ∀ (q : Nat) u, xs[q]? = some u → cs[q]? = some u) : ∀ (q : Nat) u, xs[q]? = some u → w.cell? ⟨b, 0 + q, none⟩ = some u := fun q u hq => by
  have hb := (hM.own _ (List.mem_of_getElem? hm)).1
  simp only [row] at hb
  simp [World.cell?, hb, hp q u hq]
theorem Mm.cell {w : World} (hM : Mm w0 F m w) {j b o : Nat} {e : TypeId} {cs : List Value} {v : Value} (hm : m[j]? = some (b, row e cs)) (hc : cs[o]? = some v) : w.cell? ⟨b, o, none⟩ = some v := by
  have hb := (hM.own _ (List.mem_of_getElem? hm)).1
  simp only [row] at hb
  simp [World.cell?, hb, hc]
theorem Mm.block {w : World} (hM : Mm w0 F m w) {j b : Nat} {o : Obj} (hm : m[j]? = some (b, o)) : w.heap[b]? = some o := (hM.own _ (List.mem_of_getElem? hm)).1
theorem Mm.ne {w : World} (hM : Mm w0 F m w) {i j b b' : Nat} {o o' : Obj} (hi : m[i]? = some (b, o)) (hj : m[j]? = some (b', o')) (hij : i ≠ j) : b ≠ b' := fun e => hij (nodup_unique hM.nodup hi hj e)

theorem pre_append {xs sp : List Value} : ∀ (q : Nat) u, xs[q]? = some u → (xs ++ sp)[q]? = some u := fun q u hq => by
  rw [List.getElem?_append_left (List.getElem?_eq_some_iff.1 hq).1]; exact hq
theorem ints_one (k : IntKind) (xs : List Int) : ∀ u ∈ ints k xs, u.oneCell' = true := by
  intro u hu
  simp only [ints, List.mem_map] at hu
  obtain ⟨a, _, rfl⟩ := hu
  rfl
theorem tab_one (n : Nat) (f : Nat → Value) (h : ∀ q, q < n → (f q).oneCell' = true) : ∀ u ∈ tab n f, u.oneCell' = true := by
  intro u hu
  simp only [tab, List.mem_map, List.mem_range] at hu
  obtain ⟨a, ha, rfl⟩ := hu
  exact h a ha
theorem ints_get (k : IntKind) (xs : List Int) {q : Nat} (h : q < xs.length) : (ints k xs)[q]? = some (.int k (xs.getD q 0)) := by simp [ints, h]

theorem map_set_same {m : List Blk} {j b : Nat} {o o' : Obj} (hj : m[j]? = some (b, o)) : (m.set j (b, o')).map (·.1) = m.map (·.1) := by
  rw [List.map_set]
  refine List.ext_getElem? fun i => ?_
  rw [List.getElem?_set]
  obtain ⟨hl, h2⟩ := List.getElem?_eq_some_iff.1 hj
  split
  · rename_i e; subst e
    simp [hl, h2]
  · rfl

/-- A callee that writes two of the caller's blocks. -/
theorem Mm.callee2 {w w' : World} {j1 j2 b1 b2 : Nat} {o1 o1' o2 o2' : Obj} {new : List Blk} (h : Mm w0 F m w) (h' : Mm w [b1, b2] ((b1, o1') :: (b2, o2') :: new) w') (hj1 : m[j1]? = some (b1, o1)) (hj2 : m[j2]? = some (b2, o2)) (hne : j1 ≠ j2) :
    Mm w0 F (((m.set j1 (b1, o1')).set j2 (b2, o2')) ++ new) w' := by
  have hj2' : (m.set j1 (b1, o1'))[j2]? = some (b2, o2) := by rw [List.getElem?_set_ne hne]; exact hj2
  have hnd := h'.nodup
  simp only [List.map_cons, List.nodup_cons, List.mem_cons, not_or] at hnd
  refine h.callee h' (new := new) ?_ ((List.Sublist.refl new).cons _ |>.cons _) ?_ ?_ ?_
  · rw [List.map_append, map_set_same hj2', map_set_same hj1]
  · intro p hp
    have hp1 : p.1 ∈ new.map (·.1) := List.mem_map_of_mem hp
    simp only [List.mem_cons, List.not_mem_nil, or_false, not_or]
    exact ⟨fun e => hnd.1.2 (e ▸ hp1), fun e => hnd.2.1 (e ▸ hp1)⟩
  · intro p hp
    rcases List.mem_append.1 hp with hp | hp
    · obtain ⟨i, hi⟩ := List.mem_iff_getElem?.1 hp
      rw [List.getElem?_set] at hi
      by_cases e2 : j2 = i
      · subst e2
        rw [if_pos rfl] at hi
        split at hi
        · cases hi; exact .inr (by simp)
        · cases hi
      · rw [if_neg e2, List.getElem?_set] at hi
        by_cases e1 : j1 = i
        · subst e1
          rw [if_pos rfl] at hi
          split at hi
          · cases hi; exact .inr (by simp)
          · cases hi
        · rw [if_neg e1] at hi
          refine .inl ⟨List.mem_of_getElem? hi, ?_⟩
          simp only [List.mem_cons, List.not_mem_nil, or_false, not_or]
          exact ⟨fun e => e1 (nodup_unique h.nodup hj1 hi e.symm), fun e => e2 (nodup_unique h.nodup hj2 hi e.symm)⟩
    · exact .inr (by simp [hp])
  · intro b hb
    simp only [List.mem_cons, List.not_mem_nil, or_false] at hb
    rcases hb with rfl | rfl
    · exact List.mem_map.2 ⟨_, List.mem_of_getElem? hj1, rfl⟩
    · exact List.mem_map.2 ⟨_, List.mem_of_getElem? hj2, rfl⟩
end
end Go.Proofs.Ybulkdrci.A.Sym
