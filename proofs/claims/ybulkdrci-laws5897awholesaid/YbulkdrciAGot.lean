import Derived.Test.YbulkdrciACrash
namespace Go.Proofs.Ybulkdrci.A
open Go Go.RowKit Go.Proofs.Ybulkdrci.A.Sym
set_option linter.unusedVariables false
set_option linter.unusedSimpArgs false
set_option maxRecDepth 100000

/-- A callee that may write, and put others in the place of, the blocks A. -/
theorem Mm.calleeA {w0 w w' : World} {F : List Nat} {A A' rest : List Blk} (h : Mm w0 F (A ++ rest) w) (h' : Mm w (A.map (·.1)) A' w') : Mm w0 F (A' ++ rest) w' := by
  have hnd := h.nodup
  rw [List.map_append, List.nodup_append] at hnd
  obtain ⟨hA, hR, hAR⟩ := hnd
  have hlt : ∀ p ∈ rest, p.1 < w.heap.size := fun p hp => (Array.getElem?_eq_some_iff.1 (h.own p (List.mem_append_right _ hp)).1).1
  have hnA : ∀ p ∈ rest, p.1 ∉ A.map (·.1) := fun p hp hin => hAR _ hin _ (List.mem_map_of_mem hp) rfl
  refine ⟨h'.os.trans h.os, h'.tape.trans h.tape, h'.output.trans h.output, Nat.le_trans h.size h'.size, fun k hk hkF => ?_, fun p hp => ?_, ?_⟩
  · have hkA : k ∉ A.map (·.1) := fun hin => by
      obtain ⟨p, hp, e⟩ := List.mem_map.1 hin
      rcases (h.own p (List.mem_append_left _ hp)).2 with h1 | h1
      · rw [e] at h1; exact hkF h1
      · omega
    rw [h'.old k (Nat.lt_of_lt_of_le hk h.size) hkA]
    exact h.old k hk hkF
  · rcases List.mem_append.1 hp with h1 | h1
    · obtain ⟨c1, c2⟩ := h'.own p h1
      refine ⟨c1, ?_⟩
      rcases c2 with c2 | c2
      · obtain ⟨q, hq, e⟩ := List.mem_map.1 c2
        rw [← e]
        exact (h.own q (List.mem_append_left _ hq)).2
      · exact .inr (Nat.le_trans h.size c2)
    · obtain ⟨c1, c2⟩ := h.own p (List.mem_append_right _ h1)
      exact ⟨by rw [h'.old _ (hlt p h1) (hnA p h1)]; exact c1, c2⟩
  · rw [List.map_append, List.nodup_append]
    refine ⟨h'.nodup, hR, fun a ha b hb e => ?_⟩
    obtain ⟨p, hp, ep⟩ := List.mem_map.1 ha
    obtain ⟨q, hq, eq⟩ := List.mem_map.1 hb
    subst e
    rcases (h'.own p hp).2 with c2 | c2
    · rw [ep, ← eq] at c2
      exact hnA q hq c2
    · have := hlt q hq
      omega
/-! ### The counts, and what has been got -/
def cnt (f : Nat → Int) : Nat → Int → Int
  | 0, _ => 0
  | i + 1, m => cnt f i m + (if f i = m then 1 else 0)
theorem cnt_nonneg (f : Nat → Int) (n : Nat) (m : Int) : 0 ≤ cnt f n m ∧ cnt f n m ≤ n := by
  induction n with
  | zero => exact ⟨Int.le_refl _, Int.le_refl _⟩
  | succ n ih =>
    unfold cnt
    split <;> omega
theorem cnt_congr {f g : Nat → Int} {n : Nat} (h : ∀ i, i < n → f i = g i) (m : Int) : cnt f n m = cnt g n m := by
  induction n with
  | zero => rfl
  | succ n ih =>
    unfold cnt
    rw [ih (fun i hi => h i (by omega)), h n (by omega)]
def mix (p : Nat) (a b : Nat → Int) (i : Nat) : Int := if i < p then a i else b i
theorem cnt_mix {a b : Nat → Int} {n p : Nat} (hp : p < n) (m : Int) : cnt (mix (p + 1) a b) n m = cnt (mix p a b) n m - (if b p = m then 1 else 0) + (if a p = m then 1 else 0) := by
  induction n with
  | zero => omega
  | succ n ih =>
    unfold cnt
    by_cases e : p = n
    · subst e
      have h1 : cnt (mix (p + 1) a b) p m = cnt (mix p a b) p m := cnt_congr (fun i hi => by unfold mix; rw [if_pos (by omega), if_pos hi]) m
      have h2 : mix (p + 1) a b p = a p := by unfold mix; rw [if_pos (by omega)]
      have h3 : mix p a b p = b p := by unfold mix; rw [if_neg (by omega)]
      rw [h1, h2, h3]
      omega
    · have h2 : mix (p + 1) a b n = mix p a b n := by
        unfold mix
        have : (n < p + 1) ↔ (n < p) := by omega
        simp only [this]
      rw [ih (by omega), h2]
      omega
/-- The ten counts, as cells. -/
def c10 (c : Nat → Int) : List Value := tab 10 fun q => .int .i64 (c q)
theorem c10_len (c : Nat → Int) : (c10 c).length = 10 := length_tab _ _
theorem c10_one (c : Nat → Int) : ∀ u ∈ c10 c, u.oneCell' = true := by
  intro u hu
  simp only [c10, tab, List.mem_map] at hu
  obtain ⟨_, _, rfl⟩ := hu
  rfl
def gcs (gl : List (Nat → Int)) : List Value := gl.flatMap c10
theorem gcs_len (gl : List (Nat → Int)) : (gcs gl).length = gl.length * 10 := by
  induction gl with
  | nil => rfl
  | cons c r ih => simp only [gcs, List.flatMap_cons, List.length_append, c10_len, List.length_cons]; have : (List.flatMap c10 r).length = r.length * 10 := ih; omega
theorem gcs_snoc (gl : List (Nat → Int)) (c : Nat → Int) : gcs (gl ++ [c]) = gcs gl ++ c10 c := by simp [gcs]
/-- Where what has been got lies: nowhere, or in a block with spare room. -/
structure GB where
  b : Nat
  C : Nat
  sp : List Value
def gval (gs : Option GB) (gl : List (Nat → Int)) : Value := match gs with
  | none => .slice none 0 0
  | some g => .slice (some ⟨g.b, 0, none⟩) gl.length g.C
def gblk (gs : Option GB) (gl : List (Nat → Int)) : List Blk := match gs with
  | none => []
  | some g => [(g.b, row 40 (gcs gl ++ g.sp))]
def GOk (gs : Option GB) (gl : List (Nat → Int)) : Prop := match gs with
  | none => gl = []
  | some g => (gcs gl).length + g.sp.length = g.C * 10 ∧ g.C ≤ maxLen
/-- The blocks of 'got'. -/
def GA (bg : Nat) (gs : Option GB) (gl : List (Nat → Int)) : List Blk := (bg, row 37 [gval gs gl]) :: gblk gs gl
theorem info40 : (Yba.prog.info? 40).map (fun i => (i.zero, i.size, i.bytes)) = some (some (.agg #[.int .i64 0, .int .i64 0, .int .i64 0, .int .i64 0, .int .i64 0, .int .i64 0, .int .i64 0, .int .i64 0, .int .i64 0, .int .i64 0]), 10, 80) := by kernel_rfl
theorem ag40 : scalar Yba.prog 40 = false := by kernel_rfl
theorem us40 : (Yba.prog.underlying 40).isSome = true := by kernel_rfl
theorem fill40 (c : Nat → Int) : Instr.fill (fun i => some (i * 10, 10)) ((Array.range (1 * 10)).map ((Value.agg #[.int .i64 0, .int .i64 0, .int .i64 0, .int .i64 0, .int .i64 0, .int .i64 0, .int .i64 0, .int .i64 0, .int .i64 0, .int .i64 0]).cells[· % (Value.agg #[.int .i64 0, .int .i64 0, .int .i64 0, .int .i64 0, .int .i64 0, .int .i64 0, .int .i64 0, .int .i64 0, .int .i64 0, .int .i64 0]).cells.size]!)) [(0, .agg (c10 c).toArray)] = some (c10 c).toArray := by kernel_rfl
/-- LawS5897AWhole$1: got = append(got, c) -/
theorem call7 {w : World} {bg : Nat} {gs : Option GB} {gl : List (Nat → Int)} {c : Nat → Int} (hG : GOk gs gl) (hl : gl.length ≤ 100000) (h : Mm w ((GA bg gs gl).map (·.1)) (GA bg gs gl) w) :
    Calls Yba.prog 7 #[.agg (c10 c).toArray, pt bg] w fun e w' => ∃ gs' : GB, e = .returned (.tuple #[]) ∧ GOk (some gs') (gl ++ [c]) ∧ Mm w ((GA bg gs gl).map (·.1)) (GA bg (some gs') (gl ++ [c])) w' := by
  obtain ⟨i40, hi, hz, hs, hb⟩ := info_parts info40
  refine Calls.of_SC (args := [.agg (c10 c).toArray, pt bg]) Yba.func7 rfl (by simp [Yba.f7]) h ?_
  cases gs with
  | none =>
    have hnil : gl = [] := hG
    subst hnil
    refine SC.seq ?_
    refine SC.region ?_
    refine SL.e (OE.box rfl) rfl ?_
    intro b2
    refine SL.nil ?_
    refine SC.then ?_
    refine SC.region ?_
    refine SL.y (OV.loadF 0 sc37 rfl rfl rfl) rfl ?_
    refine SL.y (OV.loadAgg (vs := c10 c) 1 ag40 us40 hi rfl rfl (by rw [hs]; rfl) (fun q v h => by rw [Nat.zero_add]; exact h)) rfl ?_
    refine SL.e (OE.bsliceN (s := 10) (cs := (c10 c).toArray) u37 hi hz hs (by decide) (by decide) (parts1 rfl) (fill40 c)) rfl ?_
    intro nb
    refine SL.e (OE.appN (ys := c10 c) u37 hi hz hs rfl rfl rfl (Src.own0 2 rfl) (c10_len c) (c10_one c) (by rw [hb]; decide)) rfl ?_
    intro st
    refine SL.s (OS.store1 1 sz37 rfl rfl rfl rfl (by show 0 < 1; decide)) ?_
    refine SL.nil ?_
    refine SE.end0 Yba.results7 (fun w' hM => ⟨⟨st.1.1, st.1.2.1, st.1.2.2⟩, rfl, ⟨?_, st.2.1⟩, ?_⟩)
    · show (gcs [c]).length + _ = _
      have e : gcs [c] = c10 c := by simp [gcs]
      rw [e]
      exact st.2.2.2
    · have e : gcs ([] ++ [c]) = c10 c := by simp [gcs]
      have hM' := (hM.weaken (m' := [(st.1.1, row 40 (c10 c ++ st.1.2.2)), (bg, row 37 [.slice (some ⟨st.1.1, 0, none⟩) 1 st.1.2.1])]) (((List.nil_sublist _).cons_cons _).cons_cons _)).perm (List.Perm.swap _ _ _)
      show Mm w _ [(bg, row 37 [.slice (some ⟨st.1.1, 0, none⟩) 1 st.1.2.1]), (st.1.1, row 40 (gcs ([] ++ [c]) ++ st.1.2.2))] w'
      rw [e]
      exact hM'
  | some g =>
    obtain ⟨hg1, hg2⟩ : (gcs gl).length + g.sp.length = g.C * 10 ∧ g.C ≤ maxLen := hG
    refine SC.seq ?_
    refine SC.region ?_
    refine SL.e (OE.box rfl) rfl ?_
    intro b2
    refine SL.nil ?_
    refine SC.then ?_
    refine SC.weaken (env' := [(1, pt bg), (2, pt b2)]) (m' := [(bg, row 37 [.slice (some ⟨g.b, 0, none⟩) gl.length g.C]), (g.b, row 40 (gcs gl ++ g.sp)), (b2, row 40 (c10 c))]) (by repeat' (first | exact trivial | refine ⟨rfl, ?_⟩)) (List.Sublist.refl _) ?_
    refine SC.region ?_
    refine SL.y (OV.loadF 0 sc37 rfl rfl rfl) rfl ?_
    refine SL.y (OV.loadAgg (vs := c10 c) 2 ag40 us40 hi rfl rfl (by rw [hs]; rfl) (fun q v h => by rw [Nat.zero_add]; exact h)) rfl ?_
    refine SL.e (OE.bsliceN (s := 10) (cs := (c10 c).toArray) u37 hi hz hs (by decide) (by decide) (parts1 rfl) (fill40 c)) rfl ?_
    intro nb
    refine SL.e (OE.appG (cs := gcs gl) (sp := g.sp) (ys := c10 c) (rest := [(bg, row 37 [.slice (some ⟨g.b, 0, none⟩) gl.length g.C]), (b2, row 40 (c10 c)), (nb, row 40 (c10 c))]) u37 hi hz hs rfl rfl rfl (List.Perm.swap _ _ _) (Src.own0 3 rfl) (c10_len c) (c10_one c) (gcs_len gl) hg1 hg2 (by unfold maxLen; omega) (by rw [hb]; omega)) rfl ?_
    intro st
    refine SL.s (OS.store1 1 sz37 rfl rfl rfl rfl (by show 0 < 1; decide)) ?_
    refine SL.nil ?_
    refine SE.end0 Yba.results7 (fun w' hM => ⟨⟨st.1.1, st.1.2.1, st.1.2.2⟩, rfl, ⟨?_, st.2.1⟩, ?_⟩)
    · rw [gcs_snoc]
      exact st.2.2.2
    · have hM' := (hM.weaken (m' := [(st.1.1, row 40 (gcs gl ++ c10 c ++ st.1.2.2)), (bg, row 37 [.slice (some ⟨st.1.1, 0, none⟩) (gl.length + 1) st.1.2.1])]) (((List.nil_sublist _).cons_cons _).cons_cons _)).perm (List.Perm.swap _ _ _)
      show Mm w _ [(bg, row 37 [.slice (some ⟨st.1.1, 0, none⟩) (gl ++ [c]).length st.1.2.1]), (st.1.1, row 40 (gcs (gl ++ [c]) ++ st.1.2.2))] w'
      have eL : (gl ++ [c]).length = gl.length + 1 := by simp
      rw [gcs_snoc, eL]
      exact hM'
theorem pf7 : plainFunc Yba.prog 7 = true := by kernel_rfl
end Go.Proofs.Ybulkdrci.A
