import Derived.Test.YbulkdrciDoorLaw
namespace Go.Proofs.YbulkdrciDoor
open Go Go.RowKit Go.Proofs.YbulkdrciDoor.Sym
set_option linter.unusedVariables false
set_option linter.unusedSimpArgs false

theorem walkBig {w0 : World} {a0 : Option Addr} {n c0 : Nat} {raw : ByteArray} (hbig : 1048576 < n) :
    Calls Ybad.prog 3 #[.slice a0 n c0, .string raw] w0 fun e w' => e = .returned (.bool true) ∧ Below w0.heap.size w0 w' := by
  refine Calls.of_SC (args := [.slice a0 n c0, .string raw]) Ybad.func3 rfl (by rw [Ybad.ntmps3]; simp) (Mm.start w0) ?_
  refine SC.seq ?_
  refine SC.region ?_
  refine SL.y (OV.assign rfl) rfl ?_
  refine SL.nil ?_
  refine SC.then ?_
  refine SC.seq ?_
  refine SC.seq ?_
  refine SC.region ?_
  refine SL.y (OV.move rfl) rfl ?_
  refine SL.y (OV.len u22 rfl) rfl ?_
  refine SL.y (OV.gtr rfl rfl) rfl ?_
  refine SL.nil ?_
  refine SC.then ?_
  refine SC.condP rfl (fun _ => ?_) (fun h => absurd (show (1048576 : Int) < (n : Int) by omega) h)
  refine SC.seq ?_
  refine SC.region ?_
  refine SL.y (OV.assign rfl) rfl ?_
  refine SL.nil ?_
  refine SC.then ?_
  refine SC.ret ?_
  refine SE.thenR ?_
  exact SE.ret1 Ybad.results3 rfl fun w hM => ⟨rfl, hM.below⟩

section
variable {w0 : World} {Q : Exit → Act → World → Prop} {a0 : Option Addr} {n c0 b5 : Nat} {raw : ByteArray} {z : Nat → Int} {tt : Nat → ByteArray}

abbrev EA (a0 : Option Addr) (n c0 : Nat) (raw : ByteArray) (b5 : Nat) : Env := [(0, .slice a0 n c0), (1, .string raw), (5, .slice (some ⟨b5, 0, none⟩) n n)]

/-- args[i] = token{..} -/
theorem loopA (hn : n ≤ 1048576) (hz : ∀ p, p < n → ∃ A, a0 = some A ∧ w0.cell? (A.add p) = some (.int .u8 (z p)) ∧ 0 ≤ z p ∧ z p ≤ 255) (htt : ∀ p, p < n → tt p = wordOf ((z p).tmod 10) raw)
    (h : SE (Q .normal) Ybad.f3.ntmps (EA a0 n c0 raw b5) w0 [] [(b5, toks n tt)]) :
    SC Ybad.prog (sub [1, 1, 1, 0, 1] (Ybad.f3.body.getD .skip)) Q Ybad.f3.ntmps ((25, .slice a0 n c0) :: (26, .int .i64 n) :: (27, .int .i64 (0 : Nat)) :: EA a0 n c0 raw b5) w0 [] [(b5, row 26 (tab (n * 3) (tfill tt 0)))] := by
  obtain ⟨i26, hi, hz0, hz1, hz2⟩ := info_parts info26
  refine SC.block ?_
  refine SC.loop (fun k : Nat => (25, .slice a0 n c0) :: (26, .int .i64 n) :: (27, .int .i64 k) :: EA a0 n c0 raw b5) (fun k => [(b5, row 26 (tab (n * 3) (tfill tt k)))]) (fun k => k ≤ n) (fun k => n - k) 0 (Nat.zero_le _) (by repeat' (first | exact trivial | refine ⟨rfl, ?_⟩)) (List.Sublist.refl _) ?_
  intro k hk
  refine SC.seq ?_
  refine SC.region ?_
  refine SL.y (OV.lss rfl rfl) rfl ?_
  refine SL.nil ?_
  refine SC.then ?_
  refine SC.seq ?_
  refine SC.condP rfl (fun hlt => ?_) (fun hge => ?_)
  · have hlt' : k < n := by omega
    obtain ⟨A, hA, hzc, h0, h255⟩ := hz k hlt'
    have hw := htt k hlt'
    refine SC.skip ?_
    refine SC.then ?_
    refine SC.seq ?_
    refine SC.block ?_
    refine SC.seq ?_
    refine SC.region ?_
    refine SL.y (OV.move rfl) rfl ?_
    refine SL.y (OV.idxO k u22 se22 rfl hA rfl rfl (by omega)) rfl ?_
    refine SL.y (OV.loadOldA sc5 rfl (by simp) hzc) rfl ?_
    refine SL.y (OV.assign rfl) rfl ?_
    refine SL.y (OV.assign rfl) rfl ?_
    refine SL.nil ?_
    refine SC.then ?_
    refine SC.region ?_
    refine SL.y (OV.move rfl) rfl ?_
    refine SL.y (OV.move rfl) rfl ?_
    refine SL.y (OV.move rfl) rfl ?_
    refine SL.y (OV.conv u5 u3 rfl (wrap_i64 (by omega) (by omega))) rfl ?_
    refine SL.y (OV.rem rfl rfl (by decide) rfl) rfl ?_
    refine SL.y (OV.move rfl) rfl ?_
    refine SL.callQ pf4 (args2 rfl rfl) (fun w hMw => (call4 ((z k).tmod 10) raw w).mono fun e w' ⟨he, hM'⟩ => ⟨by rw [he, ← hw], hM'⟩) rfl ?_
    refine SL.y (OV.move rfl) rfl ?_
    refine SL.y (OV.add (r := ((k + 1 : Nat) : Int)) rfl rfl (by rw [wrap_i64 (by omega) (by omega)]; omega)) rfl ?_
    refine SL.y (OV.build (parts3 rfl rfl rfl) (build26 (tt k) 1 ((k + 1 : Nat) : Int))) rfl ?_
    refine SL.y (OV.idx k u23 hi hz1 rfl rfl rfl (by omega)) rfl ?_
    refine SL.s (OS.store 0 hi rfl rfl rfl (by simp [Value.cells, hz1]) (by simp [Value.cells, Value.oneCell']) (by rw [length_tab]; simp [Value.cells]; omega)) ?_
    refine SL.nil ?_
    refine SE.nb ?_
    refine SC.then ?_
    refine SC.region ?_
    refine SL.y (OV.add rfl rfl (wrap_i64 (by omega) (by omega))) rfl ?_
    refine SL.y (OV.move rfl) rfl ?_
    refine SL.nil ?_
    refine SE.round (k + 1) (by omega) (by omega) (by repeat' (first | exact trivial | refine ⟨rfl, ?_⟩)) ?_
    have e1 := tab_splice3 (N := n * 3) (o := 0 + k * 3) (f := tfill tt k) (v0 := .string (tt k)) (v1 := .int .i64 1) (v2 := .int .i64 ((k + 1 : Nat) : Int)) (by omega)
    rw [tab_congr fun q _ => tfill_step tt k q] at e1
    rw [← e1]
    exact List.Sublist.refl _
  · have : k = n := by omega
    subst this
    refine SC.exit ?_
    refine SE.thenE (SE.thenE (SE.inBlock ?_))
    rw [tfull]
    exact SE.weaken (by repeat' (first | exact trivial | refine ⟨rfl, ?_⟩)) (List.Sublist.refl _) h
end

theorem tab_one' (tt : Nat → ByteArray) (n : Nat) : ∀ u ∈ tab (n * 3) (tcell tt), u.oneCell' = true := tab_one _ _ fun q _ => tcell_one tt q

theorem walk {w0 : World} {a0 : Option Addr} {n c0 gb g0 gc : Nat} {raw : ByteArray} {z : Nat → Int} (hn : n ≤ 1048576) (hz : ∀ p, p < n → ∃ A, a0 = some A ∧ w0.cell? (A.add p) = some (.int .u8 (z p)) ∧ 0 ≤ z p ∧ z p ≤ 255)
    (hG : w0.cell? ⟨0, 0, none⟩ = some (.slice (some ⟨gb, g0, none⟩) 6 gc)) (hcf : ∀ i, i < 6 → ∀ q v, (cf i).cells[q]? = some v → w0.cell? ⟨gb, g0 + i * 4 + q, none⟩ = some v) :
    Calls Ybad.prog 3 #[.slice a0 n c0, .string raw] w0 fun e w' => e = .returned (.bool true) ∧ Below w0.heap.size w0 w' := by
  obtain ⟨tt, htt⟩ : ∃ tt : Nat → ByteArray, ∀ p, tt p = wordOf ((z p).tmod 10) raw := ⟨_, fun _ => rfl⟩
  obtain ⟨Mf, hMf⟩ : ∃ Mf : Nat → Nat, ∀ i, IsM (cf i) n tt (Mf i) := ⟨fun i => (IsM.ex (cf i) n tt).choose, fun i => (IsM.ex (cf i) n tt).choose_spec⟩
  have hM5 : ∀ i, Mf i ≤ 5 := fun i => Nat.le_trans (hMf i).le (cf i).len_le
  obtain ⟨i26, hi26, hz26, hs26, hb26⟩ := info_parts info26
  obtain ⟨i30, hi30, hz30, hs30, hb30⟩ := info_parts info30
  obtain ⟨i36, hi36, hs36⟩ := size36
  refine Calls.of_SC (args := [.slice a0 n c0, .string raw]) Ybad.func3 rfl (by rw [Ybad.ntmps3]; simp) (Mm.start w0) ?_
  refine SC.seq ?_
  refine SC.region ?_
  refine SL.y (OV.assign rfl) rfl ?_
  refine SL.nil ?_
  refine SC.then ?_
  refine SC.seq ?_
  refine SC.seq ?_
  refine SC.region ?_
  refine SL.y (OV.move rfl) rfl ?_
  refine SL.y (OV.len u22 rfl) rfl ?_
  refine SL.y (OV.gtr rfl rfl) rfl ?_
  refine SL.nil ?_
  refine SC.then ?_
  refine SC.condP rfl (fun h => absurd h (by omega)) (fun _ => ?_)
  refine SC.skip ?_
  refine SC.then ?_
  refine SC.seq ?_
  refine SC.region ?_
  refine SL.y (OV.move rfl) rfl ?_
  refine SL.y (OV.len u22 rfl) rfl ?_
  refine SL.e (OE.makeS n n u23 hi26 hz26 hs26 rfl rfl rfl rfl (by omega) (by rw [hb26]; omega) (by omega)) rfl ?_
  intro b5
  refine SL.y (OV.assign rfl) rfl ?_
  refine SL.nil ?_
  refine SC.then ?_
  refine SC.seq ?_
  refine SC.seq ?_
  refine SC.region ?_
  refine SL.y (OV.move rfl) rfl ?_
  refine SL.y (OV.len u22 rfl) rfl ?_
  refine SL.y (OV.move rfl) rfl ?_
  refine SL.nil ?_
  refine SC.then ?_
  refine SC.weaken ?_ ?_ (loopA (a0 := a0) (n := n) (c0 := c0) (raw := raw) (b5 := b5) (tt := tt) hn hz (fun p _ => htt p) ?_)
  · exact (by repeat' (first | exact trivial | refine ⟨rfl, ?_⟩))
  · show List.Sublist _ [(b5, row 26 (madeCells #[Value.string ⟨#[]⟩, .int .i64 0, .int .i64 0] (n * 3)).toList)]
    rw [tmade tt]
    exact (List.Sublist.refl _)
  refine SC.then ?_
  refine SC.seq ?_
  refine SC.region ?_
  refine SL.y (OV.move rfl) rfl ?_
  refine SL.clone (j := 0) (xs := tab (n * 3) (tcell tt)) pf5 rfl rfl (fun q u h => h) (fun w hx => call5 (by rw [length_tab]) (by omega) (tab_one' tt n) hx) rfl ?_
  intro st8 hst8
  obtain ⟨b8, c8, sp⟩ := st8
  obtain ⟨hc1, hc2, hc3⟩ := hst8
  refine SL.y (OV.assign rfl) rfl ?_
  refine SL.nil ?_
  refine SC.then ?_
  refine SC.seq ?_
  refine SC.region ?_
  refine SL.y (OV.move rfl) rfl ?_
  refine SL.call (σ := CF × Bool) (V := fun r => .tuple #[.agg r.1.cells.toArray, .bool r.2]) (M := fun _ => [(b5, toks n tt), (b8, row 26 (tab (n * 3) (tcell tt) ++ sp))]) (G := Good Mf n) pf6 (args1 rfl) (fun w hMw => (call6 (fun i _ => hMf i) hM5 (fun k hk => hMw.cell (j := 0) rfl (by rw [tab_get (by omega)]; congr 1; rw [Nat.zero_add, Nat.add_zero]; exact tcell0 tt k)) (Mm.cellOld hMw (by simp) hG) (fun i hi q v h => Mm.cellOld hMw (by simp) (hcf i hi q v h))).mono fun e w' ⟨r, he, hg, hM'⟩ => ⟨r, he, hg, by have := hMw.callee0 hM'; rwa [List.append_nil] at this⟩) rfl ?_
  intro r hgood
  obtain ⟨c, st⟩ := r
  refine SL.y (OV.move rfl) rfl ?_
  refine SL.y (OV.extract rfl rfl) rfl ?_
  refine SL.y (OV.extract rfl rfl) rfl ?_
  refine SL.e (OE.alloc hi30 hz30) rfl ?_
  intro b9
  refine SL.s (OS.storeAll 2 hi30 rfl rfl rfl (by rw [hs30]; rfl) (CF.cells_one _) (by rw [hs30]; rfl)) ?_
  refine SL.y (OV.assign rfl) rfl ?_
  refine SL.nil ?_
  refine SC.then ?_
  refine SC.seq ?_
  refine SC.seq ?_
  refine SC.region ?_
  refine SL.y (OV.move rfl) rfl ?_
  refine SL.y (OV.move rfl) rfl ?_
  refine SL.callQ pf7 (args2 rfl rfl) (fun w hMw => call7 (tt := tt) (by omega) (fun k hk r v hv => hMw.cell (j := 0) rfl (by obtain ⟨h1, h2⟩ := tok_at tt k r v hv; rw [tab_get (by omega), h2])) (fun k hk r v hv => hMw.cell (j := 1) rfl (by obtain ⟨h1, h2⟩ := tok_at tt k r v hv; rw [List.getElem?_append_left (by rw [length_tab]; omega), tab_get (by omega), h2]))) rfl ?_
  refine SL.y (OV.not rfl) rfl ?_
  refine SL.nil ?_
  refine SC.then ?_
  refine SC.condF rfl ?_
  refine SC.skip ?_
  refine SC.then ?_
  cases hi37 : Ybad.prog.info? 37 with
  | none => have := info37; simp [hi37] at this
  | some i37 =>
  have h37 := info37
  simp only [hi37, Option.map_some, Option.some.injEq, Prod.mk.injEq] at h37
  obtain ⟨hz37, hs37⟩ := h37
  cases hzz : i37.zero with
  | none => simp [hzz] at hz37
  | some z37 =>
  simp [hzz] at hz37
  have hz66 : z37.cells.toList.length = 66 := by simpa using hz37
  cases hi39 : Ybad.prog.info? 39 with
  | none => have := info39; simp [hi39] at this
  | some i39 =>
  have h39 := info39
  simp only [hi39, Option.map_some, Option.some.injEq, Prod.mk.injEq] at h39
  obtain ⟨hz39, hs39⟩ := h39
  refine SC.seq ?_
  refine SC.region ?_
  refine SL.callQ pf8 args0 (fun w hMw => call8 w) rfl ?_
  refine SL.e (OE.alloc hi37 hzz) rfl ?_
  intro b11
  refine SL.s (OS.storeAll 3 hi37 rfl rfl rfl (by rw [hs37]; rfl) cells66_one (by rw [hs37]; exact hz66)) ?_
  refine SL.nil ?_
  refine SC.then ?_
  refine SC.seq ?_
  refine SC.region ?_
  refine SL.e (OE.alloc hi39 hz39) rfl ?_
  intro b12
  refine SL.nil ?_
  refine SC.then ?_
  refine SC.seq ?_
  refine SC.seq ?_
  refine SC.region ?_
  refine SL.y (OV.assign rfl) rfl ?_
  refine SL.nil ?_
  refine SC.then ?_
  refine SC.weaken ?_ ?_ (loopM (b5 := b5) (b9 := b9) (b11 := b11) (b12 := b12) (n := n) (st := st) (c := c) (tt := tt) (Mf := Mf) (fun i _ => hMf i) ?_)
  · exact (by repeat' (first | exact trivial | refine ⟨rfl, ?_⟩))
  · exact ((((List.nil_sublist _).cons_cons _).cons_cons _).cons_cons _).cons _ |>.cons_cons _
  refine SC.then ?_
  refine SC.seq ?_
  refine SC.seq ?_
  refine SC.region ?_
  refine SL.y (OV.assign rfl) rfl ?_
  refine SL.nil ?_
  refine SC.then ?_
  refine loopX hgood hM5 (by omega) ?_ ?_
  · repeat (first | refine SE.blockR ?_ | refine SE.thenR ?_)
    exact SE.ret1 Ybad.results3 rfl fun w hM => ⟨rfl, hM.below⟩
  intro hno
  have hcs : c = cf (bestf Mf 6) ∧ st = wantf Mf (bestf Mf 6) 6 := by
    rcases hgood with ⟨i, h1, h2, _⟩ | ⟨_, h2⟩
    · exact absurd h2 (hno i h1)
    · obtain ⟨h3, h4⟩ := fold6_law Mf
      simp only [Prod.mk.injEq] at h2
      exact ⟨h2.1.trans h3, h2.2.trans h4⟩
  obtain ⟨rfl, rfl⟩ := hcs
  have hb6 : bestf Mf 6 < 6 := Nat.lt_succ_of_le (bestf_lt Mf 5)
  refine SC.then ?_
  refine SC.seq ?_
  refine SC.region ?_
  refine SL.y (OV.assign rfl) rfl ?_
  refine SL.nil ?_
  refine SC.then ?_
  refine SC.seq ?_
  refine SC.seq ?_
  refine SC.region ?_
  refine SL.y (OV.assign rfl) rfl ?_
  refine SL.nil ?_
  refine SC.then ?_
  refine SC.weaken ?_ (List.Sublist.refl _) (loopB (b5 := b5) (b9 := b9) (b11 := b11) (b12 := b12) (n := n) (st := wantf Mf (bestf Mf 6) 6) (c := cf (bestf Mf 6)) (tt := tt) (Mf := Mf) hM5 ?_)
  · exact (by repeat' (first | exact trivial | refine ⟨rfl, ?_⟩))
  generalize bestf Mf 6 = b at *
  refine SC.then ?_
  refine SC.seq ?_
  refine SC.region ?_
  refine SL.y (OV.assign rfl) rfl ?_
  refine SL.nil ?_
  refine SC.then ?_
  refine SC.seq ?_
  refine SC.seq ?_
  refine SC.region ?_
  refine SL.y (OV.assign rfl) rfl ?_
  refine SL.nil ?_
  refine SC.then ?_
  refine SC.weaken ?_ (List.Sublist.refl _) (loopW (b5 := b5) (b9 := b9) (b11 := b11) (b12 := b12) (n := n) (st := wantf Mf b 6) (c := cf b) (tt := tt) (Mf := Mf) hb6 hM5 ?_)
  · exact (by repeat' (first | exact trivial | refine ⟨rfl, ?_⟩))
  refine SC.then ?_
  have hself : (wantf Mf b 6 == wantf Mf b 6) = true := by simp
  refine SC.seq ?_
  refine SC.quiet mixed (by kernel_rfl) ?_
  refine SQ.y (OV.loadAgg (vs := (cf b).cells) 1 ag30 us30 hi30 rfl rfl (by rw [hs30]; rfl) (fun q v h => by rw [Nat.zero_add]; exact h)) rfl ?_
  refine SQ.y (OV.move rfl) rfl ?_
  refine SQ.y (OV.idxArr b u37 hi36 hs36 rfl rfl rfl (by omega)) rfl ?_
  refine SQ.y (OV.fld fo36_3 rfl) rfl ?_
  refine SQ.y (OV.loadAgg (vs := (cf b).cells) 2 ag30 us30 hi30 rfl rfl (by rw [hs30]; rfl) (cells66_cf b hb6)) rfl ?_
  refine SQ.y (OV.eqlAgg guard30 rfl rfl (opEq30 (cf b))) rfl ?_
  refine SQ.y (OV.move rfl) rfl ?_
  refine SQ.yg rfl rfl (OV.move rfl) rfl ?_
  refine SQ.yg rfl rfl (OV.move rfl) rfl ?_
  refine SQ.yg rfl rfl ((OV.eqlB u4 rfl rfl).is (by rw [hself])) rfl ?_
  refine SQ.y (OV.pickT rfl rfl) rfl ?_
  refine SQ.y (OV.assign rfl) rfl ?_
  refine SQ.nil ?_
  refine SC.then ?_
  refine SC.ret ?_
  exact SE.ret1 Ybad.results3 rfl fun w hM => ⟨rfl, hM.below⟩
end Go.Proofs.YbulkdrciDoor
