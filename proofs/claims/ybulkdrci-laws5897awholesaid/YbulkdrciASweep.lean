import Derived.Test.YbulkdrciAGot
namespace Go.Proofs.Ybulkdrci.A
open Go Go.RowKit Go.Proofs.Ybulkdrci.A.Sym
set_option linter.unusedVariables false
set_option linter.unusedSimpArgs false
set_option maxRecDepth 100000

theorem u40 : Yba.prog.underlying 40 = some (.array 10 3) := by kernel_rfl
def cm10 (a b : Nat → Int) (n p : Nat) : Nat → Int := fun q => cnt (mix p a b) n q
/-- What a sweep adds. -/
def swl (a b : Nat → Int) (n p : Nat) : List (Nat → Int) := (List.range p).map fun i => cm10 a b n (i + 1)
theorem swl_succ (a b : Nat → Int) (n p : Nat) : swl a b n (p + 1) = swl a b n p ++ [cm10 a b n (p + 1)] := by
  simp [swl, List.range_succ]
theorem swl_len (a b : Nat → Int) (n p : Nat) : (swl a b n p).length = p := by simp [swl]
/-- One part moves. -/
theorem move10 {a b : Nat → Int} {n p : Nat} (hp : p < n) {i j : Nat} (hi : b p = (i : Int)) (hj : a p = (j : Int)) :
    irow 40 .i64 10 (upd (upd (cm10 a b n p) i (cm10 a b n p i - 1)) j (upd (cm10 a b n p) i (cm10 a b n p i - 1) j + 1)) = irow 40 .i64 10 (cm10 a b n (p + 1)) := irow_congr fun q hq => by
  have h := cnt_mix (a := a) (b := b) hp (q : Int)
  unfold upd cm10
  rw [h, hi, hj]
  by_cases e1 : q = j
  · by_cases e2 : q = i
    · have : j = i := by omega
      subst this
      subst e2
      simp
    · subst e1
      simp [e2]
      omega
  · by_cases e2 : q = i
    · subst e2
      simp [e1]
      omega
    · simp [e1, e2]
      omega
/-- What sweep reads. -/
structure Swp (w : World) (F : List Nat) (c2 c3 c5 bN0 bb ba bg n : Nat) (D0 : RD) (fB fA B A : Nat → Int) : Prop where
  hD : D0.n = n
  h2 : w.cell? ⟨c2, 0, none⟩ = some (.int .i64 ((n + 1 : Nat) : Int))
  h3 : w.cell? ⟨c3, 0, none⟩ = some (.slice (some ⟨bN0, 0, none⟩) (n + 1) (n + 1))
  h5 : w.cell? ⟨c5, 0, none⟩ = some (.func (.func 7) #[] #[pt bg])
  hn : w.heap[bN0]? = some (nrow D0 s0)
  hb : w.heap[bb]? = some (irow 42 .u8 (n + 1) fB)
  ha : w.heap[ba]? = some (irow 42 .u8 (n + 1) fA)
  o2 : c2 ∉ F
  o3 : c3 ∉ F
  o5 : c5 ∉ F
  oN : bN0 ∉ F
  oB : bb ∉ F
  oA : ba ∉ F
  eB : ∀ i, i < n → fB (i + 1) = B i
  eA : ∀ i, i < n → fA (i + 1) = A i
  rB : ∀ i, i < n → 0 ≤ B i ∧ B i < 10
  rA : ∀ i, i < n → 0 ≤ A i ∧ A i < 10
theorem irow_cell {w : World} {b n : Nat} {f : Nat → Int} {q : Nat} {e : TypeId} {k : IntKind} (h : w.heap[b]? = some (irow e k n f)) (hq : q < n) : w.cell? ⟨b, q, none⟩ = some (.int k (f q)) := by
  have := tab_get (f := fun q => Value.int k (f q)) hq
  simp [World.cell?, h, irow, row, this]
/-- answersAtEachCrash$2: sweep -/
theorem call22 {w : World} {c2 c3 c4 c5 bN0 bb ba bg n : Nat} {D0 : RD} {fB fA B A : Nat → Int} {gs : Option GB} {gl : List (Nat → Int)} (hn : n ≤ 2000) (hl : gl.length ≤ 5000) (hG : GOk gs gl)
    (hS : Swp w (c4 :: (GA bg gs gl).map (·.1)) c2 c3 c5 bN0 bb ba bg n D0 fB fA B A) (h : Mm w (c4 :: (GA bg gs gl).map (·.1)) ((c4, irow 40 .i64 10 (cm10 A B n 0)) :: GA bg gs gl) w) :
    Calls Yba.prog 22 #[.slice (some ⟨bb, 0, none⟩) (n + 1) (n + 1), .slice (some ⟨ba, 0, none⟩) (n + 1) (n + 1), pt c2, pt c3, pt c4, pt c5] w fun e w' => ∃ gs' : Option GB, e = .returned (.tuple #[]) ∧ GOk gs' (gl ++ swl A B n n) ∧ Mm w (c4 :: (GA bg gs gl).map (·.1)) ((c4, irow 40 .i64 10 (cm10 A B n n)) :: GA bg gs' (gl ++ swl A B n n)) w' := by
  obtain ⟨i92, hi92, hz92, hs92, hb92⟩ := info_parts info92
  obtain ⟨i40, hi, hz, hs, hb⟩ := info_parts info40
  refine Calls.of_SC (args := [.slice (some ⟨bb, 0, none⟩) (n + 1) (n + 1), .slice (some ⟨ba, 0, none⟩) (n + 1) (n + 1), pt c2, pt c3, pt c4, pt c5]) Yba.func22 rfl (by simp [Yba.f22]) h ?_
  have hend : ∀ p, p < n → w.cell? ⟨bN0, 0 + (p + 1) * 5 + 1, none⟩ = some (.int .i64 ((p + 1 + 1 : Nat) : Int)) := fun p hp => by
    have h1 := ncellAt (o := 0 + (p + 1) * 5 + 1) hS.hn (by rw [hS.hD]; omega)
    rw [h1, nc1, endOf_pos (by omega)]
  refine SC.seq ?_
  refine SC.region ?_
  refine SL.y (OV.assign rfl) rfl ?_
  refine SL.nil ?_
  refine SC.then ?_
  refine SC.block ?_
  refine SC.loopAB (fun (p : Nat) (g : Option GB) => [(8, .int .i64 ((p + 1 : Nat) : Int)), (0, .slice (some ⟨bb, 0, none⟩) (n + 1) (n + 1)), (1, .slice (some ⟨ba, 0, none⟩) (n + 1) (n + 1)), (2, pt c2), (3, pt c3), (4, pt c4), (5, pt c5)]) (fun p g => (c4, irow 40 .i64 10 (cm10 A B n p)) :: GA bg g (gl ++ swl A B n p)) (fun p g => p ≤ n ∧ GOk g (gl ++ swl A B n p)) (fun p g => n - p) 0 gs ⟨by omega, by rw [show swl A B n 0 = [] from rfl, List.append_nil]; exact hG⟩ (by repeat' (first | exact trivial | refine ⟨rfl, ?_⟩)) (by rw [show swl A B n 0 = [] from rfl, List.append_nil]; exact List.Sublist.refl _) ?_
  rintro p g ⟨hp, hg⟩
  refine SC.seq ?_
  refine SC.seq ?_
  refine SC.region ?_
  refine SL.y (OV.move rfl) rfl ?_
  refine SL.y (OV.loadOld sc3 rfl hS.o2 hS.h2) rfl ?_
  refine SL.y (OV.lss rfl rfl) rfl ?_
  refine SL.nil ?_
  refine SC.then ?_
  refine SC.condP rfl (fun hlt => ?_) (fun hge => ?_)
  · have hp' : p < n := by omega
    obtain ⟨rb1, rb2⟩ := hS.rB p hp'
    obtain ⟨ra1, ra2⟩ := hS.rA p hp'
    obtain ⟨ib, hib⟩ : ∃ ib : Nat, B p = ib := ⟨(B p).toNat, by omega⟩
    obtain ⟨ia, hia⟩ : ∃ ia : Nat, A p = ia := ⟨(A p).toNat, by omega⟩
    have hbc : w.cell? ⟨bb, p + 1, none⟩ = some (.int .u8 (B p)) := by rw [irow_cell hS.hb (by omega), hS.eB p hp']
    have hac : w.cell? ⟨ba, p + 1, none⟩ = some (.int .u8 (A p)) := by rw [irow_cell hS.ha (by omega), hS.eA p hp']
    have hc1 := cnt_nonneg (mix p A B) n ib
    have hc2 := cnt_nonneg (mix p A B) n ia
    refine SC.skip ?_
    refine SC.then ?_
    refine SC.cutG (fun g : Option GB => [(8, .int .i64 ((p + 1 : Nat) : Int)), (0, .slice (some ⟨bb, 0, none⟩) (n + 1) (n + 1)), (1, .slice (some ⟨ba, 0, none⟩) (n + 1) (n + 1)), (2, pt c2), (3, pt c3), (4, pt c4), (5, pt c5)]) (fun g => (c4, irow 40 .i64 10 (cm10 A B n (p + 1))) :: GA bg g (gl ++ swl A B n (p + 1))) (fun g => GOk g (gl ++ swl A B n (p + 1))) ?_ ?_
    · refine SC.block ?_
      refine SC.cutSt [(8, .int .i64 ((p + 1 : Nat) : Int)), (0, .slice (some ⟨bb, 0, none⟩) (n + 1) (n + 1)), (1, .slice (some ⟨ba, 0, none⟩) (n + 1) (n + 1)), (2, pt c2), (3, pt c3), (4, pt c4), (5, pt c5)] ((c4, irow 40 .i64 10 (cm10 A B n (p + 1))) :: GA bg g (gl ++ swl A B n p)) ?_ ?_
      · skip
        refine SC.seq ?_
        refine SC.region ?_
        refine SL.y (OV.move rfl) rfl ?_
        refine SL.y (OV.assign rfl) rfl ?_
        refine SL.nil ?_
        refine SC.then ?_
        refine SC.block ?_
        refine SC.loop (fun t : Bool => [(9, .int .i64 ((p + 1 + (if t then 1 else 0) : Nat) : Int)), (8, .int .i64 ((p + 1 : Nat) : Int)), (0, .slice (some ⟨bb, 0, none⟩) (n + 1) (n + 1)), (1, .slice (some ⟨ba, 0, none⟩) (n + 1) (n + 1)), (2, pt c2), (3, pt c3), (4, pt c4), (5, pt c5)]) (fun t => (c4, irow 40 .i64 10 (cm10 A B n (if t then p + 1 else p))) :: GA bg g (gl ++ swl A B n p)) (fun _ => True) (fun t => if t then 0 else 1) false trivial (by repeat' (first | exact trivial | refine ⟨rfl, ?_⟩)) (List.Sublist.refl _) ?_
        intro t _
        refine SC.seq ?_
        cases t with
        | true =>
          refine SC.seq ?_
          refine SC.region ?_
          refine SL.y (OV.move rfl) rfl ?_
          refine SL.y (OV.loadOld sc86 rfl hS.o3 hS.h3) rfl ?_
          refine SL.y (OV.move rfl) rfl ?_
          refine SL.y (OV.idx (p + 1) u86 hi92 hs92 rfl rfl rfl (by omega)) rfl ?_
          refine SL.y (OV.fld fo92_1 rfl) rfl ?_
          refine SL.y (OV.loadOld sc3 rfl hS.oN (hend p hp')) rfl ?_
          refine SL.y ((OV.lss rfl rfl).no (by show ¬ ((p + 1 + 1 : Nat) : Int) < ((p + 1 + 1 : Nat) : Int); omega)) rfl ?_
          refine SL.nil ?_
          refine SC.then ?_
          refine SC.cond rfl (fun e => by cases e) (fun _ => ?_)
          refine SC.exit ?_
          refine SE.thenE (SE.thenE (SE.inBlock ?_))
          exact SE.toSt (by repeat' (first | exact trivial | refine ⟨rfl, ?_⟩)) (List.Sublist.refl _)
        | false =>
          refine SC.weaken (env' := [(9, .int .i64 ((p + 1 : Nat) : Int)), (8, .int .i64 ((p + 1 : Nat) : Int)), (0, .slice (some ⟨bb, 0, none⟩) (n + 1) (n + 1)), (1, .slice (some ⟨ba, 0, none⟩) (n + 1) (n + 1)), (2, pt c2), (3, pt c3), (4, pt c4), (5, pt c5)]) (m' := (c4, irow 40 .i64 10 (cm10 A B n p)) :: GA bg g (gl ++ swl A B n p)) (by repeat' (first | exact trivial | refine ⟨rfl, ?_⟩)) (List.Sublist.refl _) ?_
          refine SC.seq ?_
          refine SC.region ?_
          refine SL.y (OV.move rfl) rfl ?_
          refine SL.y (OV.loadOld sc86 rfl hS.o3 hS.h3) rfl ?_
          refine SL.y (OV.move rfl) rfl ?_
          refine SL.y (OV.idx (p + 1) u86 hi92 hs92 rfl rfl rfl (by omega)) rfl ?_
          refine SL.y (OV.fld fo92_1 rfl) rfl ?_
          refine SL.y (OV.loadOld sc3 rfl hS.oN (hend p hp')) rfl ?_
          refine SL.y ((OV.lss rfl rfl).yes (by omega)) rfl ?_
          refine SL.nil ?_
          refine SC.then ?_
          refine SC.cond rfl (fun _ => ?_) (fun e => by cases e)
          refine SC.skip ?_
          refine SC.then ?_
          refine SC.cutSt [(9, .int .i64 ((p + 1 : Nat) : Int)), (8, .int .i64 ((p + 1 : Nat) : Int)), (0, .slice (some ⟨bb, 0, none⟩) (n + 1) (n + 1)), (1, .slice (some ⟨ba, 0, none⟩) (n + 1) (n + 1)), (2, pt c2), (3, pt c3), (4, pt c4), (5, pt c5)] ((c4, irow 40 .i64 10 (cm10 A B n (p + 1))) :: GA bg g (gl ++ swl A B n p)) ?_ ?_
          · refine SC.block ?_
            refine SC.seq ?_
            refine SC.region ?_
            refine SL.y (OV.move rfl) rfl ?_
            refine SL.y (OV.move rfl) rfl ?_
            refine SL.y (OV.idx1 (p + 1) u43 se43 rfl rfl rfl (by omega)) rfl ?_
            refine SL.y (OV.loadOld sc42 rfl hS.oB hbc) rfl ?_
            refine SL.y (OV.idxArr1 ib u40 sz3 rfl rfl hib (by omega)) rfl ?_
            refine SL.y (OV.loadI 0 sc3 rfl rfl (by omega)) rfl ?_
            refine SL.y (OV.sub (r := cm10 A B n p ib - 1) rfl rfl (wrap_i64 (by unfold cm10; omega) (by unfold cm10; omega))) rfl ?_
            refine SL.y (OV.idxArr1 ib u40 sz3 rfl rfl hib (by omega)) rfl ?_
            refine SL.s (OS.storeI 0 sz3 rfl rfl rfl (by omega)) ?_
            refine SL.nil ?_
            refine SC.then ?_
            refine SC.region ?_
            refine SL.y (OV.move rfl) rfl ?_
            refine SL.y (OV.move rfl) rfl ?_
            refine SL.y (OV.idx1 (p + 1) u43 se43 rfl rfl rfl (by omega)) rfl ?_
            refine SL.y (OV.loadOld sc42 rfl hS.oA hac) rfl ?_
            refine SL.y (OV.idxArr1 ia u40 sz3 rfl rfl hia (by omega)) rfl ?_
            refine SL.y (OV.loadI 0 sc3 rfl rfl (by omega)) rfl ?_
            refine SL.y (OV.add (r := upd (cm10 A B n p) ib (cm10 A B n p ib - 1) ia + 1) rfl rfl (wrap_i64 (by unfold upd cm10; split <;> omega) (by unfold upd cm10; split <;> omega))) rfl ?_
            refine SL.y (OV.idxArr1 ia u40 sz3 rfl rfl hia (by omega)) rfl ?_
            refine SL.s (OS.storeI 0 sz3 rfl rfl rfl (by omega)) ?_
            refine SL.nil ?_
            refine SE.nb (SE.toSt (by repeat' (first | exact trivial | refine ⟨rfl, ?_⟩)) ?_)
            rw [← move10 hp' hib hia]
            exact List.Sublist.refl _
          refine SC.region ?_
          refine SL.y (OV.move rfl) rfl ?_
          refine SL.y (OV.add rfl rfl (wrap_i64 (by omega) (by omega))) rfl ?_
          refine SL.y (OV.assign rfl) rfl ?_
          refine SL.nil ?_
          exact SE.round true trivial (by decide) (by repeat' (first | exact trivial | refine ⟨rfl, ?_⟩)) (List.Sublist.refl _)
      refine SC.region ?_
      refine SL.y (OV.loadOld sc41 rfl hS.o5 hS.h5) rfl ?_
      refine SL.y (OV.loadAgg (vs := c10 (cm10 A B n (p + 1))) 0 ag40 us40 hi rfl rfl (by rw [hs]; rfl) (fun q v h => by rw [Nat.zero_add]; exact h)) rfl ?_
      refine SL.callV (vs := #[.agg (c10 (cm10 A B n (p + 1))).toArray, pt bg]) (σ := GB) (V := fun _ => .tuple #[]) (M := fun g' => (c4, irow 40 .i64 10 (cm10 A B n (p + 1))) :: GA bg (some g') (gl ++ swl A B n (p + 1))) (G := fun g' => GOk (some g') (gl ++ swl A B n (p + 1))) pf7 rfl (fun ρ hρ => by rw [args1 rfl ρ hρ]; rfl) (fun w' hM => by
                have hM2 := hM.perm (List.perm_append_singleton _ _).symm
                refine (call7 (c := cm10 A B n (p + 1)) hg (by rw [List.length_append, swl_len]; omega) (Mm.start' (fun q hq => (hM2.own q (List.mem_append_left _ hq)).1) rfl (by have := hM2.nodup; rw [List.map_append, List.nodup_append] at this; exact this.1))).mono fun e w'' ⟨g', he, hok', hM'⟩ => ⟨g', he, ?_, ?_⟩
                · rw [swl_succ, ← List.append_assoc]; exact hok'
                · rw [swl_succ, ← List.append_assoc]
                  exact (Mm.calleeA hM2 hM').perm (List.perm_append_singleton _ _)) rfl ?_
      intro g' hg'
      refine SL.nil ?_
      exact SE.nb (SE.toG (some g') hg' (by repeat' (first | exact trivial | refine ⟨rfl, ?_⟩)) (List.Sublist.refl _))
    intro g' hg'
    refine SC.region ?_
    refine SL.y (OV.loadOld sc86 rfl hS.o3 hS.h3) rfl ?_
    refine SL.y (OV.move rfl) rfl ?_
    refine SL.y (OV.idx (p + 1) u86 hi92 hs92 rfl rfl rfl (by omega)) rfl ?_
    refine SL.y (OV.fld fo92_1 rfl) rfl ?_
    refine SL.y (OV.loadOld sc3 rfl hS.oN (hend p hp')) rfl ?_
    refine SL.y (OV.assign rfl) rfl ?_
    refine SL.nil ?_
    exact SE.roundAB (p + 1) g' ⟨by omega, hg'⟩ (by omega) (by repeat' (first | exact trivial | refine ⟨rfl, ?_⟩)) (List.Sublist.refl _)
  · have hpn : p = n := by omega
    subst hpn
    refine SC.exit ?_
    refine SE.thenE (SE.thenE (SE.inBlock ?_))
    exact SE.end0 Yba.results22 (fun w' hM => ⟨g, rfl, hg, hM⟩)
theorem pf22 : plainFunc Yba.prog 22 = true := by kernel_rfl
end Go.Proofs.Ybulkdrci.A
