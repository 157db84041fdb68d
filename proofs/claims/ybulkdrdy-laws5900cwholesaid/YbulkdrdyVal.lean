import Derived.Test.YbulkdrdyFnd
namespace Go.Proofs.Ybulkdrdy
open Go Go.RowKit Go.Proofs.Ybulkdrdy.Sym
set_option linter.unusedVariables false
set_option linter.unusedSimpArgs false

/-- The same-texts seen, as the map holds them. -/
def seenOf (o : Option GS) : List Ent := (oitems o).map fun f => (f.same, .bool true)
def has (l : List Fd) (s : ByteArray) : Bool := l.any fun f => decide (s = f.same)
theorem has_iff (l : List Fd) (s : ByteArray) : has l s = true ↔ s ∈ l.map Fd.same := by
  unfold has
  simp only [List.any_eq_true, decide_eq_true_eq, List.mem_map]
  exact ⟨fun ⟨f, h1, h2⟩ => ⟨f, h1, h2.symm⟩, fun ⟨f, h1, h2⟩ => ⟨f, h1, h2.symm⟩⟩
theorem mget_seen (l : List Fd) (s : ByteArray) : mget (l.map fun f => (f.same, Value.bool true)) s = if has l s then some (.bool true) else none := by
  induction l with
  | nil => rfl
  | cons a r ih =>
    have e : has (a :: r) s = (decide (s = a.same) || has r s) := rfl
    simp only [List.map_cons, mget, ih, e]
    by_cases h : s = a.same
    · simp [h]
    · simp [h]
theorem mget_seen_get (o : Option GS) (s : ByteArray) : (mget (seenOf o) s).getD (.bool false) = .bool (has (oitems o) s) := by
  unfold seenOf
  rw [mget_seen]
  cases has (oitems o) s <;> rfl
theorem mset_seen (o : Option GS) (f : Fd) (h : f.same ∉ (oitems o).map Fd.same) : mset (seenOf o) f.same (.bool true) = (oitems o ++ [f]).map fun f => (f.same, Value.bool true) := by
  have hg : mget (seenOf o) f.same = none := by unfold seenOf; rw [mget_seen, if_neg (fun e => h ((has_iff _ _).1 e))]
  rw [mset_new _ _ _ hg]
  unfold seenOf
  simp

/-- What 'differing' has met after k findings. -/
structure Met (it : Nat → Fd) (k : Nat) (o : Option GS) : Prop where
  ok : OOk o
  all : ∀ j, j < k → (it j).same ∈ (oitems o).map Fd.same
  only : ∀ s ∈ (oitems o).map Fd.same, ∃ j, j < k ∧ (it j).same = s
  nodup : ((oitems o).map Fd.same).Nodup
  len : (oitems o).length ≤ k
theorem Met.zero (it : Nat → Fd) : Met it 0 none := ⟨trivial, fun j hj => absurd hj (Nat.not_lt_zero j), fun s hs => by simp [oitems] at hs, by simp [oitems], Nat.le_refl _⟩
theorem Met.old {it : Nat → Fd} {k : Nat} {o : Option GS} (h : Met it k o) (hin : (it k).same ∈ (oitems o).map Fd.same) : Met it (k + 1) o :=
  ⟨h.ok, fun j hj => by
    by_cases e : j = k
    · subst e; exact hin
    · exact h.all j (by omega), fun s hs => by
    obtain ⟨j, hj, e⟩ := h.only s hs
    exact ⟨j, by omega, e⟩, h.nodup, by have := h.len; omega⟩
theorem Met.new {it : Nat → Fd} {k : Nat} {o : Option GS} (h : Met it k o) (hin : (it k).same ∉ (oitems o).map Fd.same) {g : GS} (hg : g.Ok) (hit : g.items = oitems o ++ [it k]) : Met it (k + 1) (some g) := by
  have e : (oitems (some g)).map Fd.same = (oitems o).map Fd.same ++ [(it k).same] := by show g.items.map _ = _; rw [hit]; simp
  refine ⟨hg, fun j hj => ?_, fun s hs => ?_, ?_, ?_⟩
  · rw [e]
    by_cases ej : j = k
    · subst ej; simp
    · exact List.mem_append_left _ (h.all j (by omega))
  · rw [e] at hs
    rcases List.mem_append.1 hs with hs | hs
    · obtain ⟨j, hj, ej⟩ := h.only s hs
      exact ⟨j, by omega, ej⟩
    · simp at hs
      exact ⟨k, by omega, hs.symm⟩
  · rw [e, List.nodup_append]
    refine ⟨h.nodup, by simp, ?_⟩
    intro x hx y hy exy
    simp at hy
    subst hy
    subst exy
    exact hin hx
  · show g.items.length ≤ _
    rw [hit, List.length_append]
    have := h.len
    simp; omega
theorem Met.law {it : Nat → Fd} {n : Nat} {o : Option GS} (h : Met it n o) : (oitems o).length ≤ 1 ↔ ∀ j, j < n → (it j).same = (it 0).same := by
  have hl : ((oitems o).map Fd.same).length = (oitems o).length := by simp
  rw [← hl]
  have h1 := h.all
  have h2 := h.only
  have h3 := h.nodup
  generalize (oitems o).map Fd.same = l at *
  constructor
  · intro hle j hj
    have ha := h1 j hj
    have hb := h1 0 (by omega)
    match l, hle with
    | [], _ => cases ha
    | [x], _ =>
      simp at ha hb
      rw [ha, hb]
  · intro hall
    match l with
    | [] => simp
    | [x] => simp
    | x :: y :: r =>
      exfalso
      obtain ⟨j, hj, ej⟩ := h2 x (by simp)
      obtain ⟨j', hj', ej'⟩ := h2 y (by simp)
      have : x = y := by rw [← ej, ← ej', hall j hj, hall j' hj']
      subst this
      simp at h3

theorem GS.ok_len {g : GS} (h : g.Ok) : (fcells g.items).length = g.items.length * 3 := fcells_len _

/-- differing -/
theorem call7 {w : World} {a : Option Addr} {n c : Nat} {it : Nat → Fd} (hn : n ≤ 2000000) (hr : RdO w a n it) :
    Calls Yba.prog 7 #[.slice a n c] w fun e w' => ∃ r : Option Addr × Nat × Nat, e = .returned (.slice r.1 r.2.1 r.2.2) ∧ (r.2.1 ≤ n ∧ (r.2.1 ≤ 1 ↔ ∀ j, j < n → (it j).same = (it 0).same)) ∧ Mm w [] [] w' := by
  obtain ⟨i, hi, hz0, hz1, hz2⟩ := info_parts info34
  obtain ⟨i4, hi4, hz40, hz41, hz42⟩ := info_parts info4
  refine Calls.of_SC (args := [.slice a n c]) Yba.func7 rfl (by simp [Yba.f7]) (Mm.start w) ?_
  refine SC.seq ?_
  refine SC.region ?_
  refine SL.y (OV.assign rfl) rfl ?_
  refine SL.nil ?_
  refine SC.then ?_
  refine SC.seq ?_
  refine SC.region ?_
  refine SL.y (OV.assign rfl) rfl ?_
  refine SL.nil ?_
  refine SC.then ?_
  refine SC.seq ?_
  refine SC.region ?_
  refine SL.e (OE.makeMap) rfl ?_
  intro bs
  refine SL.y (OV.assign rfl) rfl ?_
  refine SL.nil ?_
  refine SC.then ?_
  refine SC.seq ?_
  refine SC.seq ?_
  refine SC.region ?_
  refine SL.y (OV.move rfl) rfl ?_
  refine SL.y (OV.len u30 rfl) rfl ?_
  refine SL.y (OV.move rfl) rfl ?_
  refine SL.nil ?_
  refine SC.then ?_
  refine SC.block ?_
  refine SC.loopAB (fun (k : Nat) (o : Option GS) => [(3, oval o), (4, .map (some bs)), (8, .slice a n c), (9, .int .i64 n), (10, .int .i64 k)]) (fun k o => (bs, mobj (seenOf o)) :: omem o) (fun k o => k ≤ n ∧ Met it k o) (fun k o => n - k) 0 none ⟨Nat.zero_le _, Met.zero it⟩ (by repeat' (first | exact trivial | refine ⟨rfl, ?_⟩)) (List.Sublist.refl _) ?_
  rintro k o ⟨hk, hmet⟩
  refine SC.seq ?_
  refine SC.region ?_
  refine SL.y (OV.lss rfl rfl) rfl ?_
  refine SL.nil ?_
  refine SC.then ?_
  refine SC.seq ?_
  refine SC.condP rfl (fun hlt => ?_) (fun hge => ?_)
  · have hlt' : k < n := by omega
    obtain ⟨b, rfl, hcell⟩ := hr k hlt'
    refine SC.skip ?_
    refine SC.then ?_
    refine SC.cutG (fun o' : Option GS => [(3, oval o'), (4, .map (some bs)), (8, .slice (some ⟨b, 0, none⟩) n c), (9, .int .i64 n), (10, .int .i64 k)]) (fun o' => (bs, mobj (seenOf o')) :: omem o') (fun o' => Met it (k + 1) o') ?_ ?_
    · refine SC.block ?_
      have hlen := hmet.len
      have hok := hmet.ok
      cases o with
      | none =>
        have hnot : (it k).same ∉ (oitems none).map Fd.same := by simp [oitems]
        have hms := mset_seen none (it k) hnot
        refine SC.seq ?_
        refine SC.region ?_
        refine SL.y (OV.idx k u30 hi hz1 rfl rfl rfl (by omega)) rfl ?_
        refine SL.y (OV.loadAggOld (vs := (it k).cells) ag34 us34 hi rfl (by simp) (by rw [hz1]; rfl) hcell) rfl ?_
        refine SL.e (OE.alloc hi hz0) rfl ?_
        intro b6
        refine SL.s (OS.storeAll 1 hi rfl rfl rfl (by rw [hz1]; rfl) (Fd.cells_one _) (by rw [hz1]; rfl)) ?_
        refine SL.nil ?_
        refine SC.then ?_
        refine SC.seq ?_
        refine SC.region ?_
        refine SL.y (OV.move rfl) rfl ?_
        refine SL.y (OV.fld fo34_1 rfl) rfl ?_
        refine SL.y (OV.load 1 sc9 rfl rfl rfl) rfl ?_
        refine SL.y ((OV.lookupS 0 u41 u9 hi4 hz40 rfl rfl rfl).is (mget_seen_get none (it k).same)) rfl ?_
        refine SL.y (OV.not rfl) rfl ?_
        refine SL.nil ?_
        refine SC.then ?_
        refine SC.condT rfl ?_
        refine SC.held 8 [(bs, mobj (seenOf none)), (b6, row 34 (it k).cells)] [] mixed ?_
        refine SA.takeC (i := 0) (by repeat (first | exact hPQ | refine PanicOk.then ?_ | refine PanicOk.block ?_ | exact PanicOk.body)) rfl (by kernel_rfl) (by kernel_rfl) (by kernel_rfl) rfl (by first | exact List.nil_sublist _ | exact List.Sublist.refl _ | (repeat (first | exact List.Sublist.refl _ | exact List.nil_sublist _ | refine List.Sublist.cons_cons _ ?_ | refine List.Sublist.cons _ ?_))) (OV.move rfl) rfl ?_
        refine SA.takeC (i := 1) (by repeat (first | exact hPQ | refine PanicOk.then ?_ | refine PanicOk.block ?_ | exact PanicOk.body)) rfl (by kernel_rfl) (by kernel_rfl) (by kernel_rfl) rfl (by first | exact List.nil_sublist _ | exact List.Sublist.refl _ | (repeat (first | exact List.Sublist.refl _ | exact List.nil_sublist _ | refine List.Sublist.cons_cons _ ?_ | refine List.Sublist.cons _ ?_))) (OV.fld fo34_1 rfl) rfl ?_
        refine SA.takeA (i := 2) (by repeat (first | exact hPQ | refine PanicOk.then ?_ | refine PanicOk.block ?_ | exact PanicOk.body)) rfl (by kernel_rfl) (by kernel_rfl) (by kernel_rfl) rfl (by kernel_rfl) (by kernel_rfl) (by first | exact List.nil_sublist _ | exact List.Sublist.refl _ | (repeat (first | exact List.Sublist.refl _ | exact List.nil_sublist _ | refine List.Sublist.cons_cons _ ?_ | refine List.Sublist.cons _ ?_))) (OV.load 1 sc9 rfl rfl rfl) rfl ?_
        refine SA.takeC (i := 3) (by repeat (first | exact hPQ | refine PanicOk.then ?_ | refine PanicOk.block ?_ | exact PanicOk.body)) rfl (by kernel_rfl) (by kernel_rfl) (by kernel_rfl) rfl (by first | exact List.nil_sublist _ | exact List.Sublist.refl _ | (repeat (first | exact List.Sublist.refl _ | exact List.nil_sublist _ | refine List.Sublist.cons_cons _ ?_ | refine List.Sublist.cons _ ?_))) (OV.move rfl) rfl ?_
        refine SA.takeA (i := 4) (by repeat (first | exact hPQ | refine PanicOk.then ?_ | refine PanicOk.block ?_ | exact PanicOk.body)) rfl (by kernel_rfl) (by kernel_rfl) (by kernel_rfl) rfl (by kernel_rfl) (by kernel_rfl) (by first | exact List.nil_sublist _ | exact List.Sublist.refl _ | (repeat (first | exact List.Sublist.refl _ | exact List.nil_sublist _ | refine List.Sublist.cons_cons _ ?_ | refine List.Sublist.cons _ ?_))) (OV.loadAgg (vs := (it k).cells) 1 ag34 us34 hi rfl rfl (by rw [hz1]; rfl) (fun q v h => by rw [Nat.zero_add]; exact h)) rfl ?_
        refine SA.all (rs := [5]) (by kernel_rfl) (by simp) (all_cons ?_ (all_nil))
        · skip
          refine SO.e rfl (OE.bsliceN (s := 3) (cs := (it k).cells.toArray) u30 hi hz0 hz1 (by decide) (by decide) (parts1 rfl) (fill34 _ _ _)) rfl (fun _ => (by first | exact List.nil_sublist _ | exact List.Sublist.refl _ | (repeat (first | exact List.Sublist.refl _ | exact List.nil_sublist _ | refine List.Sublist.cons_cons _ ?_ | refine List.Sublist.cons _ ?_)))) ?_
          intro nb
          refine SA.all (rs := [6]) (by kernel_rfl) (by simp) (all_cons ?_ (all_nil))
          · skip
            refine SO.e rfl (OE.appN (ys := (it k).cells) u30 hi hz0 hz1 rfl rfl rfl (Src.own0 2 rfl) rfl (Fd.cells_one _) (by rw [hz2]; omega)) rfl (fun _ => (by first | exact List.nil_sublist _ | exact List.Sublist.refl _ | (repeat (first | exact List.Sublist.refl _ | exact List.nil_sublist _ | refine List.Sublist.cons_cons _ ?_ | refine List.Sublist.cons _ ?_)))) ?_
            intro st
            refine SA.takeC (i := 7) (by repeat (first | exact hPQ | refine PanicOk.then ?_ | refine PanicOk.block ?_ | exact PanicOk.body)) rfl (by kernel_rfl) (by kernel_rfl) (by kernel_rfl) rfl (by first | exact List.nil_sublist _ | exact List.Sublist.refl _ | (repeat (first | exact List.Sublist.refl _ | exact List.nil_sublist _ | refine List.Sublist.cons_cons _ ?_ | refine List.Sublist.cons _ ?_))) (OV.assign rfl) rfl ?_
            refine SA.all (rs := [8]) (by kernel_rfl) (by simp) (all_cons ?_ (all_nil))
            · skip
              refine SO.s rfl (OS.mapUpdate 1 u41 u9 rfl rfl rfl rfl rfl) (by first | exact List.nil_sublist _ | exact List.Sublist.refl _ | (repeat (first | exact List.Sublist.refl _ | exact List.nil_sublist _ | refine List.Sublist.cons_cons _ ?_ | refine List.Sublist.cons _ ?_))) ?_
              refine SA.done (by kernel_rfl) ?_
              rw [hms]
              refine SE.nb (SE.perm (List.Perm.swap _ _ _) (SE.toG (some ⟨st.1.1, st.1.2.1, [it k], st.1.2.2⟩) ?_ (by repeat' (first | exact trivial | refine ⟨rfl, ?_⟩)) ((List.nil_sublist _).cons_cons _ |>.cons_cons _)))
              exact hmet.new hnot ⟨by simp, st.2.1, by have := st.2.2.2; exact this⟩ rfl
      | some g =>
        by_cases hin : (it k).same ∈ (oitems (some g)).map Fd.same
        · skip
          refine SC.seq ?_
          refine SC.region ?_
          refine SL.y (OV.idx k u30 hi hz1 rfl rfl rfl (by omega)) rfl ?_
          refine SL.y (OV.loadAggOld (vs := (it k).cells) ag34 us34 hi rfl (by simp) (by rw [hz1]; rfl) hcell) rfl ?_
          refine SL.e (OE.alloc hi hz0) rfl ?_
          intro b6
          refine SL.s (OS.storeAll 2 hi rfl rfl rfl (by rw [hz1]; rfl) (Fd.cells_one _) (by rw [hz1]; rfl)) ?_
          refine SL.nil ?_
          refine SC.then ?_
          refine SC.seq ?_
          refine SC.region ?_
          refine SL.y (OV.move rfl) rfl ?_
          refine SL.y (OV.fld fo34_1 rfl) rfl ?_
          refine SL.y (OV.load 2 sc9 rfl rfl rfl) rfl ?_
          refine SL.y ((OV.lookupS 0 u41 u9 hi4 hz40 rfl rfl rfl).is ((mget_seen_get (some g) (it k).same).trans (by rw [(has_iff _ _).2 hin]))) rfl ?_
          refine SL.y (OV.not rfl) rfl ?_
          refine SL.nil ?_
          refine SC.then ?_
          refine SC.condF rfl ?_
          refine SC.skip ?_
          exact SE.nb (SE.toG (some g) (hmet.old hin) (by repeat' (first | exact trivial | refine ⟨rfl, ?_⟩)) ((List.nil_sublist _).cons_cons _ |>.cons_cons _))
        · have hms := mset_seen (some g) (it k) hin
          have hg : g.Ok := hok
          have hlen' : g.items.length ≤ k := hlen
          refine SC.seq ?_
          refine SC.region ?_
          refine SL.y (OV.idx k u30 hi hz1 rfl rfl rfl (by omega)) rfl ?_
          refine SL.y (OV.loadAggOld (vs := (it k).cells) ag34 us34 hi rfl (by simp) (by rw [hz1]; rfl) hcell) rfl ?_
          refine SL.e (OE.alloc hi hz0) rfl ?_
          intro b6
          refine SL.s (OS.storeAll 2 hi rfl rfl rfl (by rw [hz1]; rfl) (Fd.cells_one _) (by rw [hz1]; rfl)) ?_
          refine SL.nil ?_
          refine SC.then ?_
          refine SC.seq ?_
          refine SC.region ?_
          refine SL.y (OV.move rfl) rfl ?_
          refine SL.y (OV.fld fo34_1 rfl) rfl ?_
          refine SL.y (OV.load 2 sc9 rfl rfl rfl) rfl ?_
          refine SL.y ((OV.lookupS 0 u41 u9 hi4 hz40 rfl rfl rfl).is ((mget_seen_get (some g) (it k).same).trans (by rw [Bool.eq_false_iff.2 (fun e => hin ((has_iff _ _).1 e))]))) rfl ?_
          refine SL.y (OV.not rfl) rfl ?_
          refine SL.nil ?_
          refine SC.then ?_
          refine SC.condT rfl ?_
          refine SC.held 8 [(bs, mobj (seenOf (some g))), (b6, row 34 (it k).cells)] [] mixed ?_
          refine SA.takeC (i := 0) (by repeat (first | exact hPQ | refine PanicOk.then ?_ | refine PanicOk.block ?_ | exact PanicOk.body)) rfl (by kernel_rfl) (by kernel_rfl) (by kernel_rfl) rfl (by first | exact List.nil_sublist _ | exact List.Sublist.refl _ | (repeat (first | exact List.Sublist.refl _ | exact List.nil_sublist _ | refine List.Sublist.cons_cons _ ?_ | refine List.Sublist.cons _ ?_))) (OV.move rfl) rfl ?_
          refine SA.takeC (i := 1) (by repeat (first | exact hPQ | refine PanicOk.then ?_ | refine PanicOk.block ?_ | exact PanicOk.body)) rfl (by kernel_rfl) (by kernel_rfl) (by kernel_rfl) rfl (by first | exact List.nil_sublist _ | exact List.Sublist.refl _ | (repeat (first | exact List.Sublist.refl _ | exact List.nil_sublist _ | refine List.Sublist.cons_cons _ ?_ | refine List.Sublist.cons _ ?_))) (OV.fld fo34_1 rfl) rfl ?_
          refine SA.takeA (i := 2) (by repeat (first | exact hPQ | refine PanicOk.then ?_ | refine PanicOk.block ?_ | exact PanicOk.body)) rfl (by kernel_rfl) (by kernel_rfl) (by kernel_rfl) rfl (by kernel_rfl) (by kernel_rfl) (by first | exact List.nil_sublist _ | exact List.Sublist.refl _ | (repeat (first | exact List.Sublist.refl _ | exact List.nil_sublist _ | refine List.Sublist.cons_cons _ ?_ | refine List.Sublist.cons _ ?_))) (OV.load 1 sc9 rfl rfl rfl) rfl ?_
          refine SA.takeC (i := 3) (by repeat (first | exact hPQ | refine PanicOk.then ?_ | refine PanicOk.block ?_ | exact PanicOk.body)) rfl (by kernel_rfl) (by kernel_rfl) (by kernel_rfl) rfl (by first | exact List.nil_sublist _ | exact List.Sublist.refl _ | (repeat (first | exact List.Sublist.refl _ | exact List.nil_sublist _ | refine List.Sublist.cons_cons _ ?_ | refine List.Sublist.cons _ ?_))) (OV.move rfl) rfl ?_
          refine SA.takeA (i := 4) (by repeat (first | exact hPQ | refine PanicOk.then ?_ | refine PanicOk.block ?_ | exact PanicOk.body)) rfl (by kernel_rfl) (by kernel_rfl) (by kernel_rfl) rfl (by kernel_rfl) (by kernel_rfl) (by first | exact List.nil_sublist _ | exact List.Sublist.refl _ | (repeat (first | exact List.Sublist.refl _ | exact List.nil_sublist _ | refine List.Sublist.cons_cons _ ?_ | refine List.Sublist.cons _ ?_))) (OV.loadAgg (vs := (it k).cells) 1 ag34 us34 hi rfl rfl (by rw [hz1]; rfl) (fun q v h => by rw [Nat.zero_add]; exact h)) rfl ?_
          refine SA.all (rs := [5]) (by kernel_rfl) (by simp) (all_cons ?_ (all_nil))
          · skip
            refine SO.e rfl (OE.bsliceN (s := 3) (cs := (it k).cells.toArray) u30 hi hz0 hz1 (by decide) (by decide) (parts1 rfl) (fill34 _ _ _)) rfl (fun _ => (by first | exact List.nil_sublist _ | exact List.Sublist.refl _ | (repeat (first | exact List.Sublist.refl _ | exact List.nil_sublist _ | refine List.Sublist.cons_cons _ ?_ | refine List.Sublist.cons _ ?_)))) ?_
            intro nb
            refine SA.all (rs := [6]) (by kernel_rfl) (by simp) (all_cons ?_ (all_nil))
            · skip
              refine SO.e rfl (OE.appG (cs := fcells g.items) (sp := g.sp) (ys := (it k).cells) u30 hi hz0 hz1 rfl rfl rfl (List.Perm.swap _ _ _) (Src.own0 3 rfl) rfl (Fd.cells_one _) (fcells_len _) hg.len hg.cap (by unfold maxLen; omega) (by rw [hz2]; omega)) rfl (fun _ => (by first | exact List.nil_sublist _ | exact List.Sublist.refl _ | (repeat (first | exact List.Sublist.refl _ | exact List.nil_sublist _ | refine List.Sublist.cons_cons _ ?_ | refine List.Sublist.cons _ ?_)))) ?_
              intro st
              refine SA.takeC (i := 7) (by repeat (first | exact hPQ | refine PanicOk.then ?_ | refine PanicOk.block ?_ | exact PanicOk.body)) rfl (by kernel_rfl) (by kernel_rfl) (by kernel_rfl) rfl (by first | exact List.nil_sublist _ | exact List.Sublist.refl _ | (repeat (first | exact List.Sublist.refl _ | exact List.nil_sublist _ | refine List.Sublist.cons_cons _ ?_ | refine List.Sublist.cons _ ?_))) (OV.assign rfl) rfl ?_
              refine SA.all (rs := [8]) (by kernel_rfl) (by simp) (all_cons ?_ (all_nil))
              · skip
                refine SO.s rfl (OS.mapUpdate 1 u41 u9 rfl rfl rfl rfl rfl) (by first | exact List.nil_sublist _ | exact List.Sublist.refl _ | (repeat (first | exact List.Sublist.refl _ | exact List.nil_sublist _ | refine List.Sublist.cons_cons _ ?_ | refine List.Sublist.cons _ ?_))) ?_
                refine SA.done (by kernel_rfl) ?_
                rw [hms]
                refine SE.nb (SE.perm (List.Perm.swap _ _ _) (SE.toG (some ⟨st.1.1, st.1.2.1, g.items ++ [it k], st.1.2.2⟩) ?_ ?_ ?_))
                · exact hmet.new hin ⟨by simp, st.2.1, by have := st.2.2.2; rw [fcells_snoc]; exact this⟩ rfl
                · refine ⟨?_, rfl, rfl, rfl, rfl, trivial⟩
                  show some (Value.slice _ (g.items.length + 1) _) = some (Value.slice _ (g.items ++ [it k]).length _)
                  simp
                · show List.Sublist [(bs, mobj ((g.items ++ [it k]).map fun f => (f.same, Value.bool true))), (st.1.1, row 34 (fcells (g.items ++ [it k]) ++ st.1.2.2))] _
                  rw [fcells_snoc]
                  exact ((List.nil_sublist _).cons_cons _ |>.cons_cons _)
    intro o' ho'
    refine SC.region ?_
    refine SL.y (OV.add rfl rfl (wrap_i64 (by omega) (by omega))) rfl ?_
    refine SL.y (OV.move rfl) rfl ?_
    refine SL.nil ?_
    exact SE.roundAB (k + 1) o' ⟨by omega, ho'⟩ (by omega) (by repeat' (first | exact trivial | refine ⟨rfl, ?_⟩)) (List.Sublist.refl _)
  · have hkn : k = n := by omega
    subst hkn
    refine SC.exit ?_
    refine SE.thenE (SE.thenE (SE.inBlock ?_))
    refine SC.then ?_
    refine SC.seq ?_
    refine SC.region ?_
    refine SL.y (OV.move rfl) rfl ?_
    refine SL.y (OV.assign rfl) rfl ?_
    refine SL.nil ?_
    refine SC.then ?_
    refine SC.ret ?_
    cases o with
    | none => exact SE.ret1 Yba.results7 rfl (fun w' hM => ⟨(none, 0, 0), rfl, ⟨Nat.zero_le _, hmet.law⟩, hM.weaken (List.nil_sublist _)⟩)
    | some g => exact SE.ret1 Yba.results7 rfl (fun w' hM => ⟨(some ⟨g.blk, 0, none⟩, g.items.length, g.cap), rfl, ⟨hmet.len, hmet.law⟩, hM.weaken (List.nil_sublist _)⟩)
end Go.Proofs.Ybulkdrdy
