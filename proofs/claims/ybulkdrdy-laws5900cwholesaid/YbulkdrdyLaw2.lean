import Derived.Test.YbulkdrdyLaw1
namespace Go.Proofs.Ybulkdrdy
open Go Go.RowKit Go.Proofs.Ybulkdrdy.Sym
set_option linter.unusedVariables false
set_option linter.unusedSimpArgs false

def oaddr : Option GS → Option Addr
  | none => none
  | some g => some ⟨g.blk, 0, none⟩
def ocap : Option GS → Nat
  | none => 0
  | some g => g.cap
theorem oval_eq (o : Option GS) : oval o = .slice (oaddr o) (oitems o).length (ocap o) := by cases o <;> rfl
def itOf (l : List Fd) (k : Nat) : Fd := l.getD k ⟨0, bNone⟩
theorem itOf_at (l : List Fd) (k : Nat) (h : k < l.length) : itOf l k = l[k] := by simp [itOf, h]
theorem Mm.cellIn {w0 w : World} {F : List Nat} {m : List Blk} (hM : Mm w0 F m w) {b o : Nat} {e : TypeId} {cs : List Value} {v : Value} (hm : (b, row e cs) ∈ m) (hc : cs[o]? = some v) : w.cell? ⟨b, o, none⟩ = some v := by
  obtain ⟨j, hj⟩ := List.mem_iff_getElem?.1 hm
  exact hM.cell hj hc
theorem rd_gs {w0 w : World} {F : List Nat} {m : List Blk} (hM : Mm w0 F m w) {o : Option GS} (ho : ∀ g, o = some g → gblk g ∈ m) : RdO w (oaddr o) (oitems o).length (itOf (oitems o)) := by
  intro k hk
  cases o with
  | none => simp [oitems] at hk
  | some g =>
    refine ⟨g.blk, rfl, fun q v hq => ?_⟩
    have hk' : k < g.items.length := hk
    have e : itOf (oitems (some g)) k = g.items[k] := itOf_at g.items k hk'
    rw [e] at hq
    have h1 := fcells_at g.items k hk' q v hq
    refine Mm.cellIn hM (ho g rfl) ?_
    rw [List.getElem?_append_left (List.getElem?_eq_some_iff.1 h1).1]
    exact h1
theorem gget_mem (es : Es) (s : ByteArray) (g : GS) (h : gget es s = some g) : gblk g ∈ emem es := by
  induction es with
  | nil => cases h
  | cons p r ih =>
    obtain ⟨a, u⟩ := p
    unfold gget at h
    split at h
    · cases h; exact List.mem_cons_self
    · exact List.mem_cons_of_mem _ (ih h)

/-- The clone of one path's findings. -/
def Cloned (cm : List Blk) (v : Value) (l : List Fd) : Prop := ∃ a c, v = .slice a l.length c ∧ (l.length = 0 ∨ ∃ b, a = some ⟨b, 0, none⟩ ∧ (b, row 34 (tab (l.length * 3) (fcell (itOf l)))) ∈ cm)
theorem rd_clone {w0 w : World} {F : List Nat} {m cm : List Blk} (hM : Mm w0 F m w) (hs : ∀ p ∈ cm, p ∈ m) {l : List Fd} {a : Option Addr} (h : l.length = 0 ∨ ∃ b, a = some ⟨b, 0, none⟩ ∧ (b, row 34 (tab (l.length * 3) (fcell (itOf l)))) ∈ cm) : RdO w a l.length (itOf l) := by
  intro k hk
  rcases h with h | ⟨b, e, hb⟩
  · omega
  · refine ⟨b, e, fun q v hq => ?_⟩
    obtain ⟨h1, h2⟩ := fcell_at (itOf l) k q v hq
    exact Mm.cellIn hM (hs _ hb) (by rw [tab_get (by omega), h2])
theorem Cloned.mono {cm cm' : List Blk} {v : Value} {l : List Fd} (h : Cloned cm v l) (hs : ∀ p ∈ cm, p ∈ cm') : Cloned cm' v l := by
  obtain ⟨a, c, h1, h2⟩ := h
  refine ⟨a, c, h1, ?_⟩
  rcases h2 with h2 | ⟨b, e, hb⟩
  · exact .inl h2
  · exact .inr ⟨b, e, hs _ hb⟩

theorem pf4 : plainFunc Yba.prog 4 = true := by kernel_rfl
theorem pf5 : plainFunc Yba.prog 5 = true := by kernel_rfl
theorem pf6 : plainFunc Yba.prog 6 = true := by kernel_rfl

abbrev EM (D : LD) (b5 bd b13 : Nat) (W : Option GS) : Env := [(0, .string D.path), (5, .pointer (some ⟨b5, 0, none⟩)), (7, .pointer (some ⟨bd, 0, none⟩)), (8, .slice (oaddr W) (oitems W).length (ocap W)), (13, .pointer (some ⟨b13, 0, none⟩))]
abbrev MM (D : LD) (b5 b6 bd bm b13 : Nat) (es : Es) (W : Option GS) (bv : Nat → Value) (cm : List Blk) : List Blk := (b13, row 35 (tab 3 bv)) :: BM D b5 b6 bd bm es (omem W ++ emem es ++ cm)
def bvTo (bv : Nat → Value) (k : Nat) (q : Nat) : Value := if q < k then bv q else .slice none 0 0
theorem tab_set' {n o : Nat} {f : Nat → Value} {v : Value} (h : o < n) : (tab n f).set o v = tab n (upd f o v) := tab_set h

section
variable {D : LD} {w0 : World} {Q : Exit → Act → World → Prop} {b5 b6 bd bm b13 : Nat} {es : Es} {W : Option GS}
/-- before[i] = zzs5900cclone(d.found[keys[i]]) -/
theorem loop2 (H : LH D w0) (hinv : Inv D D.n es W) (hPQ : PanicOk Q)
    (h : ∀ bv cm, (∀ i, i < 3 → Cloned cm (bv i) (filt D (keys D.path i) D.n)) → SE (Q .normal) Yba.f3.ntmps (EM D b5 bd b13 W) w0 [] (MM D b5 b6 bd bm b13 es W bv cm)) :
    SC Yba.prog (sub [1, 1, 1, 1, 1, 1, 1, 1, 0, 1] (Yba.f3.body.getD .skip)) Q Yba.f3.ntmps ((14, .int .i64 (0 : Nat)) :: EM D b5 bd b13 W) w0 [] (MM D b5 b6 bd bm b13 es W (fun _ => .slice none 0 0) []) := by
  obtain ⟨i30, hi30, hz30, hs30, hb30⟩ := info_parts info30
  have hn := H.nle
  refine SC.block ?_
  refine SC.loopAB (fun (i : Nat) (s : (Nat → Value) × List Blk) => (14, .int .i64 i) :: EM D b5 bd b13 W) (fun i s => MM D b5 b6 bd bm b13 es W (bvTo s.1 i) s.2) (fun i s => i ≤ 3 ∧ ∀ j, j < i → Cloned s.2 (s.1 j) (filt D (keys D.path j) D.n)) (fun i s => 3 - i) 0 (fun _ => .slice none 0 0, []) ⟨Nat.zero_le _, fun j hj => absurd hj (Nat.not_lt_zero j)⟩ (by repeat' (first | exact trivial | refine ⟨rfl, ?_⟩)) ?_ ?_
  · have e : bvTo (fun _ => Value.slice none 0 0) 0 = fun _ => .slice none 0 0 := by funext q; unfold bvTo; rw [if_neg (Nat.not_lt_zero q)]
    dsimp only
    rw [e]
    exact (List.Sublist.refl _)
  rintro i ⟨bv, cm⟩ ⟨hi, hcl⟩
  dsimp only at hcl ⊢
  refine SC.seq ?_
  refine SC.seq ?_
  refine SC.region ?_
  refine SL.y (OV.move rfl) rfl ?_
  refine SL.y (OV.lss rfl rfl) rfl ?_
  refine SL.nil ?_
  refine SC.then ?_
  refine SC.condP rfl (fun hlt => ?_) (fun hge => ?_)
  · have hlt' : i < 3 := by omega
    have hkey := keyCells_at D.path i hlt'
    have hlook := mget_ents es (keys D.path i)
    have hitems := hinv.items (keys D.path i)
    have hflen := filt_len D (keys D.path i) D.n
    have hmem := gget_mem es (keys D.path i)
    refine SC.skip ?_
    refine SC.then ?_
    refine SC.cutG (fun s : (Nat → Value) × List Blk => (14, .int .i64 i) :: EM D b5 bd b13 W) (fun s => MM D b5 b6 bd bm b13 es W (bvTo s.1 (i + 1)) s.2) (fun s => ∀ j, j < i + 1 → Cloned s.2 (s.1 j) (filt D (keys D.path j) D.n)) ?_ ?_
    · refine SC.block ?_
      have hstep : ∀ v : Value, upd (bvTo bv i) i v = bvTo (upd bv i v) (i + 1) := by
        intro v
        funext q
        unfold bvTo upd
        by_cases e : q = i
        · rw [if_pos e, if_pos (by omega), if_pos e]
        · rw [if_neg e]
          dsimp only
          by_cases e2 : q < i
          · rw [if_pos e2, if_pos (by omega), if_neg e]
          · rw [if_neg e2, if_neg (by omega)]
      have hnew : ∀ (v : Value) (cm' : List Blk), (∀ p ∈ cm, p ∈ cm') → Cloned cm' v (filt D (keys D.path i) D.n) → ∀ j, j < i + 1 → Cloned cm' (upd bv i v j) (filt D (keys D.path j) D.n) := by
        intro v cm' hs hv j hj
        unfold upd
        by_cases e : j = i
        · subst e; rw [if_pos rfl]; exact hv
        · rw [if_neg e]; exact (hcl j (by omega)).mono hs
      cases ho : gget es (keys D.path i) with
      | none =>
        rw [ho] at hlook hitems
        have hfz : filt D (keys D.path i) D.n = [] := hitems.symm
        refine SC.held 11 [(b5, row 23 (keyCells D.path)), (bd, row 29 (draft bm)), (bm, mobj (ents es))] [] mixed ?_
        refine SA.takeC (i := 0) (by repeat (first | exact hPQ | refine PanicOk.then ?_ | refine PanicOk.block ?_ | exact PanicOk.body)) rfl (by kernel_rfl) (by kernel_rfl) (by kernel_rfl) rfl (by first | exact List.nil_sublist _ | exact List.Sublist.refl _ | (repeat (first | exact List.Sublist.refl _ | exact List.nil_sublist _ | refine List.Sublist.cons_cons _ ?_ | refine List.Sublist.cons _ ?_))) (OV.move rfl) rfl ?_
        refine SA.takeC (i := 1) (by repeat (first | exact hPQ | refine PanicOk.then ?_ | refine PanicOk.block ?_ | exact PanicOk.body)) rfl (by kernel_rfl) (by kernel_rfl) (by kernel_rfl) rfl (by first | exact List.nil_sublist _ | exact List.Sublist.refl _ | (repeat (first | exact List.Sublist.refl _ | exact List.nil_sublist _ | refine List.Sublist.cons_cons _ ?_ | refine List.Sublist.cons _ ?_))) (OV.move rfl) rfl ?_
        refine SA.takeC (i := 2) (by repeat (first | exact hPQ | refine PanicOk.then ?_ | refine PanicOk.block ?_ | exact PanicOk.body)) rfl (by kernel_rfl) (by kernel_rfl) (by kernel_rfl) rfl (by first | exact List.nil_sublist _ | exact List.Sublist.refl _ | (repeat (first | exact List.Sublist.refl _ | exact List.nil_sublist _ | refine List.Sublist.cons_cons _ ?_ | refine List.Sublist.cons _ ?_))) (OV.nilCheck rfl) rfl ?_
        refine SA.takeC (i := 3) (by repeat (first | exact hPQ | refine PanicOk.then ?_ | refine PanicOk.block ?_ | exact PanicOk.body)) rfl (by kernel_rfl) (by kernel_rfl) (by kernel_rfl) rfl (by first | exact List.nil_sublist _ | exact List.Sublist.refl _ | (repeat (first | exact List.Sublist.refl _ | exact List.nil_sublist _ | refine List.Sublist.cons_cons _ ?_ | refine List.Sublist.cons _ ?_))) (OV.fld fo29_0 rfl) rfl ?_
        refine SA.takeA (i := 4) (by repeat (first | exact hPQ | refine PanicOk.then ?_ | refine PanicOk.block ?_ | exact PanicOk.body)) rfl (by kernel_rfl) (by kernel_rfl) (by kernel_rfl) rfl (by kernel_rfl) (by kernel_rfl) (by first | exact List.nil_sublist _ | exact List.Sublist.refl _ | (repeat (first | exact List.Sublist.refl _ | exact List.nil_sublist _ | refine List.Sublist.cons_cons _ ?_ | refine List.Sublist.cons _ ?_))) (OV.load 1 sc25 rfl rfl rfl) rfl ?_
        refine SA.takeC (i := 5) (by repeat (first | exact hPQ | refine PanicOk.then ?_ | refine PanicOk.block ?_ | exact PanicOk.body)) rfl (by kernel_rfl) (by kernel_rfl) (by kernel_rfl) rfl (by first | exact List.nil_sublist _ | exact List.Sublist.refl _ | (repeat (first | exact List.Sublist.refl _ | exact List.nil_sublist _ | refine List.Sublist.cons_cons _ ?_ | refine List.Sublist.cons _ ?_))) (OV.move rfl) rfl ?_
        refine SA.takeC (i := 6) (by repeat (first | exact hPQ | refine PanicOk.then ?_ | refine PanicOk.block ?_ | exact PanicOk.body)) rfl (by kernel_rfl) (by kernel_rfl) (by kernel_rfl) rfl (by first | exact List.nil_sublist _ | exact List.Sublist.refl _ | (repeat (first | exact List.Sublist.refl _ | exact List.nil_sublist _ | refine List.Sublist.cons_cons _ ?_ | refine List.Sublist.cons _ ?_))) (OV.idxArr1 i u23 sz9 rfl rfl rfl hlt') rfl ?_
        refine SA.takeA (i := 7) (by repeat (first | exact hPQ | refine PanicOk.then ?_ | refine PanicOk.block ?_ | exact PanicOk.body)) rfl (by kernel_rfl) (by kernel_rfl) (by kernel_rfl) rfl (by kernel_rfl) (by kernel_rfl) (by first | exact List.nil_sublist _ | exact List.Sublist.refl _ | (repeat (first | exact List.Sublist.refl _ | exact List.nil_sublist _ | refine List.Sublist.cons_cons _ ?_ | refine List.Sublist.cons _ ?_))) (OV.load 0 sc9 rfl rfl hkey) rfl ?_
        refine SA.takeA (i := 8) (by repeat (first | exact hPQ | refine PanicOk.then ?_ | refine PanicOk.block ?_ | exact PanicOk.body)) rfl (by kernel_rfl) (by kernel_rfl) (by kernel_rfl) rfl (by kernel_rfl) (by kernel_rfl) (by first | exact List.nil_sublist _ | exact List.Sublist.refl _ | (repeat (first | exact List.Sublist.refl _ | exact List.nil_sublist _ | refine List.Sublist.cons_cons _ ?_ | refine List.Sublist.cons _ ?_))) ((OV.lookupS 2 u25 u9 hi30 hz30 rfl rfl rfl).is hlook) rfl ?_
        refine SA.all (rs := [9]) (by kernel_rfl) (by simp) (all_cons ?_ (all_nil))
        · skip
          refine SO.call (σ := Unit) (V := fun _ => .slice none 0 0) (M := fun _ => MM D b5 b6 bd bm b13 es W (bvTo bv i) cm) (G := fun _ => True) rfl pf4 (args1 rfl) (fun w hM => call4nil.mono fun e w' ⟨he, hM'⟩ => ⟨(), he, trivial, by have := hM.callee0 hM'; rwa [List.append_nil] at this⟩) rfl (fun _ => (by exact ((((List.nil_sublist _).cons_cons _).cons_cons _).cons _).cons_cons _ |>.cons _)) ?_
          intro u _
          refine SA.takeC (i := 10) (by repeat (first | exact hPQ | refine PanicOk.then ?_ | refine PanicOk.block ?_ | exact PanicOk.body)) rfl (by kernel_rfl) (by kernel_rfl) (by kernel_rfl) rfl (by first | exact List.nil_sublist _ | exact List.Sublist.refl _ | (repeat (first | exact List.Sublist.refl _ | exact List.nil_sublist _ | refine List.Sublist.cons_cons _ ?_ | refine List.Sublist.cons _ ?_))) (OV.idxArr1 i u35 sz30 rfl rfl rfl hlt') rfl ?_
          refine SA.all (rs := [11]) (by kernel_rfl) (by simp) (all_cons ?_ (all_nil))
          · skip
            refine SO.s rfl (OS.store1 0 sz30 rfl rfl rfl rfl (by rw [length_tab]; exact hlt')) (by first | exact List.nil_sublist _ | exact List.Sublist.refl _ | (repeat (first | exact List.Sublist.refl _ | exact List.nil_sublist _ | refine List.Sublist.cons_cons _ ?_ | refine List.Sublist.cons _ ?_))) ?_
            refine SA.done (by kernel_rfl) ?_
            refine SE.nb (SE.toG (upd bv i (.slice none 0 0), cm) (hnew _ cm (fun p hp => hp) ⟨none, 0, by rw [hfz]; rfl, .inl (by rw [hfz]; rfl)⟩) (by repeat' (first | exact trivial | refine ⟨rfl, ?_⟩)) ?_)
            have e := tab_set' (f := bvTo bv i) (v := Value.slice none 0 0) hlt'
            rw [hstep] at e
            dsimp only
            unfold MM
            rw [← e]
            exact List.Sublist.refl _
      | some g0 =>
        rw [ho] at hlook hitems
        have hgi : g0.items = filt D (keys D.path i) D.n := hitems
        have hgb := hmem g0 ho
        refine SC.held 11 [(b5, row 23 (keyCells D.path)), (bd, row 29 (draft bm)), (bm, mobj (ents es))] [] mixed ?_
        refine SA.takeC (i := 0) (by repeat (first | exact hPQ | refine PanicOk.then ?_ | refine PanicOk.block ?_ | exact PanicOk.body)) rfl (by kernel_rfl) (by kernel_rfl) (by kernel_rfl) rfl (by first | exact List.nil_sublist _ | exact List.Sublist.refl _ | (repeat (first | exact List.Sublist.refl _ | exact List.nil_sublist _ | refine List.Sublist.cons_cons _ ?_ | refine List.Sublist.cons _ ?_))) (OV.move rfl) rfl ?_
        refine SA.takeC (i := 1) (by repeat (first | exact hPQ | refine PanicOk.then ?_ | refine PanicOk.block ?_ | exact PanicOk.body)) rfl (by kernel_rfl) (by kernel_rfl) (by kernel_rfl) rfl (by first | exact List.nil_sublist _ | exact List.Sublist.refl _ | (repeat (first | exact List.Sublist.refl _ | exact List.nil_sublist _ | refine List.Sublist.cons_cons _ ?_ | refine List.Sublist.cons _ ?_))) (OV.move rfl) rfl ?_
        refine SA.takeC (i := 2) (by repeat (first | exact hPQ | refine PanicOk.then ?_ | refine PanicOk.block ?_ | exact PanicOk.body)) rfl (by kernel_rfl) (by kernel_rfl) (by kernel_rfl) rfl (by first | exact List.nil_sublist _ | exact List.Sublist.refl _ | (repeat (first | exact List.Sublist.refl _ | exact List.nil_sublist _ | refine List.Sublist.cons_cons _ ?_ | refine List.Sublist.cons _ ?_))) (OV.nilCheck rfl) rfl ?_
        refine SA.takeC (i := 3) (by repeat (first | exact hPQ | refine PanicOk.then ?_ | refine PanicOk.block ?_ | exact PanicOk.body)) rfl (by kernel_rfl) (by kernel_rfl) (by kernel_rfl) rfl (by first | exact List.nil_sublist _ | exact List.Sublist.refl _ | (repeat (first | exact List.Sublist.refl _ | exact List.nil_sublist _ | refine List.Sublist.cons_cons _ ?_ | refine List.Sublist.cons _ ?_))) (OV.fld fo29_0 rfl) rfl ?_
        refine SA.takeA (i := 4) (by repeat (first | exact hPQ | refine PanicOk.then ?_ | refine PanicOk.block ?_ | exact PanicOk.body)) rfl (by kernel_rfl) (by kernel_rfl) (by kernel_rfl) rfl (by kernel_rfl) (by kernel_rfl) (by first | exact List.nil_sublist _ | exact List.Sublist.refl _ | (repeat (first | exact List.Sublist.refl _ | exact List.nil_sublist _ | refine List.Sublist.cons_cons _ ?_ | refine List.Sublist.cons _ ?_))) (OV.load 1 sc25 rfl rfl rfl) rfl ?_
        refine SA.takeC (i := 5) (by repeat (first | exact hPQ | refine PanicOk.then ?_ | refine PanicOk.block ?_ | exact PanicOk.body)) rfl (by kernel_rfl) (by kernel_rfl) (by kernel_rfl) rfl (by first | exact List.nil_sublist _ | exact List.Sublist.refl _ | (repeat (first | exact List.Sublist.refl _ | exact List.nil_sublist _ | refine List.Sublist.cons_cons _ ?_ | refine List.Sublist.cons _ ?_))) (OV.move rfl) rfl ?_
        refine SA.takeC (i := 6) (by repeat (first | exact hPQ | refine PanicOk.then ?_ | refine PanicOk.block ?_ | exact PanicOk.body)) rfl (by kernel_rfl) (by kernel_rfl) (by kernel_rfl) rfl (by first | exact List.nil_sublist _ | exact List.Sublist.refl _ | (repeat (first | exact List.Sublist.refl _ | exact List.nil_sublist _ | refine List.Sublist.cons_cons _ ?_ | refine List.Sublist.cons _ ?_))) (OV.idxArr1 i u23 sz9 rfl rfl rfl hlt') rfl ?_
        refine SA.takeA (i := 7) (by repeat (first | exact hPQ | refine PanicOk.then ?_ | refine PanicOk.block ?_ | exact PanicOk.body)) rfl (by kernel_rfl) (by kernel_rfl) (by kernel_rfl) rfl (by kernel_rfl) (by kernel_rfl) (by first | exact List.nil_sublist _ | exact List.Sublist.refl _ | (repeat (first | exact List.Sublist.refl _ | exact List.nil_sublist _ | refine List.Sublist.cons_cons _ ?_ | refine List.Sublist.cons _ ?_))) (OV.load 0 sc9 rfl rfl hkey) rfl ?_
        refine SA.takeA (i := 8) (by repeat (first | exact hPQ | refine PanicOk.then ?_ | refine PanicOk.block ?_ | exact PanicOk.body)) rfl (by kernel_rfl) (by kernel_rfl) (by kernel_rfl) rfl (by kernel_rfl) (by kernel_rfl) (by first | exact List.nil_sublist _ | exact List.Sublist.refl _ | (repeat (first | exact List.Sublist.refl _ | exact List.nil_sublist _ | refine List.Sublist.cons_cons _ ?_ | refine List.Sublist.cons _ ?_))) ((OV.lookupS 2 u25 u9 hi30 hz30 rfl rfl rfl).is hlook) rfl ?_
        refine SA.all (rs := [9]) (by kernel_rfl) (by simp) (all_cons ?_ (all_nil))
        · skip
          refine SO.call (σ := Nat) (V := fun nb => .slice (some ⟨nb, 0, none⟩) g0.items.length g0.items.length) (M := fun nb => MM D b5 b6 bd bm b13 es W (bvTo bv i) cm ++ [(nb, row 34 (tab (g0.items.length * 3) (fcell (itOf g0.items))))]) (G := fun _ => True) rfl pf4 (args1 rfl) (fun w hM => (call4 (by rw [hitems]; omega) (rd_gs (o := some g0) hM (fun g e => by cases e; exact List.mem_cons_of_mem _ (List.mem_cons_of_mem _ (List.mem_cons_of_mem _ (List.mem_cons_of_mem _ (List.mem_cons_of_mem _ (List.mem_append_left _ (List.mem_append_right _ hgb)))))))) ).mono fun e w' ⟨nb, he, hM'⟩ => ⟨nb, he, trivial, hM.callee0 hM'⟩) rfl (fun _ => (by exact ((((List.nil_sublist _).cons_cons _).cons_cons _).cons _).cons_cons _ |>.cons _)) ?_
          intro nb _
          refine SA.takeC (i := 10) (by repeat (first | exact hPQ | refine PanicOk.then ?_ | refine PanicOk.block ?_ | exact PanicOk.body)) rfl (by kernel_rfl) (by kernel_rfl) (by kernel_rfl) rfl (by first | exact List.nil_sublist _ | exact List.Sublist.refl _ | (repeat (first | exact List.Sublist.refl _ | exact List.nil_sublist _ | refine List.Sublist.cons_cons _ ?_ | refine List.Sublist.cons _ ?_))) (OV.idxArr1 i u35 sz30 rfl rfl rfl hlt') rfl ?_
          refine SA.all (rs := [11]) (by kernel_rfl) (by simp) (all_cons ?_ (all_nil))
          · skip
            refine SO.s rfl (OS.store1 0 sz30 rfl rfl rfl rfl (by rw [length_tab]; exact hlt')) (by first | exact List.nil_sublist _ | exact List.Sublist.refl _ | (repeat (first | exact List.Sublist.refl _ | exact List.nil_sublist _ | refine List.Sublist.cons_cons _ ?_ | refine List.Sublist.cons _ ?_))) ?_
            refine SA.done (by kernel_rfl) ?_
            refine SE.nb (SE.toG (upd bv i (.slice (some ⟨nb, 0, none⟩) g0.items.length g0.items.length), cm ++ [(nb, row 34 (tab (g0.items.length * 3) (fcell (itOf g0.items))))]) (hnew _ _ (fun p hp => List.mem_append_left _ hp) ⟨some ⟨nb, 0, none⟩, g0.items.length, by rw [hgi], .inr ⟨nb, rfl, by rw [← hgi]; simp⟩⟩) (by repeat' (first | exact trivial | refine ⟨rfl, ?_⟩)) ?_)
            have e := tab_set' (f := bvTo bv i) (v := Value.slice (some ⟨nb, 0, none⟩) g0.items.length g0.items.length) hlt'
            rw [hstep] at e
            dsimp only
            unfold MM
            rw [← e, ← List.append_assoc]
            exact List.Sublist.refl _
    rintro ⟨bv', cm'⟩ hcl'
    dsimp only at hcl' ⊢
    refine SC.region ?_
    refine SL.y (OV.move rfl) rfl ?_
    refine SL.y (OV.add rfl rfl (wrap_i64 (by omega) (by omega))) rfl ?_
    refine SL.y (OV.assign rfl) rfl ?_
    refine SL.nil ?_
    exact SE.roundAB (i + 1) (bv', cm') ⟨by omega, hcl'⟩ (by omega) (by repeat' (first | exact trivial | refine ⟨rfl, ?_⟩)) (List.Sublist.refl _)
  · have hin : i = 3 := by omega
    subst hin
    refine SC.exit ?_
    refine SE.thenE (SE.thenE (SE.inBlock ?_))
    have e : tab 3 (bvTo bv 3) = tab 3 bv := tab_congr fun q hq => by unfold bvTo; rw [if_pos hq]
    unfold MM
    rw [e]
    exact SE.weaken (by repeat' (first | exact trivial | refine ⟨rfl, ?_⟩)) (List.Sublist.refl _) (h bv cm hcl)
end
end Go.Proofs.Ybulkdrdy
