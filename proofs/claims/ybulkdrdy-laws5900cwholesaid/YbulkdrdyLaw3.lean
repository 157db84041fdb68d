import Derived.Test.YbulkdrdyLaw2
namespace Go.Proofs.Ybulkdrdy
open Go Go.RowKit Go.Proofs.Ybulkdrdy.Sym
set_option linter.unusedVariables false
set_option linter.unusedSimpArgs false

section
variable {P : Program} {w0 : World} {F : List Nat} {env : Env} {m : List Blk} {d : Option Nat} {ty : TypeId} {pos : String} {af : Array Edge} {g : Option (Nat × Bool)} {x y : Operand} {T T' : TypeId}
theorem neqI {t t' : TypeId} {v v' : Value} {r : Bool} (hx : ev env x = some (.iface t v)) (hy : ev env y = some (.iface t' v')) (hr : ∀ w, (Op.equal T (.iface t v) (.iface t' v')).run P w = .ok r w) :
    OV P env w0 F m ⟨d, .binOp .neq T x y T', ty, pos, af, g⟩ (.bool (!r)) := ⟨fun A w hE hM => by simp [execOp, hE x _ hx, hE y _ hy, eqGuard, binOp, hr]⟩
theorem neqNilI {ms : Array (String × TypeId)} (hT : P.underlying T = some (.interface ms)) (hx : ev env x = some .nilIface) :
    OV P env w0 F m ⟨d, .binOp .neq T x (.const .nilIface) T', ty, pos, af, g⟩ (.bool false) := ⟨fun A w hE hM => by
  have hc : A.eval (.const .nilIface) = .nilIface := rfl
  have hr : (Op.equal T .nilIface .nilIface).run P w = .ok true w := by
    have : (Op.equalIn (9999 + 1) T .nilIface .nilIface).run P w = .ok true w := by
      unfold Op.equalIn
      simp [run_underlying hT]
    exact this
  simp [execOp, hE x _ hx, hc, eqGuard, binOp, hr]⟩
end

/-- wantOK after i findings. -/
def wkf (it : Nat → Fd) (n : Nat) : Nat → Bool
  | 0 => decide (0 < n)
  | i + 1 => if (it i).same ≠ (it 0).same then false else wkf it n i
theorem wkf_iff (it : Nat → Fd) (n i : Nat) : wkf it n i = true ↔ 0 < n ∧ ∀ j, j < i → (it j).same = (it 0).same := by
  induction i with
  | zero => simp [wkf]
  | succ i ih =>
    unfold wkf
    by_cases h : (it i).same = (it 0).same
    · rw [if_neg (fun hn => hn h), ih]
      constructor
      · rintro ⟨h1, h2⟩
        refine ⟨h1, fun j hj => ?_⟩
        by_cases e : j = i
        · subst e; exact h
        · exact h2 j (by omega)
      · rintro ⟨h1, h2⟩
        exact ⟨h1, fun j hj => h2 j (by omega)⟩
    · rw [if_pos h]
      constructor
      · intro e; cases e
      · rintro ⟨_, h2⟩; exact absurd (h2 i (by omega)) h
theorem wkf_one (it : Nat → Fd) (n : Nat) : wkf it n 1 = decide (0 < n) := by
  show (if (it 0).same ≠ (it 0).same then false else decide (0 < n)) = _
  rw [if_neg (fun h => h rfl)]

section
variable {D : LD} {w0 : World} {Q : Exit → Act → World → Prop} {b5 b6 bd bm b13 : Nat} {es : Es} {W : Option GS} {bv : Nat → Value} {cm : List Blk} {v16 : Value} {b17 : Bool}
abbrev EW (D : LD) (b5 bd b13 : Nat) (W : Option GS) (nf : Nat) (v16 : Value) (b17 : Bool) : Env := (15, .int .i64 nf) :: (16, v16) :: (17, .bool b17) :: EM D b5 bd b13 W
/-- wantOK -/
theorem loop4 {nf : Nat} (H : LH D w0) (hinv : Inv D D.n es W)
    (h : SE (Q .normal) Yba.f3.ntmps ((18, .bool (decide (0 < (oitems W).length) && wkf (itOf (oitems W)) (oitems W).length (oitems W).length)) :: EW D b5 bd b13 W nf v16 b17) w0 [] (MM D b5 b6 bd bm b13 es W bv cm)) :
    SC Yba.prog (sub [1, 1, 1, 1, 1, 1, 1, 1, 1, 1, 1, 1, 0, 1] (Yba.f3.body.getD .skip)) Q Yba.f3.ntmps ((18, .bool (decide (0 < (oitems W).length))) :: (19, .int .i64 (1 : Nat)) :: EW D b5 bd b13 W nf v16 b17) w0 [] (MM D b5 b6 bd bm b13 es W bv cm) := by
  obtain ⟨i34, hi34, hz34, hs34, hb34⟩ := info_parts info34
  have hwl : (oitems W).length ≤ 1048576 := by rw [hinv.want]; have := filt_len D D.path D.n; have := H.nle; omega
  refine SC.block ?_
  refine SC.loop (fun i : Nat => (18, .bool (wkf (itOf (oitems W)) (oitems W).length i)) :: (19, .int .i64 i) :: EW D b5 bd b13 W nf v16 b17) (fun i => MM D b5 b6 bd bm b13 es W bv cm) (fun i => 1 ≤ i ∧ (i ≤ (oitems W).length ∨ i = 1)) (fun i => (oitems W).length + 1 - i) 1 ⟨Nat.le_refl _, .inr rfl⟩ ?_ (List.Sublist.refl _) ?_
  · rw [wkf_one]
    exact (by repeat' (first | exact trivial | refine ⟨rfl, ?_⟩))
  rintro i ⟨hi1, hi⟩
  refine SC.seq ?_
  refine SC.seq ?_
  refine SC.region ?_
  refine SL.y (OV.move rfl) rfl ?_
  refine SL.y (OV.move rfl) rfl ?_
  refine SL.y (OV.len u30 rfl) rfl ?_
  refine SL.y (OV.lss rfl rfl) rfl ?_
  refine SL.nil ?_
  refine SC.then ?_
  refine SC.condP rfl (fun hlt => ?_) (fun hge => ?_)
  · have hlt' : i < (oitems W).length := by omega
    refine SC.skip ?_
    refine SC.then ?_
    refine SC.seq ?_
    refine SC.block ?_
    cases W with
    | none => simp [oitems] at hlt'
    | some gw =>
    have hlt2 : i < gw.items.length := hlt'
    have hmem : (gw.blk, gw.obj) ∈ MM D b5 b6 bd bm b13 es (some gw) bv cm := List.mem_cons_of_mem _ (List.mem_cons_of_mem _ (List.mem_cons_of_mem _ (List.mem_cons_of_mem _ (List.mem_cons_of_mem _ (List.mem_append_left _ (List.mem_append_left _ List.mem_cons_self))))))
    obtain ⟨j, hj⟩ := List.mem_iff_getElem?.1 hmem
    have hat : ∀ k, k < gw.items.length → (fcells gw.items ++ gw.sp)[0 + k * 3 + 1]? = some (.string (itOf gw.items k).same) := by
      intro k hk
      have h1 := fcells_at gw.items k hk 1 (.string (gw.items[k]).same) rfl
      rw [List.getElem?_append_left (List.getElem?_eq_some_iff.1 h1).1, h1, itOf_at gw.items k hk]
    refine SC.seq ?_
    refine SC.quiet mixed (by kernel_rfl) ?_
    refine SQ.y (OV.move rfl) rfl ?_
    refine SQ.y (OV.move rfl) rfl ?_
    refine SQ.y (OV.idx i u30 hi34 hs34 rfl rfl rfl (by omega)) rfl ?_
    refine SQ.y (OV.fld fo34_1 rfl) rfl ?_
    refine SQ.y (OV.load j sc9 rfl hj (hat i hlt2)) rfl ?_
    refine SQ.y (OV.move rfl) rfl ?_
    refine SQ.y (OV.idx 0 u30 hi34 hs34 rfl rfl rfl (by omega)) rfl ?_
    refine SQ.y (OV.fld fo34_1 rfl) rfl ?_
    refine SQ.y (OV.load j sc9 rfl hj (hat 0 (by omega))) rfl ?_
    refine SQ.y (OV.neqS rfl rfl) rfl ?_
    refine SQ.nil ?_
    refine SC.then ?_
    refine SC.condP rfl (fun hne => ?_) (fun heq => ?_)
    · skip
      refine SC.region ?_
      refine SL.y (OV.assign rfl) rfl ?_
      refine SL.nil ?_
      refine SE.nb ?_
      refine SC.then ?_
      refine SC.region ?_
      refine SL.y (OV.move rfl) rfl ?_
      refine SL.y (OV.add rfl rfl (wrap_i64 (by omega) (by omega))) rfl ?_
      refine SL.y (OV.assign rfl) rfl ?_
      refine SL.nil ?_
      refine SE.round (i + 1) ⟨by omega, .inl (by omega)⟩ (by omega) ?_ (List.Sublist.refl _)
      have e : wkf (itOf (oitems (some gw))) (oitems (some gw)).length (i + 1) = false := by
        exact if_pos hne
      rw [e]
      exact (by repeat' (first | exact trivial | refine ⟨rfl, ?_⟩))
    · refine SC.skip ?_
      refine SE.nb ?_
      refine SC.then ?_
      refine SC.region ?_
      refine SL.y (OV.move rfl) rfl ?_
      refine SL.y (OV.add rfl rfl (wrap_i64 (by omega) (by omega))) rfl ?_
      refine SL.y (OV.assign rfl) rfl ?_
      refine SL.nil ?_
      refine SE.round (i + 1) ⟨by omega, .inl (by omega)⟩ (by omega) ?_ (List.Sublist.refl _)
      have e : wkf (itOf (oitems (some gw))) (oitems (some gw)).length (i + 1) = wkf (itOf (oitems (some gw))) (oitems (some gw)).length i := by
        exact if_neg heq
      rw [e]
      exact (by repeat' (first | exact trivial | refine ⟨rfl, ?_⟩))
  · refine SC.exit ?_
    refine SE.thenE (SE.thenE (SE.inBlock ?_))
    refine SE.weaken ?_ (List.Sublist.refl _) h
    have e : (decide (0 < (oitems W).length) && wkf (itOf (oitems W)) (oitems W).length (oitems W).length) = wkf (itOf (oitems W)) (oitems W).length i := by
      rw [Bool.eq_iff_iff, Bool.and_eq_true, wkf_iff, wkf_iff, decide_eq_true_eq]
      constructor
      · rintro ⟨h1, _, h2⟩
        exact ⟨h1, fun j hj => h2 j (by omega)⟩
      · rintro ⟨h1, h2⟩
        have : i = (oitems W).length := by omega
        exact ⟨h1, h1, this ▸ h2⟩
    rw [e]
    exact (by repeat' (first | exact trivial | refine ⟨rfl, ?_⟩))

/-- what the draft holds is as it was -/
theorem loop6 (H : LH D w0) (hinv : Inv D D.n es W) (hcl : ∀ i, i < 3 → Cloned cm (bv i) (filt D (keys D.path i) D.n))
    (h : SE (Q .normal) Yba.f3.ntmps [] w0 [] []) :
    SC Yba.prog (sub [1, 1, 1, 1, 1, 1, 1, 1, 1, 1, 1, 1, 1, 1, 1, 1, 0, 1] (Yba.f3.body.getD .skip)) Q Yba.f3.ntmps ((20, .int .i64 (0 : Nat)) :: EM D b5 bd b13 W) w0 [] (MM D b5 b6 bd bm b13 es W bv cm) := by
  obtain ⟨i30, hi30, hz30, hs30, hb30⟩ := info_parts info30
  have hn := H.nle
  refine SC.block ?_
  refine SC.loop (fun i : Nat => (20, .int .i64 i) :: EM D b5 bd b13 W) (fun i => MM D b5 b6 bd bm b13 es W bv cm) (fun i => i ≤ 3) (fun i => 3 - i) 0 (Nat.zero_le _) (by repeat' (first | exact trivial | refine ⟨rfl, ?_⟩)) (List.Sublist.refl _) ?_
  intro i hi
  refine SC.seq ?_
  refine SC.seq ?_
  refine SC.region ?_
  refine SL.y (OV.move rfl) rfl ?_
  refine SL.y (OV.lss rfl rfl) rfl ?_
  refine SL.nil ?_
  refine SC.then ?_
  refine SC.condP rfl (fun hlt => ?_) (fun hge => ?_)
  · have hlt' : i < 3 := by omega
    have hkey := keyCells_at D.path i hlt'
    have hlook := (mget_ents es (keys D.path i)).trans (oval_eq _)
    have hitems := hinv.items (keys D.path i)
    have hflen := filt_len D (keys D.path i) D.n
    have hmem := gget_mem es (keys D.path i)
    obtain ⟨a, c, hbv, hrd⟩ := hcl i hlt'
    rw [hitems] at hlook
    refine SC.skip ?_
    refine SC.then ?_
    refine SC.seq ?_
    refine SC.block ?_
    refine SC.seq ?_
    refine SC.quiet mixed (by kernel_rfl) ?_
    refine SQ.y (OV.move rfl) rfl ?_
    refine SQ.y (OV.idxArr1 i u35 sz30 rfl rfl rfl hlt') rfl ?_
    refine SQ.y ((OV.load 0 sc30 rfl rfl (tab_get hlt')).is hbv) rfl ?_
    refine SQ.y (OV.move rfl) rfl ?_
    refine SQ.y (OV.nilCheck rfl) rfl ?_
    refine SQ.y (OV.fld fo29_0 rfl) rfl ?_
    refine SQ.y (OV.load 3 sc25 rfl rfl rfl) rfl ?_
    refine SQ.y (OV.move rfl) rfl ?_
    refine SQ.y (OV.idxArr1 i u23 sz9 rfl rfl rfl hlt') rfl ?_
    refine SQ.y (OV.load 1 sc9 rfl rfl hkey) rfl ?_
    refine SQ.y ((OV.lookupS 4 u25 u9 hi30 hz30 rfl rfl rfl).is hlook) rfl ?_
    refine SQ.callQ pf6 (args2 rfl rfl) (fun w hM => call6 (it := itOf (filt D (keys D.path i) D.n)) (by omega) (rd_clone hM (fun p hp => List.mem_cons_of_mem _ (List.mem_cons_of_mem _ (List.mem_cons_of_mem _ (List.mem_cons_of_mem _ (List.mem_cons_of_mem _ (List.mem_append_right _ hp)))))) hrd) (hitems ▸ rd_gs (o := gget es (keys D.path i)) hM (fun g e => List.mem_cons_of_mem _ (List.mem_cons_of_mem _ (List.mem_cons_of_mem _ (List.mem_cons_of_mem _ (List.mem_cons_of_mem _ (List.mem_append_left _ (List.mem_append_right _ (hmem g e)))))))))) rfl ?_
    refine SQ.y (OV.not rfl) rfl ?_
    refine SQ.nil ?_
    refine SC.then ?_
    refine SC.condF rfl ?_
    refine SC.skip ?_
    refine SE.nb ?_
    refine SC.then ?_
    refine SC.region ?_
    refine SL.y (OV.move rfl) rfl ?_
    refine SL.y (OV.add rfl rfl (wrap_i64 (by omega) (by omega))) rfl ?_
    refine SL.y (OV.assign rfl) rfl ?_
    refine SL.nil ?_
    exact SE.round (i + 1) (by omega) (by omega) (by repeat' (first | exact trivial | refine ⟨rfl, ?_⟩)) (List.Sublist.refl _)
  · refine SC.exit ?_
    refine SE.thenE (SE.thenE (SE.inBlock ?_))
    exact SE.weaken (env' := []) (m' := []) trivial (List.nil_sublist _) h
end

theorem walkBig {w0 : World} {a0 : Option Addr} {n c0 : Nat} {path : ByteArray} (hbig : 1048576 < n) :
    Calls Yba.prog 3 #[.string path, .slice a0 n c0] w0 fun e w' => e = .returned (.bool true) ∧ Below w0.heap.size w0 w' := by
  refine Calls.of_SC (args := [.string path, .slice a0 n c0]) Yba.func3 rfl (by rw [Yba.ntmps3]; simp) (Mm.start w0) ?_
  refine SC.seq ?_
  refine SC.region ?_
  refine SL.y (OV.assign rfl) rfl ?_
  refine SL.nil ?_
  refine SC.then ?_
  refine SC.seq ?_
  refine SC.seq ?_
  refine SC.region ?_
  refine SL.y (OV.move rfl) rfl ?_
  refine SL.y (OV.len u22 rfl) rfl ?_
  refine SL.y (OV.gtr rfl rfl) rfl ?_
  refine SL.nil ?_
  refine SC.then ?_
  refine SC.condP rfl (fun _ => ?_) (fun h => absurd (show (1048576 : Int) < (n : Int) by omega) h)
  refine SC.seq ?_
  refine SC.region ?_
  refine SL.y (OV.assign rfl) rfl ?_
  refine SL.nil ?_
  refine SC.then ?_
  refine SC.ret ?_
  refine SE.thenR ?_
  exact SE.ret1 Yba.results3 rfl fun w hM => ⟨rfl, hM.below⟩

theorem walk {w0 : World} {D : LD} (H : LH D w0) :
    Calls Yba.prog 3 #[.string D.path, .slice D.a0 D.n D.c0] w0 fun e w' => e = .returned (.bool true) ∧ Below w0.heap.size w0 w' := by
  obtain ⟨i23, hi23, hz23, hs23, hb23⟩ := info_parts info23
  obtain ⟨i35, hi35, hz35, hs35, hb35⟩ := info_parts info35
  obtain ⟨i34, hi34, hz34, hs34, hb34⟩ := info_parts info34
  obtain ⟨ms, hu20⟩ := iface20
  have hn := H.nle
  refine Calls.of_SC (args := [.string D.path, .slice D.a0 D.n D.c0]) Yba.func3 rfl (by rw [Yba.ntmps3]; simp) (Mm.start w0) ?_
  refine SC.seq ?_
  refine SC.region ?_
  refine SL.y (OV.assign rfl) rfl ?_
  refine SL.nil ?_
  refine SC.then ?_
  refine SC.seq ?_
  refine SC.seq ?_
  refine SC.region ?_
  refine SL.y (OV.move rfl) rfl ?_
  refine SL.y (OV.len u22 rfl) rfl ?_
  refine SL.y (OV.gtr rfl rfl) rfl ?_
  refine SL.nil ?_
  refine SC.then ?_
  refine SC.condP rfl (fun h => absurd h (by omega)) (fun _ => ?_)
  refine SC.skip ?_
  refine SC.then ?_
  refine SC.seq ?_
  refine SC.region ?_
  refine SL.y (OV.move rfl) rfl ?_
  refine SL.y (OV.build (parts3 rfl rfl rfl) (build23 D.path bIssue bX)) rfl ?_
  refine SL.e (OE.alloc hi23 hz23) rfl ?_
  intro b5
  refine SL.s (OS.storeAll 0 hi23 rfl rfl rfl (by rw [hs23]; rfl) (by simp [Value.cells, Value.oneCell']) (by rw [hs23]; rfl)) ?_
  refine SL.nil ?_
  refine SC.then ?_
  refine SC.seq ?_
  refine SC.region ?_
  refine SL.y (OV.build (parts3 rfl rfl rfl) (build23 bA bB bNone)) rfl ?_
  refine SL.e (OE.alloc hi23 hz23) rfl ?_
  intro b6
  refine SL.s (OS.storeAll 1 hi23 rfl rfl rfl (by rw [hs23]; rfl) (by simp [Value.cells, Value.oneCell']) (by rw [hs23]; rfl)) ?_
  refine SL.nil ?_
  refine SC.then ?_
  refine SC.seq ?_
  refine SC.region ?_
  refine SL.e (OE.makeMap) rfl ?_
  intro bm
  refine SL.y (OV.build (fun ρ hρ => by simp [hρ (.tmp 27) _ rfl]) (build29 bm)) rfl ?_
  refine SL.e (OE.box rfl) rfl ?_
  intro bd
  refine SL.y (OV.assign rfl) rfl ?_
  refine SL.nil ?_
  refine SC.then ?_
  refine SC.seq ?_
  refine SC.region ?_
  refine SL.y (OV.assign rfl) rfl ?_
  refine SL.nil ?_
  refine SC.then ?_
  refine SC.seq ?_
  refine SC.seq ?_
  refine SC.region ?_
  refine SL.y (OV.assign rfl) rfl ?_
  refine SL.nil ?_
  refine SC.then ?_
  refine SC.perm (m' := BM D b5 b6 bd bm [] []) ((List.Perm.swap _ _ _).cons _ |>.cons _) ?_
  refine SC.weaken ?_ (List.Sublist.refl _) (loop1 (D := D) (b5 := b5) (b6 := b6) (bd := bd) (bm := bm) H (by repeat (first | refine PanicOk.then ?_ | refine PanicOk.block ?_ | exact PanicOk.body)) ?_)
  · exact (by repeat' (first | exact trivial | refine ⟨rfl, ?_⟩))
  intro es W hinv
  rw [show EL D b5 b6 bd W = [(0, .string D.path), (1, .slice D.a0 D.n D.c0), (5, .pointer (some ⟨b5, 0, none⟩)), (6, .pointer (some ⟨b6, 0, none⟩)), (7, .pointer (some ⟨bd, 0, none⟩)), (8, .slice (oaddr W) (oitems W).length (ocap W))] from by rw [← oval_eq]]
  refine SC.then ?_
  refine SC.seq ?_
  refine SC.region ?_
  refine SL.e ((OE.alloc hi35 hz35).front) rfl ?_
  intro b13
  refine SL.nil ?_
  refine SC.then ?_
  refine SC.seq ?_
  refine SC.seq ?_
  refine SC.region ?_
  refine SL.y (OV.assign rfl) rfl ?_
  refine SL.nil ?_
  refine SC.then ?_
  refine SC.weaken ?_ ?_ (loop2 (D := D) (b5 := b5) (b6 := b6) (bd := bd) (bm := bm) (b13 := b13) (es := es) (W := W) H hinv (by repeat (first | refine PanicOk.then ?_ | refine PanicOk.block ?_ | exact PanicOk.body)) ?_)
  · exact (by repeat' (first | exact trivial | refine ⟨rfl, ?_⟩))
  · unfold MM
    rw [List.append_nil]
    exact (List.Sublist.refl _)
  intro bv cm hcl
  refine SC.then ?_
  refine SC.seq ?_
  refine SC.region ?_
  refine SL.y (OV.move rfl) rfl ?_
  refine SL.y (OV.nilCheck rfl) rfl ?_
  refine SL.y (OV.fld fo29_0 rfl) rfl ?_
  refine SL.y (OV.load 3 sc25 rfl rfl rfl) rfl ?_
  refine SL.y (OV.lenMap 4 u25 rfl rfl) rfl ?_
  refine SL.y (OV.assign rfl) rfl ?_
  refine SL.nil ?_
  refine SC.then ?_
  have hwl : (oitems W).length ≤ 1048576 := by rw [hinv.want]; have := filt_len D D.path D.n; omega
  have hitp := hinv.items D.path
  have hsamei : oitems (gget es D.path) = oitems W := hitp.trans hinv.want.symm
  have hlook := (mget_ents es D.path).trans (oval_eq _)
  rw [hsamei] at hlook
  refine SC.seq ?_
  refine SC.region ?_
  refine SL.y (OV.move rfl) rfl ?_
  refine SL.y (OV.move rfl) rfl ?_
  refine SL.call (σ := Value × Bool) (V := fun r => .tuple #[r.1, .bool r.2]) (M := fun _ => MM D b5 b6 bd bm b13 es W bv cm) (G := fun r => (0 < (oitems W).length ∧ Alike (itOf (oitems W)) (oitems W).length ∧ r = (.iface 2 (.int .i64 (itOf (oitems W) 0).v), true)) ∨ (¬ (0 < (oitems W).length ∧ Alike (itOf (oitems W)) (oitems W).length) ∧ r = (.nilIface, false))) pf5 (args2 rfl rfl) (fun w hM => (call5 (l := ents es) (by omega) (hM.cell (j := 3) rfl rfl) (hM.block (j := 4) rfl) hlook (hsamei ▸ rd_gs (o := gget es D.path) hM (fun g e => List.mem_cons_of_mem _ (List.mem_cons_of_mem _ (List.mem_cons_of_mem _ (List.mem_cons_of_mem _ (List.mem_cons_of_mem _ (List.mem_append_left _ (List.mem_append_right _ (gget_mem es D.path g e)))))))))).mono fun e w' ⟨r, he, hg, hM'⟩ => ⟨r, he, hg, by have := hM.callee0 hM'; rwa [List.append_nil] at this⟩) rfl ?_
  intro r hgood
  refine SL.y (OV.move rfl) rfl ?_
  refine SL.y (OV.extract rfl rfl) rfl ?_
  refine SL.y (OV.extract rfl rfl) rfl ?_
  refine SL.y (OV.assign rfl) rfl ?_
  refine SL.y (OV.assign rfl) rfl ?_
  refine SL.nil ?_
  refine SC.then ?_
  refine SC.seq ?_
  refine SC.region ?_
  refine SL.y (OV.move rfl) rfl ?_
  refine SL.y (OV.len u30 rfl) rfl ?_
  refine SL.y ((OV.gtr rfl rfl).is (v' := .bool (decide (0 < (oitems W).length))) (by congr 1; exact decide_eq_decide.2 (by omega))) rfl ?_
  refine SL.y (OV.assign rfl) rfl ?_
  refine SL.nil ?_
  refine SC.then ?_
  refine SC.seq ?_
  refine SC.seq ?_
  refine SC.region ?_
  refine SL.y (OV.assign rfl) rfl ?_
  refine SL.nil ?_
  refine SC.then ?_
  refine SC.weaken ?_ (List.Sublist.refl _) (loop4 (D := D) (b5 := b5) (b6 := b6) (bd := bd) (bm := bm) (b13 := b13) (es := es) (W := W) (bv := bv) (cm := cm) (nf := (ents es).length) (v16 := r.1) (b17 := r.2) H hinv ?_)
  · exact (by repeat' (first | exact trivial | refine ⟨rfl, ?_⟩))
  have hwk : (decide (0 < (oitems W).length) && wkf (itOf (oitems W)) (oitems W).length (oitems W).length) = true ↔ 0 < (oitems W).length ∧ Alike (itOf (oitems W)) (oitems W).length := by
    rw [Bool.and_eq_true, wkf_iff, decide_eq_true_eq]
    exact ⟨fun h => ⟨h.1, h.2.2⟩, fun h => ⟨h.1, h.1, h.2⟩⟩
  refine SC.then ?_
  refine SC.cutSt (EW D b5 bd b13 W (ents es).length r.1 r.2) (MM D b5 b6 bd bm b13 es W bv cm) ?_ ?_
  · rcases hgood with ⟨hpos, hal, rfl⟩ | ⟨hnot, rfl⟩
    · have e1 := hwk.2 ⟨hpos, hal⟩
      rw [e1]
      refine SC.seq ?_
      refine SC.region ?_
      refine SL.y (OV.move rfl) rfl ?_
      refine SL.y (OV.move rfl) rfl ?_
      refine SL.y (OV.neqB u4 rfl rfl) rfl ?_
      refine SL.nil ?_
      refine SC.then ?_
      refine SC.condF rfl ?_
      refine SC.skip ?_
      exact SE.toSt (by repeat' (first | exact trivial | refine ⟨rfl, ?_⟩)) (List.Sublist.refl _)
    · have e1 : (decide (0 < (oitems W).length) && wkf (itOf (oitems W)) (oitems W).length (oitems W).length) = false := Bool.eq_false_iff.2 fun e => hnot (hwk.1 e)
      rw [e1]
      refine SC.seq ?_
      refine SC.region ?_
      refine SL.y (OV.move rfl) rfl ?_
      refine SL.y (OV.move rfl) rfl ?_
      refine SL.y (OV.neqB u4 rfl rfl) rfl ?_
      refine SL.nil ?_
      refine SC.then ?_
      refine SC.condF rfl ?_
      refine SC.skip ?_
      exact SE.toSt (by repeat' (first | exact trivial | refine ⟨rfl, ?_⟩)) (List.Sublist.refl _)
  refine SC.cutSt ((15, .int .i64 (ents es).length) :: EM D b5 bd b13 W) (MM D b5 b6 bd bm b13 es W bv cm) ?_ ?_
  · rcases hgood with ⟨hpos, hal, rfl⟩ | ⟨hnot, rfl⟩
    · skip
      refine SC.seq ?_
      refine SC.region ?_
      refine SL.y (OV.move rfl) rfl ?_
      refine SL.y (OV.not rfl) rfl ?_
      refine SL.nil ?_
      refine SC.then ?_
      refine SC.condF rfl ?_
      cases W with
      | none => simp [oitems] at hpos
      | some gw =>
      have hpos2 : 0 < gw.items.length := hpos
      have hmem : (gw.blk, gw.obj) ∈ MM D b5 b6 bd bm b13 es (some gw) bv cm := List.mem_cons_of_mem _ (List.mem_cons_of_mem _ (List.mem_cons_of_mem _ (List.mem_cons_of_mem _ (List.mem_cons_of_mem _ (List.mem_append_left _ (List.mem_append_left _ List.mem_cons_self))))))
      obtain ⟨j, hj⟩ := List.mem_iff_getElem?.1 hmem
      have hat : (fcells gw.items ++ gw.sp)[0 + 0 * 3 + 0]? = some (.iface 2 (.int .i64 (itOf gw.items 0).v)) := by
        have h1 := fcells_at gw.items 0 hpos2 0 (.iface 2 (.int .i64 (gw.items[0]).v)) rfl
        rw [List.getElem?_append_left (List.getElem?_eq_some_iff.1 h1).1, h1, itOf_at gw.items 0 hpos2]
      refine SC.seq ?_
      refine SC.region ?_
      refine SL.y (OV.move rfl) rfl ?_
      refine SL.y (OV.move rfl) rfl ?_
      refine SL.y (OV.idx 0 u30 hi34 hs34 rfl rfl rfl (by omega)) rfl ?_
      refine SL.y (OV.fld fo34_0 rfl) rfl ?_
      refine SL.y (OV.load j sc20 rfl hj hat) rfl ?_
      refine SL.y (neqI rfl rfl (opEqI _)) rfl ?_
      refine SL.nil ?_
      refine SC.then ?_
      refine SC.condF rfl ?_
      refine SC.skip ?_
      exact SE.toSt (by repeat' (first | exact trivial | refine ⟨rfl, ?_⟩)) (List.Sublist.refl _)
    · skip
      refine SC.seq ?_
      refine SC.region ?_
      refine SL.y (OV.move rfl) rfl ?_
      refine SL.y (OV.not rfl) rfl ?_
      refine SL.nil ?_
      refine SC.then ?_
      refine SC.condT rfl ?_
      refine SC.seq ?_
      refine SC.region ?_
      refine SL.y (OV.move rfl) rfl ?_
      refine SL.y (neqNilI hu20 rfl) rfl ?_
      refine SL.nil ?_
      refine SC.then ?_
      refine SC.condF rfl ?_
      refine SC.skip ?_
      exact SE.toSt (by repeat' (first | exact trivial | refine ⟨rfl, ?_⟩)) (List.Sublist.refl _)
  refine SC.seq ?_
  refine SC.seq ?_
  refine SC.region ?_
  refine SL.y (OV.move rfl) rfl ?_
  refine SL.y (OV.nilCheck rfl) rfl ?_
  refine SL.y (OV.fld fo29_0 rfl) rfl ?_
  refine SL.y (OV.load 3 sc25 rfl rfl rfl) rfl ?_
  refine SL.y (OV.lenMap 4 u25 rfl rfl) rfl ?_
  refine SL.y (OV.move rfl) rfl ?_
  refine SL.y ((OV.neq rfl rfl).no (fun h => h rfl)) rfl ?_
  refine SL.nil ?_
  refine SC.then ?_
  refine SC.condF rfl ?_
  refine SC.skip ?_
  refine SC.then ?_
  refine SC.seq ?_
  refine SC.seq ?_
  refine SC.region ?_
  refine SL.y (OV.assign rfl) rfl ?_
  refine SL.nil ?_
  refine SC.then ?_
  refine SC.weaken ?_ (List.Sublist.refl _) (loop6 (D := D) (b5 := b5) (b6 := b6) (bd := bd) (bm := bm) (b13 := b13) (es := es) (W := W) (bv := bv) (cm := cm) H hinv hcl ?_)
  · exact (by repeat' (first | exact trivial | refine ⟨rfl, ?_⟩))
  refine SC.then ?_
  refine SC.seq ?_
  refine SC.region ?_
  refine SL.y (OV.assign rfl) rfl ?_
  refine SL.nil ?_
  refine SC.then ?_
  refine SC.ret ?_
  exact SE.ret1 Yba.results3 rfl fun w hM => ⟨rfl, hM.below⟩
end Go.Proofs.Ybulkdrdy
