import Derived.Test.YbulkdrdyVal2
namespace Go.Proofs.Ybulkdrdy
open Go Go.RowKit Go.Proofs.Ybulkdrdy.Sym
set_option linter.unusedVariables false
set_option linter.unusedSimpArgs false

theorem Sym.OE.front {P : Program} {env : Env} {w0 : World} {F : List Nat} {m : List Blk} {o : Oper} {σ : Type} {V : σ → Value} {B : σ → Blk} (h : OE P env w0 F m o V (fun s => m ++ [B s])) : OE P env w0 F m o V (fun s => B s :: m) :=
  ⟨fun a w hE hM => by
    obtain ⟨s, w', h1, h2⟩ := h.out a w hE hM
    exact ⟨s, w', h1, h2.perm (List.perm_append_singleton _ _)⟩⟩
theorem Sym.OV.idxO3 {P : Program} {w0 : World} {F : List Nat} {env : Env} {m : List Blk} {d : Option Nat} {ty : TypeId} {pos : String} {af : Array Edge} {g : Option (Nat × Bool)} {x y : Operand} {T : TypeId} {k : IntKind} {e : TypeId} {i : TypeInfo} {sA : Option Addr} {b off n c s : Nat} {I : Int} (j : Nat) (hT : P.underlying T = some (.slice e)) (hi : P.info? e = some i) (hs : i.size = s) (hx : ev env x = some (.slice sA n c)) (hA : sA = some ⟨b, off, none⟩) (hy : ev env y = some (.int k I)) (hI : I = (j : Int)) (hj : j < n) :
    OV P env w0 F m ⟨d, .indexAddr T x y, ty, pos, af, g⟩ (.pointer (some ⟨b, off + j * s, none⟩)) := by
  subst hA
  exact OV.idx j hT hi hs hx hy hI hj
theorem Sym.OV.mkI {P : Program} {w0 : World} {F : List Nat} {env : Env} {m : List Blk} {d : Option Nat} {ty : TypeId} {pos : String} {af : Array Edge} {g : Option (Nat × Bool)} {x : Operand} {T : TypeId} {k : IntKind} {v : Value} (hT : P.underlying T = some (.int k)) (hx : ev env x = some v) : OV P env w0 F m ⟨d, .makeInterface T x, ty, pos, af, g⟩ (.iface T v) :=
  ⟨fun A w hE hM => by simp [execOp, hE x _ hx, Instr.makeInterface, run_underlying hT]⟩

/-! ### The findings that the draft holds -/
abbrev Es := List (ByteArray × GS)
def gget : Es → ByteArray → Option GS
  | [], _ => none
  | (a, g) :: r, s => if s = a then some g else gget r s
def gset : Es → ByteArray → GS → Es
  | [], s, g => [(s, g)]
  | (a, u) :: r, s, g => if s = a then (a, g) :: r else (a, u) :: gset r s g
def ents (es : Es) : List Ent := es.map fun p => (p.1, p.2.val)
def gblk (g : GS) : Blk := (g.blk, g.obj)
def emem (es : Es) : List Blk := es.map fun p => gblk p.2
theorem omem_eq (o : Option GS) : omem o = (match o with | none => [] | some g => [gblk g]) := by cases o <;> rfl
theorem mget_ents (es : Es) (s : ByteArray) : (mget (ents es) s).getD (.slice none 0 0) = oval (gget es s) := by
  induction es with
  | nil => rfl
  | cons p r ih =>
    obtain ⟨a, g⟩ := p
    show (if s = a then some g.val else mget (ents r) s).getD _ = oval (if s = a then some g else gget r s)
    by_cases h : s = a
    · rw [if_pos h, if_pos h]; rfl
    · rw [if_neg h, if_neg h]; exact ih
theorem mset_ents (es : Es) (s : ByteArray) (g : GS) : mset (ents es) s g.val = ents (gset es s g) := by
  induction es with
  | nil => rfl
  | cons p r ih =>
    obtain ⟨a, u⟩ := p
    show (if s = a then (a, g.val) :: ents r else (a, u.val) :: mset (ents r) s g.val) = ents (if s = a then (a, g) :: r else (a, u) :: gset r s g)
    by_cases h : s = a
    · rw [if_pos h, if_pos h]; rfl
    · rw [if_neg h, if_neg h, ih]; rfl
theorem gget_gset (es : Es) (s s' : ByteArray) (g : GS) : gget (gset es s g) s' = if s' = s then some g else gget es s' := by
  induction es with
  | nil => simp [gset, gget]
  | cons p r ih =>
    obtain ⟨a, u⟩ := p
    by_cases h : s = a
    · subst h
      by_cases h' : s' = s <;> simp [gset, gget, h']
    · by_cases h' : s' = a
      · have hne : s' ≠ s := fun e => h (e ▸ h')
        subst h'
        simp [gset, gget, h, hne]
      · simp [gset, gget, h, h', ih]
theorem emem_parts (es : Es) (s : ByteArray) : ∃ r, (emem es).Perm (omem (gget es s) ++ r) ∧ ∀ g, (emem (gset es s g)).Perm (gblk g :: r) := by
  induction es with
  | nil => exact ⟨[], List.Perm.refl _, fun g => List.Perm.refl _⟩
  | cons p r ih =>
    obtain ⟨a, u⟩ := p
    by_cases h : s = a
    · refine ⟨emem r, ?_, fun g => ?_⟩
      · simp only [gget, if_pos h]; exact List.Perm.refl _
      · simp only [gset, if_pos h]; exact List.Perm.refl _
    · obtain ⟨q, h1, h2⟩ := ih
      refine ⟨gblk u :: q, ?_, fun g => ?_⟩
      · simp only [gget, if_neg h]
        exact (h1.cons (gblk u)).trans (List.perm_middle.symm)
      · simp only [gset, if_neg h]
        exact ((h2 g).cons (gblk u)).trans (List.Perm.swap _ _ _)

def bIssue : ByteArray := ⟨#[105, 115, 115, 117, 101, 46, 98, 111, 110, 100, 115]⟩
def bX : ByteArray := ⟨#[120]⟩
def bA : ByteArray := ⟨#[97]⟩
def bB : ByteArray := ⟨#[98]⟩
def bNone : ByteArray := ⟨#[]⟩
def keys (path : ByteArray) (k : Nat) : ByteArray := if k = 0 then path else if k = 1 then bIssue else bX
def sames (k : Nat) : ByteArray := if k = 0 then bA else if k = 1 then bB else bNone
def keyCells (path : ByteArray) : List Value := [.string path, .string bIssue, .string bX]
def sameCells : List Value := [.string bA, .string bB, .string bNone]
theorem keyCells_at (path : ByteArray) (k : Nat) (h : k < 3) : (keyCells path)[k]? = some (.string (keys path k)) := by
  match k, h with
  | 0, _ | 1, _ | 2, _ => rfl
theorem sameCells_at (k : Nat) (h : k < 3) : sameCells[k]? = some (.string (sames k)) := by
  match k, h with
  | 0, _ | 1, _ | 2, _ => rfl

/-- What the law is handed: the entries. -/
structure LD where
  (path : ByteArray)
  (a0 : Option Addr)
  (n c0 : Nat)
  (kz sz vz : Nat → Int)
def LD.kk (D : LD) (p : Nat) : Nat := ((D.kz p).tmod 3).toNat
def LD.ss (D : LD) (p : Nat) : Nat := ((D.sz p).tmod 3).toNat
def LD.key (D : LD) (p : Nat) : ByteArray := keys D.path (D.kk p)
def LD.fd (D : LD) (p : Nat) : Fd := ⟨D.vz p, sames (D.ss p)⟩
structure LH (D : LD) (w0 : World) : Prop where
  nle : D.n ≤ 1048576
  hz : ∀ p, p < D.n → ∃ ab ao, D.a0 = some ⟨ab, ao, none⟩ ∧ ∀ q v, ([.int .u8 (D.kz p), .int .u8 (D.sz p), .int .i64 (D.vz p)] : List Value)[q]? = some v → w0.cell? ⟨ab, ao + p * 3 + q, none⟩ = some v
  k0 : ∀ p, p < D.n → 0 ≤ D.kz p ∧ D.kz p ≤ 255
  s0 : ∀ p, p < D.n → 0 ≤ D.sz p ∧ D.sz p ≤ 255
theorem tmod3 {z : Int} (h : 0 ≤ z) : z.tmod 3 = (((z.tmod 3).toNat : Nat) : Int) ∧ (z.tmod 3).toNat < 3 := by
  rw [Int.tmod_eq_emod_of_nonneg h]
  omega

/-- The findings of one path, after i entries. -/
def filt (D : LD) (s : ByteArray) : Nat → List Fd
  | 0 => []
  | i + 1 => if D.key i = s then filt D s i ++ [D.fd i] else filt D s i
theorem filt_len (D : LD) (s : ByteArray) (i : Nat) : (filt D s i).length ≤ i := by
  induction i with
  | zero => exact Nat.le_refl _
  | succ i ih =>
    unfold filt
    split
    · rw [List.length_append]; show _ + 1 ≤ _; omega
    · omega
structure Inv (D : LD) (i : Nat) (es : Es) (W : Option GS) : Prop where
  items : ∀ s, oitems (gget es s) = filt D s i
  ok : ∀ s, OOk (gget es s)
  want : oitems W = filt D D.path i
  wok : OOk W
theorem Inv.zero (D : LD) : Inv D 0 [] none := ⟨fun _ => rfl, fun _ => trivial, rfl, trivial⟩

theorem Inv.next {D : LD} {i : Nat} {es : Es} {W W' : Option GS} {g : GS} (h : Inv D i es W) (hg : g.Ok) (hgi : g.items = filt D (D.key i) i ++ [D.fd i]) (hW : OOk W') (hWi : oitems W' = filt D D.path (i + 1)) : Inv D (i + 1) (gset es (D.key i) g) W' := by
  refine ⟨fun s => ?_, fun s => ?_, hWi, hW⟩
  · rw [gget_gset]
    unfold filt
    by_cases e : s = D.key i
    · subst e
      rw [if_pos rfl, if_pos rfl]; exact hgi
    · rw [if_neg e, if_neg (fun x => e x.symm)]; exact h.items s
  · rw [gget_gset]
    by_cases e : s = D.key i
    · rw [if_pos e]; exact hg
    · rw [if_neg e]; exact h.ok s
theorem perm_pull {L A E r : List Blk} {g : Blk} (h : E.Perm (g :: r)) : (L ++ (A ++ E)).Perm (g :: (L ++ (A ++ r))) := by
  have h1 : (L ++ (A ++ E)).Perm (L ++ (A ++ (g :: r))) := (h.append_left A).append_left L
  refine h1.trans ?_
  rw [← List.append_assoc, ← List.append_assoc]
  exact List.perm_middle

theorem info32 : (Yba.prog.info? 32).map (fun i => (i.zero, i.size, i.bytes)) = some (some (.agg #[.int .u8 0, .int .u8 0, .int .i64 0]), 3, 16) := by kernel_rfl
theorem info23 : (Yba.prog.info? 23).map (fun i => (i.zero, i.size, i.bytes)) = some (some (.agg #[.string ⟨#[]⟩, .string ⟨#[]⟩, .string ⟨#[]⟩]), 3, 48) := by kernel_rfl
theorem info35 : (Yba.prog.info? 35).map (fun i => (i.zero, i.size, i.bytes)) = some (some (.agg #[.slice none 0 0, .slice none 0 0, .slice none 0 0]), 3, 72) := by kernel_rfl
theorem ag32 : scalar Yba.prog 32 = false := by kernel_rfl
theorem us32 : (Yba.prog.underlying 32).isSome = true := by kernel_rfl
theorem u23 : Yba.prog.underlying 23 = some (.array 3 9) := by kernel_rfl
theorem u35 : Yba.prog.underlying 35 = some (.array 3 30) := by kernel_rfl
theorem build34 (a : Int) (s : ByteArray) (w : World) : (Instr.build 34 #[(0, .iface 2 (.int .i64 a)), (1, .string s), (2, .string bSaid)]).run Yba.prog w = .ok (.agg (Fd.mk a s).cells.toArray) w := by kernel_rfl
theorem build29 (b : Nat) (w : World) : (Instr.build 29 #[(0, .map (some b))]).run Yba.prog w = .ok (.agg #[.map (some b), .slice none 0 0, .slice none 0 0, .int .i64 0]) w := by kernel_rfl
theorem build23 (x y z : ByteArray) (w : World) : (Instr.build 23 #[(0, .string x), (1, .string y), (2, .string z)]).run Yba.prog w = .ok (.agg #[.string x, .string y, .string z]) w := by kernel_rfl
section
variable {env : Env} {x0 x1 x2 : Operand} {v0 v1 v2 : Value} {i0 i1 i2 : Nat}
theorem parts3 (h0 : ev env x0 = some v0) (h1 : ev env x1 = some v1) (h2 : ev env x2 = some v2) (ρ : Operand → Value) (hρ : ∀ x u, ev env x = some u → ρ x = u) :
    (#[(i0, x0), (i1, x1), (i2, x2)] : Array (Nat × Operand)).map (fun p => (p.1, ρ p.2)) = #[(i0, v0), (i1, v1), (i2, v2)] := by simp [hρ x0 _ h0, hρ x1 _ h1, hρ x2 _ h2]
end

abbrev draft (bm : Nat) : List Value := [.map (some bm), .slice none 0 0, .slice none 0 0, .int .i64 0]
abbrev BM (D : LD) (b5 b6 bd bm : Nat) (es : Es) (tl : List Blk) : List Blk := (b5, row 23 (keyCells D.path)) :: (b6, row 23 sameCells) :: (bd, row 29 (draft bm)) :: (bm, mobj (ents es)) :: tl
abbrev EL (D : LD) (b5 b6 bd : Nat) (W : Option GS) : Env := [(0, .string D.path), (1, .slice D.a0 D.n D.c0), (5, .pointer (some ⟨b5, 0, none⟩)), (6, .pointer (some ⟨b6, 0, none⟩)), (7, .pointer (some ⟨bd, 0, none⟩)), (8, oval W)]

theorem OOk.app {f : Fd} {o : Option GS} {g : GS} (hg : g.Ok) : OOk (some g) := hg

section
variable {D : LD} {w0 : World} {Q : Exit → Act → World → Prop} {b5 b6 bd bm : Nat}
/-- d.found[k] = append(d.found[k], f); want = append(want, f) -/
theorem loop1 (H : LH D w0) (hPQ : PanicOk Q)
    (h : ∀ es W, Inv D D.n es W → SE (Q .normal) Yba.f3.ntmps (EL D b5 b6 bd W) w0 [] (BM D b5 b6 bd bm es (omem W ++ emem es))) :
    SC Yba.prog (sub [1, 1, 1, 1, 1, 1, 0, 1] (Yba.f3.body.getD .skip)) Q Yba.f3.ntmps ((9, .int .i64 (0 : Nat)) :: EL D b5 b6 bd none) w0 [] (BM D b5 b6 bd bm [] []) := by
  obtain ⟨i32, hi32, hz32, hs32, hb32⟩ := info_parts info32
  obtain ⟨i34, hi34, hz34, hs34, hb34⟩ := info_parts info34
  obtain ⟨i30, hi30, hz30, hs30, hb30⟩ := info_parts info30
  have hn := H.nle
  refine SC.block ?_
  refine SC.loopAB (fun (i : Nat) (s : Es × Option GS) => (9, .int .i64 i) :: EL D b5 b6 bd s.2) (fun i s => BM D b5 b6 bd bm s.1 (omem s.2 ++ emem s.1)) (fun i s => i ≤ D.n ∧ Inv D i s.1 s.2) (fun i s => D.n - i) 0 ([], none) ⟨Nat.zero_le _, Inv.zero D⟩ (by repeat' (first | exact trivial | refine ⟨rfl, ?_⟩)) (List.Sublist.refl _) ?_
  rintro i ⟨es, W⟩ ⟨hi, hinv⟩
  dsimp only at hinv ⊢
  refine SC.seq ?_
  refine SC.seq ?_
  refine SC.region ?_
  refine SL.y (OV.move rfl) rfl ?_
  refine SL.y (OV.move rfl) rfl ?_
  refine SL.y (OV.len u22 rfl) rfl ?_
  refine SL.y (OV.lss rfl rfl) rfl ?_
  refine SL.nil ?_
  refine SC.then ?_
  refine SC.condP rfl (fun hlt => ?_) (fun hge => ?_)
  · have hlt' : i < D.n := by omega
    obtain ⟨ab, ao, ha0, hcell⟩ := H.hz i hlt'
    obtain ⟨hk0, hk255⟩ := H.k0 i hlt'
    obtain ⟨hs0, hs255⟩ := H.s0 i hlt'
    obtain ⟨hkk, hkk3⟩ := tmod3 hk0
    obtain ⟨hss, hss3⟩ := tmod3 hs0
    have hkey := keyCells_at D.path (D.kk i) hkk3
    have hsame := sameCells_at (D.ss i) hss3
    have hlook := mget_ents es (D.key i)
    have hitems := hinv.items (D.key i)
    have hok := hinv.ok (D.key i)
    have hflen := filt_len D (D.key i) i
    have hwlen := filt_len D D.path i
    refine SC.skip ?_
    refine SC.then ?_
    refine SC.cutG (fun s : Es × Option GS => (9, .int .i64 i) :: EL D b5 b6 bd s.2) (fun s => BM D b5 b6 bd bm s.1 (omem s.2 ++ emem s.1)) (fun s => Inv D (i + 1) s.1 s.2) ?_ ?_
    · refine SC.block ?_
      refine SC.seq ?_
      refine SC.region ?_
      refine SL.y (OV.move rfl) rfl ?_
      refine SL.y (OV.move rfl) rfl ?_
      refine SL.y (OV.idxO3 i u22 hi32 hs32 rfl ha0 rfl rfl (by omega)) rfl ?_
      refine SL.y (OV.loadAggOld (vs := [.int .u8 (D.kz i), .int .u8 (D.sz i), .int .i64 (D.vz i)]) ag32 us32 hi32 rfl (by simp) (by rw [hs32]; rfl) hcell) rfl ?_
      refine SL.e ((OE.alloc hi32 hz32).front) rfl ?_
      intro b10
      refine SL.s (OS.storeAll 0 hi32 rfl rfl rfl (by rw [hs32]; rfl) (by simp [Value.cells, Value.oneCell']) (by rw [hs32]; rfl)) ?_
      refine SL.nil ?_
      refine SC.then ?_
      refine SC.seq ?_
      refine SC.region ?_
      refine SL.y (OV.fld fo32_0 rfl) rfl ?_
      refine SL.y (OV.load 0 sc5 rfl rfl rfl) rfl ?_
      refine SL.y (OV.conv u5 u3 rfl (wrap_i64 (by omega) (by omega))) rfl ?_
      refine SL.y (OV.rem rfl rfl (by decide) hkk) rfl ?_
      refine SL.y (OV.idxArr1 (D.kk i) u23 sz9 rfl rfl rfl hkk3) rfl ?_
      refine SL.y (OV.load 1 sc9 rfl rfl hkey) rfl ?_
      refine SL.y (OV.assign rfl) rfl ?_
      refine SL.nil ?_
      refine SC.then ?_
      refine SC.weaken (env' := (9, .int .i64 i) :: (10, .pointer (some ⟨b10, 0, none⟩)) :: (11, .string (D.key i)) :: EL D b5 b6 bd W) (by repeat' (first | exact trivial | refine ⟨rfl, ?_⟩)) (List.Sublist.refl _) ?_
      refine SC.cutG (fun b12 : Nat => (12, .pointer (some ⟨b12, 0, none⟩)) :: (9, .int .i64 i) :: (11, .string (D.key i)) :: EL D b5 b6 bd W) (fun b12 => (b12, row 34 (D.fd i).cells) :: BM D b5 b6 bd bm es (omem W ++ emem es)) (fun _ => True) ?_ ?_
      · skip
        refine SC.held 11 [(b10, row 32 [.int .u8 (D.kz i), .int .u8 (D.sz i), .int .i64 (D.vz i)]), (b6, row 23 sameCells)] [] mixed ?_
        refine SA.takeC (i := 0) (by repeat (first | exact hPQ | refine PanicOk.then ?_ | refine PanicOk.block ?_ | exact PanicOk.body)) rfl (by kernel_rfl) (by kernel_rfl) (by kernel_rfl) rfl (by first | exact List.nil_sublist _ | exact List.Sublist.refl _ | (repeat (first | exact List.Sublist.refl _ | exact List.nil_sublist _ | refine List.Sublist.cons_cons _ ?_ | refine List.Sublist.cons _ ?_))) (OV.fld fo32_2 rfl) rfl ?_
        refine SA.takeA (i := 1) (by repeat (first | exact hPQ | refine PanicOk.then ?_ | refine PanicOk.block ?_ | exact PanicOk.body)) rfl (by kernel_rfl) (by kernel_rfl) (by kernel_rfl) rfl (by kernel_rfl) (by kernel_rfl) (by first | exact List.nil_sublist _ | exact List.Sublist.refl _ | (repeat (first | exact List.Sublist.refl _ | exact List.nil_sublist _ | refine List.Sublist.cons_cons _ ?_ | refine List.Sublist.cons _ ?_))) (OV.load 0 sc2 rfl rfl rfl) rfl ?_
        refine SA.takeC (i := 2) (by repeat (first | exact hPQ | refine PanicOk.then ?_ | refine PanicOk.block ?_ | exact PanicOk.body)) rfl (by kernel_rfl) (by kernel_rfl) (by kernel_rfl) rfl (by first | exact List.nil_sublist _ | exact List.Sublist.refl _ | (repeat (first | exact List.Sublist.refl _ | exact List.nil_sublist _ | refine List.Sublist.cons_cons _ ?_ | refine List.Sublist.cons _ ?_))) (OV.mkI u2 rfl) rfl ?_
        refine SA.takeC (i := 3) (by repeat (first | exact hPQ | refine PanicOk.then ?_ | refine PanicOk.block ?_ | exact PanicOk.body)) rfl (by kernel_rfl) (by kernel_rfl) (by kernel_rfl) rfl (by first | exact List.nil_sublist _ | exact List.Sublist.refl _ | (repeat (first | exact List.Sublist.refl _ | exact List.nil_sublist _ | refine List.Sublist.cons_cons _ ?_ | refine List.Sublist.cons _ ?_))) (OV.fld fo32_1 rfl) rfl ?_
        refine SA.takeA (i := 4) (by repeat (first | exact hPQ | refine PanicOk.then ?_ | refine PanicOk.block ?_ | exact PanicOk.body)) rfl (by kernel_rfl) (by kernel_rfl) (by kernel_rfl) rfl (by kernel_rfl) (by kernel_rfl) (by first | exact List.nil_sublist _ | exact List.Sublist.refl _ | (repeat (first | exact List.Sublist.refl _ | exact List.nil_sublist _ | refine List.Sublist.cons_cons _ ?_ | refine List.Sublist.cons _ ?_))) (OV.load 0 sc5 rfl rfl rfl) rfl ?_
        refine SA.takeC (i := 5) (by repeat (first | exact hPQ | refine PanicOk.then ?_ | refine PanicOk.block ?_ | exact PanicOk.body)) rfl (by kernel_rfl) (by kernel_rfl) (by kernel_rfl) rfl (by first | exact List.nil_sublist _ | exact List.Sublist.refl _ | (repeat (first | exact List.Sublist.refl _ | exact List.nil_sublist _ | refine List.Sublist.cons_cons _ ?_ | refine List.Sublist.cons _ ?_))) (OV.conv u5 u3 rfl (wrap_i64 (by omega) (by omega))) rfl ?_
        refine SA.takeC (i := 6) (by repeat (first | exact hPQ | refine PanicOk.then ?_ | refine PanicOk.block ?_ | exact PanicOk.body)) rfl (by kernel_rfl) (by kernel_rfl) (by kernel_rfl) rfl (by first | exact List.nil_sublist _ | exact List.Sublist.refl _ | (repeat (first | exact List.Sublist.refl _ | exact List.nil_sublist _ | refine List.Sublist.cons_cons _ ?_ | refine List.Sublist.cons _ ?_))) (OV.rem rfl rfl (by decide) hss) rfl ?_
        refine SA.takeC (i := 7) (by repeat (first | exact hPQ | refine PanicOk.then ?_ | refine PanicOk.block ?_ | exact PanicOk.body)) rfl (by kernel_rfl) (by kernel_rfl) (by kernel_rfl) rfl (by first | exact List.nil_sublist _ | exact List.Sublist.refl _ | (repeat (first | exact List.Sublist.refl _ | exact List.nil_sublist _ | refine List.Sublist.cons_cons _ ?_ | refine List.Sublist.cons _ ?_))) (OV.idxArr1 (D.ss i) u23 sz9 rfl rfl rfl hss3) rfl ?_
        refine SA.takeA (i := 8) (by repeat (first | exact hPQ | refine PanicOk.then ?_ | refine PanicOk.block ?_ | exact PanicOk.body)) rfl (by kernel_rfl) (by kernel_rfl) (by kernel_rfl) rfl (by kernel_rfl) (by kernel_rfl) (by first | exact List.nil_sublist _ | exact List.Sublist.refl _ | (repeat (first | exact List.Sublist.refl _ | exact List.nil_sublist _ | refine List.Sublist.cons_cons _ ?_ | refine List.Sublist.cons _ ?_))) (OV.load 1 sc9 rfl rfl hsame) rfl ?_
        refine SA.takeC (i := 9) (by repeat (first | exact hPQ | refine PanicOk.then ?_ | refine PanicOk.block ?_ | exact PanicOk.body)) rfl (by kernel_rfl) (by kernel_rfl) (by kernel_rfl) rfl (by first | exact List.nil_sublist _ | exact List.Sublist.refl _ | (repeat (first | exact List.Sublist.refl _ | exact List.nil_sublist _ | refine List.Sublist.cons_cons _ ?_ | refine List.Sublist.cons _ ?_))) (OV.build (parts3 rfl rfl rfl) (build34 (D.vz i) (sames (D.ss i)))) rfl ?_
        refine SA.all (rs := [10]) (by kernel_rfl) (by simp) (all_cons ?_ (all_nil))
        · skip
          refine SO.e rfl ((OE.alloc hi34 hz34).front) rfl (fun _ => (by first | exact List.nil_sublist _ | exact List.Sublist.refl _ | (repeat (first | exact List.Sublist.refl _ | exact List.nil_sublist _ | refine List.Sublist.cons_cons _ ?_ | refine List.Sublist.cons _ ?_)))) ?_
          intro b12
          refine SA.all (rs := [11]) (by kernel_rfl) (by simp) (all_cons ?_ (all_nil))
          · skip
            refine SO.s rfl (OS.storeAll 0 hi34 rfl rfl rfl (by rw [hs34]; rfl) (Fd.cells_one _) (by rw [hs34]; rfl)) (by first | exact List.nil_sublist _ | exact List.Sublist.refl _ | (repeat (first | exact List.Sublist.refl _ | exact List.nil_sublist _ | refine List.Sublist.cons_cons _ ?_ | refine List.Sublist.cons _ ?_))) ?_
            refine SA.done (by kernel_rfl) ?_
            exact SE.toG b12 trivial (by repeat' (first | exact trivial | refine ⟨rfl, ?_⟩)) ((List.Sublist.refl _).cons _ |>.cons_cons _)
      intro b12 _
      obtain ⟨r, hr1, hr2⟩ := emem_parts es (D.key i)
      refine SC.cutG (fun g : GS => (12, .pointer (some ⟨b12, 0, none⟩)) :: (9, .int .i64 i) :: (11, .string (D.key i)) :: EL D b5 b6 bd W) (fun g => (b12, row 34 (D.fd i).cells) :: BM D b5 b6 bd bm (gset es (D.key i) g) (omem W ++ emem (gset es (D.key i) g))) (fun g => g.Ok ∧ g.items = filt D (D.key i) i ++ [D.fd i]) ?_ ?_
      · have hback : ∀ (g : GS) (nb : Nat) (o : Obj), g.Ok ∧ g.items = filt D (D.key i) i ++ [D.fd i] → SE (Exit.then (fun a w => ∃ s, (s.Ok ∧ s.items = filt D (D.key i) i ++ [D.fd i]) ∧ St Yba.f3.ntmps w0 [] ((12, .pointer (some ⟨b12, 0, none⟩)) :: (9, .int .i64 i) :: (11, .string (D.key i)) :: EL D b5 b6 bd W) ((b12, row 34 (D.fd i).cells) :: BM D b5 b6 bd bm (gset es (D.key i) s) (omem W ++ emem (gset es (D.key i) s))) a w) Q .normal) Yba.f3.ntmps ((12, .pointer (some ⟨b12, 0, none⟩)) :: (9, .int .i64 i) :: (11, .string (D.key i)) :: EL D b5 b6 bd W) w0 [] (gblk g :: (nb, o) :: (b12, row 34 (D.fd i).cells) :: (b5, row 23 (keyCells D.path)) :: (b6, row 23 sameCells) :: (bd, row 29 (draft bm)) :: (bm, mobj (ents (gset es (D.key i) g))) :: (omem W ++ r)) := by
          intro g nb o hg
          refine ⟨fun a w hF hM => ⟨g, hg, hF, ?_⟩⟩
          refine (hM.perm (m' := (nb, o) :: (b12, row 34 (D.fd i).cells) :: BM D b5 b6 bd bm (gset es (D.key i) g) (omem W ++ emem (gset es (D.key i) g))) ?_).weaken ((List.Sublist.refl _).cons _)
          have hp : (gblk g :: ((nb, o) :: (b12, row 34 (D.fd i).cells) :: (b5, row 23 (keyCells D.path)) :: (b6, row 23 sameCells) :: (bd, row 29 (draft bm)) :: (bm, mobj (ents (gset es (D.key i) g))) :: omem W ++ r)).Perm ((nb, o) :: (b12, row 34 (D.fd i).cells) :: (b5, row 23 (keyCells D.path)) :: (b6, row 23 sameCells) :: (bd, row 29 (draft bm)) :: (bm, mobj (ents (gset es (D.key i) g))) :: omem W ++ gblk g :: r) := List.perm_middle.symm
          exact hp.trans ((hr2 g).symm.append_left _)
        cases ho : gget es (D.key i) with
        | none =>
          rw [ho] at hlook hitems hr1
          have hfz : filt D (D.key i) i = [] := hitems.symm
          refine SC.held 14 [(b12, row 34 (D.fd i).cells), (bd, row 29 (draft bm)), (bm, mobj (ents es))] [] mixed ?_
          refine SA.takeC (i := 0) (by repeat (first | exact hPQ | refine PanicOk.then ?_ | refine PanicOk.block ?_ | exact PanicOk.body)) rfl (by kernel_rfl) (by kernel_rfl) (by kernel_rfl) rfl (by first | exact List.nil_sublist _ | exact List.Sublist.refl _ | (repeat (first | exact List.Sublist.refl _ | exact List.nil_sublist _ | refine List.Sublist.cons_cons _ ?_ | refine List.Sublist.cons _ ?_))) (OV.move rfl) rfl ?_
          refine SA.takeC (i := 1) (by repeat (first | exact hPQ | refine PanicOk.then ?_ | refine PanicOk.block ?_ | exact PanicOk.body)) rfl (by kernel_rfl) (by kernel_rfl) (by kernel_rfl) rfl (by first | exact List.nil_sublist _ | exact List.Sublist.refl _ | (repeat (first | exact List.Sublist.refl _ | exact List.nil_sublist _ | refine List.Sublist.cons_cons _ ?_ | refine List.Sublist.cons _ ?_))) (OV.nilCheck rfl) rfl ?_
          refine SA.takeC (i := 2) (by repeat (first | exact hPQ | refine PanicOk.then ?_ | refine PanicOk.block ?_ | exact PanicOk.body)) rfl (by kernel_rfl) (by kernel_rfl) (by kernel_rfl) rfl (by first | exact List.nil_sublist _ | exact List.Sublist.refl _ | (repeat (first | exact List.Sublist.refl _ | exact List.nil_sublist _ | refine List.Sublist.cons_cons _ ?_ | refine List.Sublist.cons _ ?_))) (OV.fld fo29_0 rfl) rfl ?_
          refine SA.takeA (i := 3) (by repeat (first | exact hPQ | refine PanicOk.then ?_ | refine PanicOk.block ?_ | exact PanicOk.body)) rfl (by kernel_rfl) (by kernel_rfl) (by kernel_rfl) rfl (by kernel_rfl) (by kernel_rfl) (by first | exact List.nil_sublist _ | exact List.Sublist.refl _ | (repeat (first | exact List.Sublist.refl _ | exact List.nil_sublist _ | refine List.Sublist.cons_cons _ ?_ | refine List.Sublist.cons _ ?_))) (OV.load 1 sc25 rfl rfl rfl) rfl ?_
          refine SA.takeC (i := 4) (by repeat (first | exact hPQ | refine PanicOk.then ?_ | refine PanicOk.block ?_ | exact PanicOk.body)) rfl (by kernel_rfl) (by kernel_rfl) (by kernel_rfl) rfl (by first | exact List.nil_sublist _ | exact List.Sublist.refl _ | (repeat (first | exact List.Sublist.refl _ | exact List.nil_sublist _ | refine List.Sublist.cons_cons _ ?_ | refine List.Sublist.cons _ ?_))) (OV.move rfl) rfl ?_
          refine SA.takeC (i := 5) (by repeat (first | exact hPQ | refine PanicOk.then ?_ | refine PanicOk.block ?_ | exact PanicOk.body)) rfl (by kernel_rfl) (by kernel_rfl) (by kernel_rfl) rfl (by first | exact List.nil_sublist _ | exact List.Sublist.refl _ | (repeat (first | exact List.Sublist.refl _ | exact List.nil_sublist _ | refine List.Sublist.cons_cons _ ?_ | refine List.Sublist.cons _ ?_))) (OV.move rfl) rfl ?_
          refine SA.takeC (i := 6) (by repeat (first | exact hPQ | refine PanicOk.then ?_ | refine PanicOk.block ?_ | exact PanicOk.body)) rfl (by kernel_rfl) (by kernel_rfl) (by kernel_rfl) rfl (by first | exact List.nil_sublist _ | exact List.Sublist.refl _ | (repeat (first | exact List.Sublist.refl _ | exact List.nil_sublist _ | refine List.Sublist.cons_cons _ ?_ | refine List.Sublist.cons _ ?_))) (OV.nilCheck rfl) rfl ?_
          refine SA.takeC (i := 7) (by repeat (first | exact hPQ | refine PanicOk.then ?_ | refine PanicOk.block ?_ | exact PanicOk.body)) rfl (by kernel_rfl) (by kernel_rfl) (by kernel_rfl) rfl (by first | exact List.nil_sublist _ | exact List.Sublist.refl _ | (repeat (first | exact List.Sublist.refl _ | exact List.nil_sublist _ | refine List.Sublist.cons_cons _ ?_ | refine List.Sublist.cons _ ?_))) (OV.fld fo29_0 rfl) rfl ?_
          refine SA.takeA (i := 8) (by repeat (first | exact hPQ | refine PanicOk.then ?_ | refine PanicOk.block ?_ | exact PanicOk.body)) rfl (by kernel_rfl) (by kernel_rfl) (by kernel_rfl) rfl (by kernel_rfl) (by kernel_rfl) (by first | exact List.nil_sublist _ | exact List.Sublist.refl _ | (repeat (first | exact List.Sublist.refl _ | exact List.nil_sublist _ | refine List.Sublist.cons_cons _ ?_ | refine List.Sublist.cons _ ?_))) (OV.load 1 sc25 rfl rfl rfl) rfl ?_
          refine SA.takeC (i := 9) (by repeat (first | exact hPQ | refine PanicOk.then ?_ | refine PanicOk.block ?_ | exact PanicOk.body)) rfl (by kernel_rfl) (by kernel_rfl) (by kernel_rfl) rfl (by first | exact List.nil_sublist _ | exact List.Sublist.refl _ | (repeat (first | exact List.Sublist.refl _ | exact List.nil_sublist _ | refine List.Sublist.cons_cons _ ?_ | refine List.Sublist.cons _ ?_))) (OV.move rfl) rfl ?_
          refine SA.takeA (i := 10) (by repeat (first | exact hPQ | refine PanicOk.then ?_ | refine PanicOk.block ?_ | exact PanicOk.body)) rfl (by kernel_rfl) (by kernel_rfl) (by kernel_rfl) rfl (by kernel_rfl) (by kernel_rfl) (by first | exact List.nil_sublist _ | exact List.Sublist.refl _ | (repeat (first | exact List.Sublist.refl _ | exact List.nil_sublist _ | refine List.Sublist.cons_cons _ ?_ | refine List.Sublist.cons _ ?_))) ((OV.lookupS 2 u25 u9 hi30 hz30 rfl rfl rfl).is hlook) rfl ?_
          refine SA.takeA (i := 11) (by repeat (first | exact hPQ | refine PanicOk.then ?_ | refine PanicOk.block ?_ | exact PanicOk.body)) rfl (by kernel_rfl) (by kernel_rfl) (by kernel_rfl) rfl (by kernel_rfl) (by kernel_rfl) (by first | exact List.nil_sublist _ | exact List.Sublist.refl _ | (repeat (first | exact List.Sublist.refl _ | exact List.nil_sublist _ | refine List.Sublist.cons_cons _ ?_ | refine List.Sublist.cons _ ?_))) (OV.loadAgg (vs := (D.fd i).cells) 0 ag34 us34 hi34 rfl rfl (by rw [hs34]; rfl) (fun q v h => by rw [Nat.zero_add]; exact h)) rfl ?_
          refine SA.all (rs := [12]) (by kernel_rfl) (by simp) (all_cons ?_ (all_nil))
          · skip
            refine SO.e rfl ((OE.bsliceN (s := 3) (cs := (D.fd i).cells.toArray) u30 hi34 hz34 hs34 (by decide) (by decide) (parts1 rfl) (fill34 _ _ _)).front) rfl (fun _ => (by first | exact List.nil_sublist _ | exact List.Sublist.refl _ | (repeat (first | exact List.Sublist.refl _ | exact List.nil_sublist _ | refine List.Sublist.cons_cons _ ?_ | refine List.Sublist.cons _ ?_)))) ?_
            intro nb
            refine SA.all (rs := [13]) (by kernel_rfl) (by simp) (all_cons ?_ (all_nil))
            · skip
              refine SO.e rfl (OE.appN (ys := (D.fd i).cells) u30 hi34 hz34 hs34 rfl rfl rfl (Src.own0 0 rfl) rfl (Fd.cells_one _) (by rw [hb34]; omega)) rfl (fun _ => (by first | exact List.nil_sublist _ | exact List.Sublist.refl _ | (repeat (first | exact List.Sublist.refl _ | exact List.nil_sublist _ | refine List.Sublist.cons_cons _ ?_ | refine List.Sublist.cons _ ?_)))) ?_
              intro st
              refine SA.all (rs := [14]) (by kernel_rfl) (by simp) (all_cons ?_ (all_nil))
              · skip
                refine SO.s rfl (OS.mapUpdate 6 u25 u9 rfl rfl rfl rfl rfl) (by first | exact List.nil_sublist _ | exact List.Sublist.refl _ | (repeat (first | exact List.Sublist.refl _ | exact List.nil_sublist _ | refine List.Sublist.cons_cons _ ?_ | refine List.Sublist.cons _ ?_))) ?_
                refine SA.done (by kernel_rfl) ?_
                refine SE.weaken (env' := (12, .pointer (some ⟨b12, 0, none⟩)) :: (9, .int .i64 i) :: (11, .string (D.key i)) :: EL D b5 b6 bd W) (by repeat' (first | exact trivial | refine ⟨rfl, ?_⟩)) (List.Sublist.refl _) (SE.perm ?_ (hback ⟨st.1.1, st.1.2.1, [D.fd i], st.1.2.2⟩ nb (row 34 (D.fd i).cells) ⟨⟨by simp, st.2.1, st.2.2.2⟩, by rw [hfz]; rfl⟩))
                rw [← mset_ents]
                exact (((((((hr1.append_left _).cons _).cons _).cons _).cons _).cons _).cons _).cons _
        | some g0 =>
          rw [ho] at hlook hitems hr1 hok
          have hg0 : g0.Ok := hok
          have hgi : g0.items = filt D (D.key i) i := hitems
          have hgl : g0.items.length ≤ i := by rw [hgi]; exact hflen
          refine SC.held 14 [(b12, row 34 (D.fd i).cells), (bd, row 29 (draft bm)), (bm, mobj (ents es))] [] mixed ?_
          refine SA.takeC (i := 0) (by repeat (first | exact hPQ | refine PanicOk.then ?_ | refine PanicOk.block ?_ | exact PanicOk.body)) rfl (by kernel_rfl) (by kernel_rfl) (by kernel_rfl) rfl (by first | exact List.nil_sublist _ | exact List.Sublist.refl _ | (repeat (first | exact List.Sublist.refl _ | exact List.nil_sublist _ | refine List.Sublist.cons_cons _ ?_ | refine List.Sublist.cons _ ?_))) (OV.move rfl) rfl ?_
          refine SA.takeC (i := 1) (by repeat (first | exact hPQ | refine PanicOk.then ?_ | refine PanicOk.block ?_ | exact PanicOk.body)) rfl (by kernel_rfl) (by kernel_rfl) (by kernel_rfl) rfl (by first | exact List.nil_sublist _ | exact List.Sublist.refl _ | (repeat (first | exact List.Sublist.refl _ | exact List.nil_sublist _ | refine List.Sublist.cons_cons _ ?_ | refine List.Sublist.cons _ ?_))) (OV.nilCheck rfl) rfl ?_
          refine SA.takeC (i := 2) (by repeat (first | exact hPQ | refine PanicOk.then ?_ | refine PanicOk.block ?_ | exact PanicOk.body)) rfl (by kernel_rfl) (by kernel_rfl) (by kernel_rfl) rfl (by first | exact List.nil_sublist _ | exact List.Sublist.refl _ | (repeat (first | exact List.Sublist.refl _ | exact List.nil_sublist _ | refine List.Sublist.cons_cons _ ?_ | refine List.Sublist.cons _ ?_))) (OV.fld fo29_0 rfl) rfl ?_
          refine SA.takeA (i := 3) (by repeat (first | exact hPQ | refine PanicOk.then ?_ | refine PanicOk.block ?_ | exact PanicOk.body)) rfl (by kernel_rfl) (by kernel_rfl) (by kernel_rfl) rfl (by kernel_rfl) (by kernel_rfl) (by first | exact List.nil_sublist _ | exact List.Sublist.refl _ | (repeat (first | exact List.Sublist.refl _ | exact List.nil_sublist _ | refine List.Sublist.cons_cons _ ?_ | refine List.Sublist.cons _ ?_))) (OV.load 1 sc25 rfl rfl rfl) rfl ?_
          refine SA.takeC (i := 4) (by repeat (first | exact hPQ | refine PanicOk.then ?_ | refine PanicOk.block ?_ | exact PanicOk.body)) rfl (by kernel_rfl) (by kernel_rfl) (by kernel_rfl) rfl (by first | exact List.nil_sublist _ | exact List.Sublist.refl _ | (repeat (first | exact List.Sublist.refl _ | exact List.nil_sublist _ | refine List.Sublist.cons_cons _ ?_ | refine List.Sublist.cons _ ?_))) (OV.move rfl) rfl ?_
          refine SA.takeC (i := 5) (by repeat (first | exact hPQ | refine PanicOk.then ?_ | refine PanicOk.block ?_ | exact PanicOk.body)) rfl (by kernel_rfl) (by kernel_rfl) (by kernel_rfl) rfl (by first | exact List.nil_sublist _ | exact List.Sublist.refl _ | (repeat (first | exact List.Sublist.refl _ | exact List.nil_sublist _ | refine List.Sublist.cons_cons _ ?_ | refine List.Sublist.cons _ ?_))) (OV.move rfl) rfl ?_
          refine SA.takeC (i := 6) (by repeat (first | exact hPQ | refine PanicOk.then ?_ | refine PanicOk.block ?_ | exact PanicOk.body)) rfl (by kernel_rfl) (by kernel_rfl) (by kernel_rfl) rfl (by first | exact List.nil_sublist _ | exact List.Sublist.refl _ | (repeat (first | exact List.Sublist.refl _ | exact List.nil_sublist _ | refine List.Sublist.cons_cons _ ?_ | refine List.Sublist.cons _ ?_))) (OV.nilCheck rfl) rfl ?_
          refine SA.takeC (i := 7) (by repeat (first | exact hPQ | refine PanicOk.then ?_ | refine PanicOk.block ?_ | exact PanicOk.body)) rfl (by kernel_rfl) (by kernel_rfl) (by kernel_rfl) rfl (by first | exact List.nil_sublist _ | exact List.Sublist.refl _ | (repeat (first | exact List.Sublist.refl _ | exact List.nil_sublist _ | refine List.Sublist.cons_cons _ ?_ | refine List.Sublist.cons _ ?_))) (OV.fld fo29_0 rfl) rfl ?_
          refine SA.takeA (i := 8) (by repeat (first | exact hPQ | refine PanicOk.then ?_ | refine PanicOk.block ?_ | exact PanicOk.body)) rfl (by kernel_rfl) (by kernel_rfl) (by kernel_rfl) rfl (by kernel_rfl) (by kernel_rfl) (by first | exact List.nil_sublist _ | exact List.Sublist.refl _ | (repeat (first | exact List.Sublist.refl _ | exact List.nil_sublist _ | refine List.Sublist.cons_cons _ ?_ | refine List.Sublist.cons _ ?_))) (OV.load 1 sc25 rfl rfl rfl) rfl ?_
          refine SA.takeC (i := 9) (by repeat (first | exact hPQ | refine PanicOk.then ?_ | refine PanicOk.block ?_ | exact PanicOk.body)) rfl (by kernel_rfl) (by kernel_rfl) (by kernel_rfl) rfl (by first | exact List.nil_sublist _ | exact List.Sublist.refl _ | (repeat (first | exact List.Sublist.refl _ | exact List.nil_sublist _ | refine List.Sublist.cons_cons _ ?_ | refine List.Sublist.cons _ ?_))) (OV.move rfl) rfl ?_
          refine SA.takeA (i := 10) (by repeat (first | exact hPQ | refine PanicOk.then ?_ | refine PanicOk.block ?_ | exact PanicOk.body)) rfl (by kernel_rfl) (by kernel_rfl) (by kernel_rfl) rfl (by kernel_rfl) (by kernel_rfl) (by first | exact List.nil_sublist _ | exact List.Sublist.refl _ | (repeat (first | exact List.Sublist.refl _ | exact List.nil_sublist _ | refine List.Sublist.cons_cons _ ?_ | refine List.Sublist.cons _ ?_))) ((OV.lookupS 2 u25 u9 hi30 hz30 rfl rfl rfl).is hlook) rfl ?_
          refine SA.takeA (i := 11) (by repeat (first | exact hPQ | refine PanicOk.then ?_ | refine PanicOk.block ?_ | exact PanicOk.body)) rfl (by kernel_rfl) (by kernel_rfl) (by kernel_rfl) rfl (by kernel_rfl) (by kernel_rfl) (by first | exact List.nil_sublist _ | exact List.Sublist.refl _ | (repeat (first | exact List.Sublist.refl _ | exact List.nil_sublist _ | refine List.Sublist.cons_cons _ ?_ | refine List.Sublist.cons _ ?_))) (OV.loadAgg (vs := (D.fd i).cells) 0 ag34 us34 hi34 rfl rfl (by rw [hs34]; rfl) (fun q v h => by rw [Nat.zero_add]; exact h)) rfl ?_
          refine SA.all (rs := [12]) (by kernel_rfl) (by simp) (all_cons ?_ (all_nil))
          · skip
            refine SO.e rfl ((OE.bsliceN (s := 3) (cs := (D.fd i).cells.toArray) u30 hi34 hz34 hs34 (by decide) (by decide) (parts1 rfl) (fill34 _ _ _)).front) rfl (fun _ => (by first | exact List.nil_sublist _ | exact List.Sublist.refl _ | (repeat (first | exact List.Sublist.refl _ | exact List.nil_sublist _ | refine List.Sublist.cons_cons _ ?_ | refine List.Sublist.cons _ ?_)))) ?_
            intro nb
            refine SA.all (rs := [13]) (by kernel_rfl) (by simp) (all_cons ?_ (all_nil))
            · skip
              refine SO.e rfl (OE.appG (cs := fcells g0.items) (sp := g0.sp) (ys := (D.fd i).cells) u30 hi34 hz34 hs34 rfl rfl rfl (perm_pull (L := [_, _, _, _, _, _]) hr1) (Src.own0 0 rfl) rfl (Fd.cells_one _) (fcells_len _) hg0.len hg0.cap (by unfold maxLen; omega) (by rw [hb34]; omega)) rfl (fun _ => (by first | exact List.nil_sublist _ | exact List.Sublist.refl _ | (repeat (first | exact List.Sublist.refl _ | exact List.nil_sublist _ | refine List.Sublist.cons_cons _ ?_ | refine List.Sublist.cons _ ?_)))) ?_
              intro st
              refine SA.all (rs := [14]) (by kernel_rfl) (by simp) (all_cons ?_ (all_nil))
              · skip
                refine SO.s rfl (OS.mapUpdate 6 u25 u9 rfl rfl rfl rfl rfl) (by first | exact List.nil_sublist _ | exact List.Sublist.refl _ | (repeat (first | exact List.Sublist.refl _ | exact List.nil_sublist _ | refine List.Sublist.cons_cons _ ?_ | refine List.Sublist.cons _ ?_))) ?_
                refine SA.done (by kernel_rfl) ?_
                have hgn : (GS.mk st.1.1 st.1.2.1 (g0.items ++ [D.fd i]) st.1.2.2).Ok := ⟨by simp, st.2.1, by rw [fcells_snoc]; exact st.2.2.2⟩
                have hval : (GS.mk st.1.1 st.1.2.1 (g0.items ++ [D.fd i]) st.1.2.2).val = .slice (some ⟨st.1.1, 0, none⟩) (g0.items.length + 1) st.1.2.1 := by simp [GS.val]
                have hobj : gblk (GS.mk st.1.1 st.1.2.1 (g0.items ++ [D.fd i]) st.1.2.2) = (st.1.1, row 34 (fcells g0.items ++ (D.fd i).cells ++ st.1.2.2)) := by simp only [gblk, GS.obj, fcells_snoc]
                refine SE.weaken (env' := (12, .pointer (some ⟨b12, 0, none⟩)) :: (9, .int .i64 i) :: (11, .string (D.key i)) :: EL D b5 b6 bd W) (by repeat' (first | exact trivial | refine ⟨rfl, ?_⟩)) (List.Sublist.refl _) (SE.perm ?_ (hback _ nb (row 34 (D.fd i).cells) ⟨hgn, by rw [← hgi]⟩))
                rw [← mset_ents, hval, hobj]
                exact List.Perm.refl _
      intro g hg
      obtain ⟨hgok, hgitems⟩ := hg
      have hwok := hinv.wok
      have hwant := hinv.want
      refine SC.seq ?_
      refine SC.region ?_
      refine SL.y (OV.move rfl) rfl ?_
      refine SL.y (OV.move rfl) rfl ?_
      refine SL.y (OV.eqlS rfl rfl) rfl ?_
      refine SL.nil ?_
      refine SC.then ?_
      refine SC.condP rfl (fun heq => ?_) (fun hne => ?_)
      · have hnext : filt D D.path (i + 1) = filt D D.path i ++ [D.fd i] := by
          show (if D.key i = D.path then _ else _) = _
          rw [if_pos heq]
        cases W with
        | none =>
          have hwz : filt D D.path i = [] := hwant.symm
          refine SC.region ?_
          refine SL.y (OV.move rfl) rfl ?_
          refine SL.y (OV.loadAgg (vs := (D.fd i).cells) 0 ag34 us34 hi34 rfl rfl (by rw [hs34]; rfl) (fun q v h => by rw [Nat.zero_add]; exact h)) rfl ?_
          refine SL.e ((OE.bsliceN (s := 3) (cs := (D.fd i).cells.toArray) u30 hi34 hz34 hs34 (by decide) (by decide) (parts1 rfl) (fill34 _ _ _)).front) rfl ?_
          intro nb
          refine SL.e (OE.appN (ys := (D.fd i).cells) u30 hi34 hz34 hs34 rfl rfl rfl (Src.own0 0 rfl) rfl (Fd.cells_one _) (by rw [hb34]; omega)) rfl ?_
          intro st
          refine SL.y (OV.assign rfl) rfl ?_
          refine SL.nil ?_
          refine SE.nb (SE.perm ((List.perm_middle (l₁ := [_, _, _, _, _, _])).symm) (SE.toG (gset es (D.key i) g, some ⟨st.1.1, st.1.2.1, [D.fd i], st.1.2.2⟩) ?_ (by repeat' (first | exact trivial | refine ⟨rfl, ?_⟩)) ?_))
          · exact hinv.next hgok hgitems ⟨by simp, st.2.1, st.2.2.2⟩ (by rw [hnext, hwz]; rfl)
          · exact ((List.Sublist.refl _).cons _).cons _
        | some gw =>
          have hgw : gw.Ok := hwok
          have hgwi : gw.items = filt D D.path i := hwant
          have hgwl : gw.items.length ≤ i := by rw [hgwi]; exact hwlen
          refine SC.region ?_
          refine SL.y (OV.move rfl) rfl ?_
          refine SL.y (OV.loadAgg (vs := (D.fd i).cells) 0 ag34 us34 hi34 rfl rfl (by rw [hs34]; rfl) (fun q v h => by rw [Nat.zero_add]; exact h)) rfl ?_
          refine SL.e ((OE.bsliceN (s := 3) (cs := (D.fd i).cells.toArray) u30 hi34 hz34 hs34 (by decide) (by decide) (parts1 rfl) (fill34 _ _ _)).front) rfl ?_
          intro nb
          refine SL.e (OE.appG (cs := fcells gw.items) (sp := gw.sp) (ys := (D.fd i).cells) u30 hi34 hz34 hs34 rfl rfl rfl (List.perm_middle (l₁ := [_, _, _, _, _, _])) (Src.own0 0 rfl) rfl (Fd.cells_one _) (fcells_len _) hgw.len hgw.cap (by unfold maxLen; omega) (by rw [hb34]; omega)) rfl ?_
          intro st
          refine SL.y (OV.assign rfl) rfl ?_
          refine SL.nil ?_
          have hgn : (GS.mk st.1.1 st.1.2.1 (gw.items ++ [D.fd i]) st.1.2.2).Ok := ⟨by simp, st.2.1, by rw [fcells_snoc]; exact st.2.2.2⟩
          have hval : oval (some (GS.mk st.1.1 st.1.2.1 (gw.items ++ [D.fd i]) st.1.2.2)) = .slice (some ⟨st.1.1, 0, none⟩) (gw.items.length + 1) st.1.2.1 := by simp [oval, GS.val]
          have hobj : omem (some (GS.mk st.1.1 st.1.2.1 (gw.items ++ [D.fd i]) st.1.2.2)) = [(st.1.1, row 34 (fcells gw.items ++ (D.fd i).cells ++ st.1.2.2))] := by simp only [omem, GS.obj, fcells_snoc]
          refine SE.nb (SE.perm ((List.perm_middle (l₁ := [_, _, _, _, _, _])).symm) (SE.toG (gset es (D.key i) g, some ⟨st.1.1, st.1.2.1, gw.items ++ [D.fd i], st.1.2.2⟩) ?_ ?_ ?_))
          · exact hinv.next hgok hgitems hgn (by rw [hnext, ← hgwi]; rfl)
          · refine ⟨rfl, rfl, rfl, rfl, rfl, rfl, ?_, trivial⟩
            rw [hval]
            rfl
          · dsimp only
            rw [hobj]
            exact ((List.Sublist.refl _).cons _).cons _
      · have hnext : filt D D.path (i + 1) = filt D D.path i := by
          show (if D.key i = D.path then _ else _) = _
          rw [if_neg hne]
        refine SC.skip ?_
        refine SE.nb (SE.toG (gset es (D.key i) g, W) ?_ (by repeat' (first | exact trivial | refine ⟨rfl, ?_⟩)) ?_)
        · exact hinv.next hgok hgitems hwok (by rw [hnext]; exact hwant)
        · exact (List.Sublist.refl _).cons _
    rintro ⟨es', W'⟩ hinv'
    dsimp only at hinv' ⊢
    refine SC.region ?_
    refine SL.y (OV.move rfl) rfl ?_
    refine SL.y (OV.add rfl rfl (wrap_i64 (by omega) (by omega))) rfl ?_
    refine SL.y (OV.assign rfl) rfl ?_
    refine SL.nil ?_
    exact SE.roundAB (i + 1) (es', W') ⟨by omega, hinv'⟩ (by omega) (by repeat' (first | exact trivial | refine ⟨rfl, ?_⟩)) (List.Sublist.refl _)
  · have hin : i = D.n := by omega
    subst hin
    refine SC.exit ?_
    refine SE.thenE (SE.thenE (SE.inBlock ?_))
    exact SE.weaken (by repeat' (first | exact trivial | refine ⟨rfl, ?_⟩)) (List.Sublist.refl _) (h es W hinv)
end
end Go.Proofs.Ybulkdrdy
