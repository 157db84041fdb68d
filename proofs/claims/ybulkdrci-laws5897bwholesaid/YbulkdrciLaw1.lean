import Derived.Test.YbulkdrciLibc
import Derived.Test.YbulkdrciOps2
import Derived.Test.YbulkdrciPlain2
namespace Go.Proofs.Ybulkdrci.LawB
open Go Go.RowKit Go.Proofs.Ybulkdrci Go.Proofs.Ybulkdrci.Sym Go.Proofs.Ybulkdrci.Pl
set_option linter.unusedVariables false
set_option linter.unusedSimpArgs false

/-- What the law is handed, and what it makes of it. -/
structure LB where
  (a0 a1 a2 : Option Addr)
  (n c0 l1 c1 l2 c2 T I : Nat)
  (m5 : Int)
  (kd : Nat → Int)
  (tx it : Nat → Nat)
  (alive : Nat → Bool)

structure LH (D : LB) (w0 : World) : Prop where
  nle : D.n ≤ 4096
  T1 : 1 ≤ D.T
  T6 : D.T ≤ 6
  I1 : 1 ≤ D.I
  I5 : D.I ≤ 5
  m0 : 0 ≤ D.m5
  m255 : D.m5 ≤ 255
  hkd : ∀ p, p < D.n → ∃ A z, D.a0 = some A ∧ w0.cell? (A.add p) = some (.int .u8 z) ∧ D.kd p = if z.tmod 2 = 1 then 2 else 1
  htx : ∀ p, p < D.n → p < D.l1 → ∃ A z, D.a1 = some A ∧ w0.cell? (A.add p) = some (.int .u8 z) ∧ 0 ≤ z ∧ z ≤ 255 ∧ z.tmod D.T = D.tx p
  htx0 : ∀ p, ¬ p < D.l1 → D.tx p = 0
  hit : ∀ p, p < D.n → p < D.l2 → ∃ A z, D.a2 = some A ∧ w0.cell? (A.add p) = some (.int .u8 z) ∧ 0 ≤ z ∧ z ≤ 255 ∧ z.tmod D.I = D.it p
  hit0 : ∀ p, ¬ p < D.l2 → D.it p = 0
  txT : ∀ p, D.tx p < D.T
  itI : ∀ p, D.it p < D.I
  hal : ∀ t, t < D.T → ∀ r : Int, r = IntKind.u8.wrap ((BitVec.ofInt IntKind.u8.bits (D.m5.fdiv (2 ^ (min (t : Int).toNat IntKind.u8.bits))) &&& BitVec.ofInt IntKind.u8.bits 1).toNat : Int) → decide (r = 0) = D.alive t

def abcde : ByteArray := ⟨#[97, 98, 99, 100, 101]⟩
def itemStr (x : Nat) : ByteArray := abcde.extract x (x + 1)
/-- The cells of the history. -/
def hcell (kd : Nat → Int) (tx it : Nat → Nat) (q : Nat) : Value := if q % 3 = 0 then .int .u8 (kd (q / 3)) else if q % 3 = 1 then .int .i64 ((tx (q / 3) : Int) + 1) else .string (itemStr (it (q / 3)))
def hzero (q : Nat) : Value := if q % 3 = 0 then .int .u8 0 else if q % 3 = 1 then .int .i64 0 else .string ⟨#[]⟩
def hfill (D : LB) (k q : Nat) : Value := if q < k * 3 then hcell D.kd D.tx D.it q else hzero q
abbrev hist (D : LB) (k : Nat) : Obj := row 50 (tab (D.n * 3) (hfill D k))

theorem hfill_step (D : LB) (k q : Nat) : (if q = 0 + k * 3 then Value.int .u8 (D.kd k) else if q = 0 + k * 3 + 1 then .int .i64 ((D.tx k : Int) + 1) else if q = 0 + k * 3 + 2 then .string (itemStr (D.it k)) else hfill D k q) = hfill D (k + 1) q := by
  unfold hfill hcell
  by_cases h0 : q = 0 + k * 3
  · have e1 : q / 3 = k := by omega
    have e2 : q % 3 = 0 := by omega
    rw [if_pos h0, if_pos (by omega), if_pos e2, e1]
  · rw [if_neg h0]
    by_cases h1 : q = 0 + k * 3 + 1
    · have e1 : q / 3 = k := by omega
      have e2 : q % 3 = 1 := by omega
      rw [if_pos h1, if_pos (by omega), if_neg (by omega), if_pos e2, e1]
    · rw [if_neg h1]
      by_cases h2 : q = 0 + k * 3 + 2
      · have e1 : q / 3 = k := by omega
        rw [if_pos h2, if_pos (by omega), if_neg (by omega), if_neg (by omega), e1]
      · rw [if_neg h2]
        by_cases h3 : q < k * 3
        · rw [if_pos h3, if_pos (show q < (k + 1) * 3 by omega)]
        · rw [if_neg h3, if_neg (show ¬ q < (k + 1) * 3 by omega)]

theorem build50 (a t : Int) (s : ByteArray) (w : World) : (Instr.build 50 #[(0, .int .u8 a), (1, .int .i64 t), (2, .string s)]).run Yba.prog w = .ok (.agg #[.int .u8 a, .int .i64 t, .string s]) w := by kernel_rfl

abbrev EL (D : LB) (bh btx bit : Nat) : Env := [(0, .slice D.a0 D.n D.c0), (1, .slice D.a1 D.l1 D.c1), (2, .slice D.a2 D.l2 D.c2), (5, .int .u8 D.m5), (13, .int .i64 D.T), (14, .int .i64 D.I), (15, .int .i64 D.n), (16, .slice (some ⟨bh, 0, none⟩) D.n D.n), (17, .slice (some ⟨btx, 0, none⟩) D.n D.n), (18, .slice (some ⟨bit, 0, none⟩) D.n D.n)]
abbrev ML (D : LB) (bh btx bit k : Nat) : List Blk := [(bh, hist D k), (btx, irow 21 .i32 D.n fun q => if q < k then (D.tx q : Int) else 0), (bit, irow 21 .i32 D.n fun q => if q < k then (D.it q : Int) else 0)]

section
variable {D : LB} {w0 : World} {Q : Exit → Act → World → Prop} {bh btx bit bn bt ct bp cp bst : Nat}

set_option maxHeartbeats 1000000 in
theorem loop1 (H : LH D w0) (h : SE (Q .normal) Yba.f4.ntmps (EL D bh btx bit) w0 [] (ML D bh btx bit D.n)) :
    SC Yba.prog (sub [1, 1, 1, 1, 1, 1, 1, 1, 0, 1] (Yba.f4.body.getD .skip)) Q Yba.f4.ntmps ((19, .int .i64 (0 : Nat)) :: EL D bh btx bit) w0 [] (ML D bh btx bit 0) := by
  obtain ⟨i50, hi50, _, hs50, _⟩ := info_parts info50
  have hn := H.nle
  have hT := H.T6
  have hI := H.I5
  refine SC.block ?_
  refine SC.loop (fun k : Nat => (19, .int .i64 k) :: EL D bh btx bit) (fun k => ML D bh btx bit k) (fun k => k ≤ D.n) (fun k => D.n - k) 0 (Nat.zero_le _) (by repeat' (first | exact trivial | refine ⟨rfl, ?_⟩)) (List.Sublist.refl _) ?_
  intro k hk
  refine SC.seq ?_
  refine SC.seq ?_
  refine SC.region ?_
  refine SL.y (OV.move rfl) rfl ?_
  refine SL.y (OV.move rfl) rfl ?_
  refine SL.y (OV.lss rfl rfl) rfl ?_
  refine SL.nil ?_
  refine SC.then ?_
  refine SC.condP rfl (fun hlt => ?_) (fun hge => ?_)
  · have hlt' : k < D.n := by omega
    obtain ⟨A, z, hA, hz, hkd⟩ := H.hkd k hlt'
    have htT := H.txT k
    have hiI := H.itI k
    refine SC.skip ?_
    refine SC.then ?_
    refine SC.seq ?_
    refine SC.block ?_
    refine SC.seq ?_
    refine SC.region ?_
    refine SL.y (OV.assign rfl) rfl ?_
    refine SL.nil ?_
    refine SC.then ?_
    refine SC.cutSt ((20, .int .u8 (D.kd k)) :: (19, .int .i64 k) :: EL D bh btx bit) (ML D bh btx bit k) ?_ ?_
    · skip
      refine SC.seq ?_
      refine SC.region ?_
      refine SL.y (OV.move rfl) rfl ?_
      refine SL.y (OV.move rfl) rfl ?_
      refine SL.y (OV.idxO k u22 se22 rfl hA rfl rfl (by omega)) rfl ?_
      refine SL.y (OV.loadOldA sc5 rfl (by simp) hz) rfl ?_
      refine SL.y (OV.rem rfl rfl (by decide) rfl) rfl ?_
      refine SL.y (OV.eql rfl rfl) rfl ?_
      refine SL.nil ?_
      refine SC.then ?_
      refine SC.condP rfl (fun h1 => ?_) (fun h1 => ?_)
      · skip
        refine SC.region ?_
        refine SL.y (OV.assign rfl) rfl ?_
        refine SL.nil ?_
        refine SE.toSt ?_ (List.Sublist.refl _)
        rw [hkd, if_pos h1]
        exact (by repeat' (first | exact trivial | refine ⟨rfl, ?_⟩))
      · refine SC.skip ?_
        refine SE.toSt ?_ (List.Sublist.refl _)
        rw [hkd, if_neg h1]
        exact (by repeat' (first | exact trivial | refine ⟨rfl, ?_⟩))
    refine SC.seq ?_
    refine SC.region ?_
    refine SL.y (OV.assign rfl) rfl ?_
    refine SL.nil ?_
    refine SC.then ?_
    refine SC.cutSt ((21, .int .i64 (D.tx k)) :: (20, .int .u8 (D.kd k)) :: (19, .int .i64 k) :: EL D bh btx bit) (ML D bh btx bit k) ?_ ?_
    · skip
      refine SC.seq ?_
      refine SC.region ?_
      refine SL.y (OV.move rfl) rfl ?_
      refine SL.y (OV.move rfl) rfl ?_
      refine SL.y (OV.len u22 rfl) rfl ?_
      refine SL.y (OV.lss rfl rfl) rfl ?_
      refine SL.nil ?_
      refine SC.then ?_
      refine SC.condP rfl (fun h1 => ?_) (fun h1 => ?_)
      · obtain ⟨A1, z1, hA1, hz1, h0, h255, hm⟩ := H.htx k hlt' (by omega)
        refine SC.region ?_
        refine SL.y (OV.move rfl) rfl ?_
        refine SL.y (OV.move rfl) rfl ?_
        refine SL.y (OV.idxO k u22 se22 rfl hA1 rfl rfl (by omega)) rfl ?_
        refine SL.y (OV.loadOldA sc5 rfl (by simp) hz1) rfl ?_
        refine SL.y (OV.conv u5 u3 rfl (wrap_i64 (by omega) (by omega))) rfl ?_
        refine SL.y (OV.move rfl) rfl ?_
        refine SL.y (OV.rem rfl rfl (by omega) hm) rfl ?_
        refine SL.y (OV.assign rfl) rfl ?_
        refine SL.nil ?_
        exact SE.toSt (by repeat' (first | exact trivial | refine ⟨rfl, ?_⟩)) (List.Sublist.refl _)
      · have h0 := H.htx0 k (by omega)
        refine SC.skip ?_
        refine SE.toSt ?_ (List.Sublist.refl _)
        rw [h0]
        exact (by repeat' (first | exact trivial | refine ⟨rfl, ?_⟩))
    refine SC.seq ?_
    refine SC.region ?_
    refine SL.y (OV.assign rfl) rfl ?_
    refine SL.nil ?_
    refine SC.then ?_
    refine SC.cutSt ((22, .int .i64 (D.it k)) :: (21, .int .i64 (D.tx k)) :: (20, .int .u8 (D.kd k)) :: (19, .int .i64 k) :: EL D bh btx bit) (ML D bh btx bit k) ?_ ?_
    · skip
      refine SC.seq ?_
      refine SC.region ?_
      refine SL.y (OV.move rfl) rfl ?_
      refine SL.y (OV.move rfl) rfl ?_
      refine SL.y (OV.len u22 rfl) rfl ?_
      refine SL.y (OV.lss rfl rfl) rfl ?_
      refine SL.nil ?_
      refine SC.then ?_
      refine SC.condP rfl (fun h1 => ?_) (fun h1 => ?_)
      · obtain ⟨A1, z1, hA1, hz1, h0, h255, hm⟩ := H.hit k hlt' (by omega)
        refine SC.region ?_
        refine SL.y (OV.move rfl) rfl ?_
        refine SL.y (OV.move rfl) rfl ?_
        refine SL.y (OV.idxO k u22 se22 rfl hA1 rfl rfl (by omega)) rfl ?_
        refine SL.y (OV.loadOldA sc5 rfl (by simp) hz1) rfl ?_
        refine SL.y (OV.conv u5 u3 rfl (wrap_i64 (by omega) (by omega))) rfl ?_
        refine SL.y (OV.move rfl) rfl ?_
        refine SL.y (OV.rem rfl rfl (by omega) hm) rfl ?_
        refine SL.y (OV.assign rfl) rfl ?_
        refine SL.nil ?_
        exact SE.toSt (by repeat' (first | exact trivial | refine ⟨rfl, ?_⟩)) (List.Sublist.refl _)
      · have h0 := H.hit0 k (by omega)
        refine SC.skip ?_
        refine SE.toSt ?_ (List.Sublist.refl _)
        rw [h0]
        exact (by repeat' (first | exact trivial | refine ⟨rfl, ?_⟩))
    refine SC.seq ?_
    refine SC.region ?_
    refine SL.y (OV.move rfl) rfl ?_
    refine SL.y (OV.move rfl) rfl ?_
    refine SL.y (OV.move rfl) rfl ?_
    refine SL.y (OV.move rfl) rfl ?_
    refine SL.y (OV.add rfl rfl (wrap_i64 (by omega) (by omega))) rfl ?_
    refine SL.y (OV.move rfl) rfl ?_
    refine SL.y (OV.move rfl) rfl ?_
    refine SL.y (OV.add rfl rfl (wrap_i64 (by omega) (by omega))) rfl ?_
    refine SL.y (OV.sliceString (s := abcde) (D.it k) (D.it k + 1) u9 rfl rfl rfl rfl rfl (by omega) (by show _ ≤ 5; omega)) rfl ?_
    refine SL.y (OV.build (vs := #[(0, .int .u8 (D.kd k)), (1, .int .i64 ((D.tx k : Int) + 1)), (2, .string (itemStr (D.it k)))]) (fun ρ hρ => by simp [hρ _ _ (show ev _ (.tmp 115) = some (.int .u8 (D.kd k)) from rfl), hρ _ _ (show ev _ (.tmp 117) = some (.int .i64 ((D.tx k : Int) + 1)) from rfl), hρ _ _ (show ev _ (.tmp 121) = some (.string (itemStr (D.it k))) from rfl)]) (build50 _ _ _)) rfl ?_
    refine SL.y (OV.idx k u46 hi50 hs50 rfl rfl rfl (by omega)) rfl ?_
    refine SL.s (OS.store 0 hi50 rfl rfl rfl (by simp [Value.cells, hs50]) (by simp [Value.cells, Value.oneCell']) (by rw [length_tab]; simp [Value.cells]; omega)) ?_
    refine SL.nil ?_
    refine SC.then ?_
    refine SC.seq ?_
    refine SC.region ?_
    refine SL.y (OV.move rfl) rfl ?_
    refine SL.y (OV.move rfl) rfl ?_
    refine SL.y (OV.move rfl) rfl ?_
    refine SL.y (OV.conv u3 u21 rfl (wrap_i32 (by omega) (by omega))) rfl ?_
    refine SL.y (OV.idx1 _ u47 se47 rfl rfl rfl (by omega)) rfl ?_
    refine SL.s (OS.storeI 1 sz21 rfl rfl rfl (by omega)) ?_
    refine SL.nil ?_
    refine SC.then ?_
    refine SC.region ?_
    refine SL.y (OV.move rfl) rfl ?_
    refine SL.y (OV.move rfl) rfl ?_
    refine SL.y (OV.move rfl) rfl ?_
    refine SL.y (OV.conv u3 u21 rfl (wrap_i32 (by omega) (by omega))) rfl ?_
    refine SL.y (OV.idx1 _ u47 se47 rfl rfl rfl (by omega)) rfl ?_
    refine SL.s (OS.storeI 2 sz21 rfl rfl rfl (by omega)) ?_
    refine SL.nil ?_
    refine SE.nb ?_
    refine SC.then ?_
    refine SC.region ?_
    refine SL.y (OV.move rfl) rfl ?_
    refine SL.y (OV.add rfl rfl (wrap_i64 (by omega) (by omega))) rfl ?_
    refine SL.y (OV.assign rfl) rfl ?_
    refine SL.nil ?_
    refine SE.round (k + 1) (by omega) (by omega) (by repeat' (first | exact trivial | refine ⟨rfl, ?_⟩)) ?_
    have e1 := tab_splice3 (N := D.n * 3) (o := 0 + k * 3) (f := hfill D k) (v0 := .int .u8 (D.kd k)) (v1 := .int .i64 ((D.tx k : Int) + 1)) (v2 := .string (itemStr (D.it k))) (by omega)
    rw [tab_congr fun q _ => hfill_step D k q] at e1
    unfold ML hist
    rw [← e1, ← upd_fill (fun q => (D.tx q : Int)), ← upd_fill (fun q => (D.it q : Int))]
    exact List.Sublist.refl _
  · have : k = D.n := by omega
    subst this
    refine SC.exit ?_
    refine SE.thenE (SE.thenE (SE.inBlock ?_))
    exact SE.weaken (by repeat' (first | exact trivial | refine ⟨rfl, ?_⟩)) (List.Sublist.refl _) h

abbrev nd (D : LB) : Nat → Int := ndOf D.alive
abbrev C (D : LB) : Nat := cntTo D.alive D.T
/-- The history, txnIdx, itemIdx are filled. -/
abbrev MF (D : LB) (bh btx bit : Nat) : List Blk := [(bh, hist D D.n), (btx, irow 21 .i32 D.n fun q => (D.tx q : Int)), (bit, irow 21 .i32 D.n fun q => (D.it q : Int))]

set_option maxHeartbeats 1000000 in
theorem loop2 (H : LH D w0) {sp0 : List Value} (hsp0 : sp0.length = D.T)
    (h : ∀ sp : List Value, C D + sp.length = D.T → SE (Q .normal) Yba.f4.ntmps ((23, .slice (some ⟨bn, 0, none⟩) D.T D.T) :: (24, .slice (some ⟨bt, 0, none⟩) (C D) D.T) :: EL D bh btx bit) w0 [] (MF D bh btx bit ++ [(bn, irow 21 .i32 D.T (nd D)), (bt, lrow 3 .i64 (txnsTo D.alive D.T) sp)])) :
    SC Yba.prog (sub [1, 1, 1, 1, 1, 1, 1, 1, 1, 1, 1, 0, 1] (Yba.f4.body.getD .skip)) Q Yba.f4.ntmps ((25, .int .i64 (0 : Nat)) :: (23, .slice (some ⟨bn, 0, none⟩) D.T D.T) :: (24, .slice (some ⟨bt, 0, none⟩) 0 D.T) :: EL D bh btx bit) w0 [] (MF D bh btx bit ++ [(bn, irow 21 .i32 D.T fun _ => 0), (bt, lrow 3 .i64 [] sp0)]) := by
  have hT := H.T6
  have hm0 := H.m0
  have hm255 := H.m255
  refine SC.block ?_
  refine SC.loopAB (fun (t : Nat) (sp : List Value) => (25, .int .i64 t) :: (23, .slice (some ⟨bn, 0, none⟩) D.T D.T) :: (24, .slice (some ⟨bt, 0, none⟩) (cntTo D.alive t) D.T) :: EL D bh btx bit)
    (fun t sp => MF D bh btx bit ++ [(bn, irow 21 .i32 D.T fun q => if q < t then nd D q else 0), (bt, lrow 3 .i64 (txnsTo D.alive t) sp)]) (fun t sp => t ≤ D.T ∧ cntTo D.alive t + sp.length = D.T) (fun t _ => D.T - t) 0 sp0 ⟨Nat.zero_le _, by simp [cntTo, hsp0]⟩ (by repeat' (first | exact trivial | refine ⟨rfl, ?_⟩)) (List.Sublist.refl _) ?_
  rintro t sp ⟨ht, hsp⟩
  have hcle := cntTo_le D.alive t
  have hcs := cntTo_succ D.alive t
  have hts := txnsTo_succ D.alive t
  have htl := txnsTo_len D.alive t
  refine SC.seq ?_
  refine SC.seq ?_
  refine SC.region ?_
  refine SL.y (OV.move rfl) rfl ?_
  refine SL.y (OV.move rfl) rfl ?_
  refine SL.y (OV.lss rfl rfl) rfl ?_
  refine SL.nil ?_
  refine SC.then ?_
  refine SC.condP rfl (fun hlt => ?_) (fun hge => ?_)
  · have hlt' : t < D.T := by omega
    have hal := H.hal t hlt' _ rfl
    have hndt : nd D t = if D.alive t = true then (cntTo D.alive t : Int) else -1 := rfl
    refine SC.skip ?_
    refine SC.then ?_
    refine SC.seq ?_
    refine SC.block ?_
    refine SC.seq ?_
    refine SC.region ?_
    refine SL.y (OV.move rfl) rfl ?_
    refine SL.y (OV.move rfl) rfl ?_
    refine SL.y (OV.conv u3 u52 rfl (wrap_u64 (by omega) (by omega))) rfl ?_
    refine SL.y (OV.shr rfl rfl (by omega) rfl) rfl ?_
    refine SL.y (OV.and rfl rfl rfl) rfl ?_
    refine SL.y (OV.eql rfl rfl) rfl ?_
    refine SL.nil ?_
    refine SC.then ?_
    refine SC.cond (b := D.alive t) (by rw [← hal]; rfl) (fun ha => ?_) (fun ha => ?_)
    · rw [if_pos ha] at hcs hts hndt
      refine SC.seq ?_
      refine SC.region ?_
      refine SL.y (OV.move rfl) rfl ?_
      refine SL.y (OV.move rfl) rfl ?_
      refine SL.y (OV.move rfl) rfl ?_
      refine SL.y (OV.len u51 rfl) rfl ?_
      refine SL.y (OV.conv u3 u21 rfl (wrap_i32 (by omega) (by omega))) rfl ?_
      refine SL.y (OV.idx1 _ u47 se47 rfl rfl rfl (by omega)) rfl ?_
      refine SL.s (OS.storeI 3 sz21 rfl rfl rfl (by omega)) ?_
      refine SL.nil ?_
      refine SC.then ?_
      refine SC.region ?_
      refine SL.y (OV.move rfl) rfl ?_
      refine SL.y (OV.move rfl) rfl ?_
      refine SL.y (OV.mul rfl rfl (wrap_i64 (by omega) (by omega))) rfl ?_
      refine SL.y (OV.add rfl rfl (wrap_i64 (by omega) (by omega))) rfl ?_
      refine SL.e (OE.bslice1I u51 in3 rfl) rfl ?_
      intro b1
      refine SL.e (OE.appendRoomI 4 5 u51 in3 rfl rfl rfl rfl htl.symm hsp (by omega)) rfl ?_
      intro _
      refine SL.y (OV.assign rfl) rfl ?_
      refine SL.nil ?_
      refine SE.nb ?_
      refine SC.then ?_
      refine SC.region ?_
      refine SL.y (OV.move rfl) rfl ?_
      refine SL.y (OV.add rfl rfl (wrap_i64 (by omega) (by omega))) rfl ?_
      refine SL.y (OV.assign rfl) rfl ?_
      refine SL.nil ?_
      refine SE.roundAB (t + 1) (sp.drop 1) ⟨by omega, by simp [hcs]; omega⟩ (by omega) ?_ ?_
      · rw [hcs]
        exact (by repeat' (first | exact trivial | refine ⟨rfl, ?_⟩))
      · rw [hts, ← upd_fill (nd D), hndt]
        exact (by repeat (first | exact List.nil_sublist _ | refine List.Sublist.cons_cons _ ?_ | refine List.Sublist.cons _ ?_))
    · have ha' : ¬ D.alive t = true := by simp [ha]
      rw [if_neg ha'] at hcs hts hndt
      refine SC.region ?_
      refine SL.y (OV.move rfl) rfl ?_
      refine SL.y (OV.move rfl) rfl ?_
      refine SL.y (OV.idx1 _ u47 se47 rfl rfl rfl (by omega)) rfl ?_
      refine SL.s (OS.storeI 3 sz21 rfl rfl rfl (by omega)) ?_
      refine SL.nil ?_
      refine SE.nb ?_
      refine SC.then ?_
      refine SC.region ?_
      refine SL.y (OV.move rfl) rfl ?_
      refine SL.y (OV.add rfl rfl (wrap_i64 (by omega) (by omega))) rfl ?_
      refine SL.y (OV.assign rfl) rfl ?_
      refine SL.nil ?_
      refine SE.roundAB (t + 1) sp ⟨by omega, by simp [hcs]; omega⟩ (by omega) ?_ ?_
      · rw [hcs]
        exact (by repeat' (first | exact trivial | refine ⟨rfl, ?_⟩))
      · rw [hts, ← upd_fill (nd D), hndt]
        exact (List.Sublist.refl _)
  · have hte : t = D.T := by omega
    subst hte
    refine SC.exit ?_
    refine SE.thenE (SE.thenE (SE.inBlock ?_))
    refine SE.weaken (by repeat' (first | exact trivial | refine ⟨rfl, ?_⟩)) ?_ (h sp hsp)
    rw [irow_fill]
    exact (List.Sublist.refl _)

abbrev E2 (D : LB) (bh btx bit bn bt : Nat) : Env := (23, .slice (some ⟨bn, 0, none⟩) D.T D.T) :: (24, .slice (some ⟨bt, 0, none⟩) (C D) D.T) :: EL D bh btx bit
abbrev M2 (D : LB) (bh btx bit bn bt : Nat) (spt : List Value) : List Blk := [(bh, hist D D.n), (btx, irow 21 .i32 D.n fun q => (D.tx q : Int)), (bit, irow 21 .i32 D.n fun q => (D.it q : Int)), (bn, irow 21 .i32 D.T (nd D)), (bt, lrow 3 .i64 (txnsTo D.alive D.T) spt)]
def natsI (l : List Nat) : List Int := l.map fun q : Nat => (q : Int)
theorem natsI_len (l : List Nat) : (natsI l).length = l.length := by simp [natsI]
/-- Where the list of positions lies. -/
structure PL where
  (bp cp : Nat)
  (sp : List Value)
def PL.ok (L : PL) (l : List Nat) : Prop := l.length + L.sp.length = L.cp ∧ L.cp ≤ maxLen
abbrev stt (D : LB) (x : Nat) : Int := ((posTo D.n D.it x).length : Int)

set_option maxHeartbeats 1000000 in
theorem loop4 (H : LH D w0) {spt : List Value} {x : Nat} {f : Nat → Int} (hx : x < D.I) {L0 : PL} (hL0 : L0.ok (posTo D.n D.it x))
    (h : ∀ L : PL, L.ok (posTo D.n D.it (x + 1)) → SE (Q .normal) Yba.f4.ntmps ((28, .int .i64 x) :: (26, .slice (some ⟨L.bp, 0, none⟩) (posTo D.n D.it (x + 1)).length L.cp) :: (27, .slice (some ⟨bst, 0, none⟩) (D.I + 1) (D.I + 1)) :: E2 D bh btx bit bn bt) w0 [] (M2 D bh btx bit bn bt spt ++ [(L.bp, lrow 21 .i32 (natsI (posTo D.n D.it (x + 1))) L.sp), (bst, irow 21 .i32 (D.I + 1) f)])) :
    SC Yba.prog (sub [1, 1, 1, 1, 1, 1, 1, 1, 1, 1, 1, 1, 1, 1, 0, 1, 2, 2, 1, 0, 2, 1, 1] (Yba.f4.body.getD .skip)) Q Yba.f4.ntmps ((29, .int .i64 (0 : Nat)) :: (28, .int .i64 x) :: (26, .slice (some ⟨L0.bp, 0, none⟩) (posTo D.n D.it x).length L0.cp) :: (27, .slice (some ⟨bst, 0, none⟩) (D.I + 1) (D.I + 1)) :: E2 D bh btx bit bn bt) w0 [] (M2 D bh btx bit bn bt spt ++ [(L0.bp, lrow 21 .i32 (natsI (posTo D.n D.it x)) L0.sp), (bst, irow 21 .i32 (D.I + 1) f)]) := by
  have hn := H.nle
  have hI := H.I5
  have hpl := posTo_len D.n D.it x
  have hpl' : (posTo D.n D.it x).length ≤ 20480 := Nat.le_trans hpl (Nat.mul_le_mul (show x ≤ 5 by omega) hn)
  refine SC.block ?_
  refine SC.loopAB (fun (p : Nat) (L : PL) => (29, .int .i64 p) :: (28, .int .i64 x) :: (26, .slice (some ⟨L.bp, 0, none⟩) (posTo D.n D.it x ++ opsOf p D.it x).length L.cp) :: (27, .slice (some ⟨bst, 0, none⟩) (D.I + 1) (D.I + 1)) :: E2 D bh btx bit bn bt)
    (fun p L => M2 D bh btx bit bn bt spt ++ [(L.bp, lrow 21 .i32 (natsI (posTo D.n D.it x ++ opsOf p D.it x)) L.sp), (bst, irow 21 .i32 (D.I + 1) f)]) (fun p L => p ≤ D.n ∧ L.ok (posTo D.n D.it x ++ opsOf p D.it x)) (fun p _ => D.n - p) 0 L0 ⟨Nat.zero_le _, by simpa [opsOf] using hL0⟩ (by simp only [opsOf, List.range_zero, List.filter_nil, List.append_nil]; exact (by repeat' (first | exact trivial | refine ⟨rfl, ?_⟩))) (by simp only [opsOf, List.range_zero, List.filter_nil, List.append_nil]; exact (List.Sublist.refl _)) ?_
  rintro p L ⟨hp, hL1, hL2⟩
  have hos := opsOf_succ p D.it x
  have hol := opsOf_len p D.it x
  have hal : (posTo D.n D.it x ++ opsOf p D.it x).length ≤ 30000 := by rw [List.length_append]; omega
  refine SC.seq ?_
  refine SC.seq ?_
  refine SC.region ?_
  refine SL.y (OV.move rfl) rfl ?_
  refine SL.y (OV.move rfl) rfl ?_
  refine SL.y (OV.lss rfl rfl) rfl ?_
  refine SL.nil ?_
  refine SC.then ?_
  refine SC.condP rfl (fun hlt => ?_) (fun hge => ?_)
  · refine SC.skip ?_
    refine SC.then ?_
    refine SC.seq ?_
    refine SC.block ?_
    refine SC.seq ?_
    refine SC.region ?_
    refine SL.y (OV.move rfl) rfl ?_
    refine SL.y (OV.move rfl) rfl ?_
    refine SL.y (OV.idx1 _ u47 se47 rfl rfl rfl (by omega)) rfl ?_
    refine SL.y (OV.loadI 2 sc21 rfl rfl (by omega)) rfl ?_
    refine SL.y (OV.move rfl) rfl ?_
    refine SL.y (OV.conv u3 u21 rfl (wrap_i32 (by omega) (by omega))) rfl ?_
    refine SL.y (OV.eql rfl rfl) rfl ?_
    refine SL.nil ?_
    refine SC.then ?_
    refine SC.condP rfl (fun he => ?_) (fun he => ?_)
    · have he' : D.it p = x := by omega
      rw [if_pos he', ] at hos
      generalize hll : posTo D.n D.it x ++ opsOf p D.it x = l at *
      refine SC.region ?_
      refine SL.y (OV.move rfl) rfl ?_
      refine SL.y (OV.move rfl) rfl ?_
      refine SL.y (OV.conv u3 u21 rfl (wrap_i32 (by omega) (by omega))) rfl ?_
      refine SL.e (OE.bslice1I u47 in21 rfl) rfl ?_
      intro b1
      refine SL.e (OE.appendI 5 7 u47 in21 rfl rfl rfl rfl (natsI_len _).symm hL1 hL2 (by unfold maxLen; omega) (by omega)) rfl ?_
      intro sa
      refine SL.y (OV.assign rfl) rfl ?_
      refine SL.nil ?_
      refine SE.nb ?_
      refine SC.then ?_
      refine SC.region ?_
      refine SL.y (OV.move rfl) rfl ?_
      refine SL.y (OV.add rfl rfl (wrap_i64 (by omega) (by omega))) rfl ?_
      refine SL.y (OV.assign rfl) rfl ?_
      refine SL.nil ?_
      have e1 : posTo D.n D.it x ++ opsOf (p + 1) D.it x = l ++ [p] := by rw [hos, ← List.append_assoc, hll]
      have e2 : (l ++ [p]).length = l.length + 1 := by simp
      have e3 : natsI (l ++ [p]) = natsI l ++ [(p : Int)] := by simp [natsI]
      refine SE.roundAB (p + 1) ⟨sa.1.1, sa.1.2.1, sa.1.2.2⟩ ⟨by omega, ?_⟩ (by omega) ?_ ?_
      · rw [e1]
        exact ⟨by rw [e2]; exact sa.2.2, sa.2.1⟩
      · rw [e1, e2]
        exact (by repeat' (first | exact trivial | refine ⟨rfl, ?_⟩))
      · rw [e1, e3]
        exact (by repeat (first | exact List.nil_sublist _ | refine List.Sublist.cons_cons _ ?_ | refine List.Sublist.cons _ ?_))
    · have he' : ¬ D.it p = x := by omega
      rw [if_neg he'] at hos
      refine SC.skip ?_
      refine SE.nb ?_
      refine SC.then ?_
      refine SC.region ?_
      refine SL.y (OV.move rfl) rfl ?_
      refine SL.y (OV.add rfl rfl (wrap_i64 (by omega) (by omega))) rfl ?_
      refine SL.y (OV.assign rfl) rfl ?_
      refine SL.nil ?_
      refine SE.roundAB (p + 1) L ⟨by omega, ?_⟩ (by omega) ?_ ?_
      · rw [hos]; exact ⟨hL1, hL2⟩
      · rw [hos]; exact (by repeat' (first | exact trivial | refine ⟨rfl, ?_⟩))
      · rw [hos]; exact (List.Sublist.refl _)
  · have : p = D.n := by omega
    subst this
    refine SC.exit ?_
    refine SE.thenE (SE.thenE (SE.inBlock ?_))
    have hh := h L (by rw [posTo_succ]; exact ⟨hL1, hL2⟩)
    rw [posTo_succ] at hh
    exact SE.weaken (by repeat' (first | exact trivial | refine ⟨rfl, ?_⟩)) (List.Sublist.refl _) hh

set_option maxHeartbeats 1000000 in
theorem loop3 (H : LH D w0) {spt : List Value} {L0 : PL} (hL0 : L0.ok [])
    (h : ∀ L : PL, L.ok (posTo D.n D.it D.I) → SE (Q .normal) Yba.f4.ntmps ((26, .slice (some ⟨L.bp, 0, none⟩) (posTo D.n D.it D.I).length L.cp) :: (27, .slice (some ⟨bst, 0, none⟩) (D.I + 1) (D.I + 1)) :: E2 D bh btx bit bn bt) w0 [] (M2 D bh btx bit bn bt spt ++ [(L.bp, lrow 21 .i32 (natsI (posTo D.n D.it D.I)) L.sp), (bst, irow 21 .i32 (D.I + 1) fun q => if q < D.I then stt D q else 0)])) :
    SC Yba.prog (sub [1, 1, 1, 1, 1, 1, 1, 1, 1, 1, 1, 1, 1, 1, 0, 1] (Yba.f4.body.getD .skip)) Q Yba.f4.ntmps ((28, .int .i64 (0 : Nat)) :: (26, .slice (some ⟨L0.bp, 0, none⟩) 0 L0.cp) :: (27, .slice (some ⟨bst, 0, none⟩) (D.I + 1) (D.I + 1)) :: E2 D bh btx bit bn bt) w0 [] (M2 D bh btx bit bn bt spt ++ [(L0.bp, lrow 21 .i32 [] L0.sp), (bst, irow 21 .i32 (D.I + 1) fun _ => 0)]) := by
  have hn := H.nle
  have hI := H.I5
  refine SC.block ?_
  refine SC.loopAB (fun (x : Nat) (L : PL) => (28, .int .i64 x) :: (26, .slice (some ⟨L.bp, 0, none⟩) (posTo D.n D.it x).length L.cp) :: (27, .slice (some ⟨bst, 0, none⟩) (D.I + 1) (D.I + 1)) :: E2 D bh btx bit bn bt)
    (fun x L => M2 D bh btx bit bn bt spt ++ [(L.bp, lrow 21 .i32 (natsI (posTo D.n D.it x)) L.sp), (bst, irow 21 .i32 (D.I + 1) fun q => if q < x then stt D q else 0)]) (fun x L => x ≤ D.I ∧ L.ok (posTo D.n D.it x)) (fun x _ => D.I - x) 0 L0 ⟨Nat.zero_le _, hL0⟩ (by repeat' (first | exact trivial | refine ⟨rfl, ?_⟩)) (List.Sublist.refl _) ?_
  rintro x L ⟨hx, hL⟩
  have hpl := posTo_len D.n D.it x
  have hpl' : (posTo D.n D.it x).length ≤ 20480 := Nat.le_trans hpl (Nat.mul_le_mul (show x ≤ 5 by omega) hn)
  refine SC.seq ?_
  refine SC.seq ?_
  refine SC.region ?_
  refine SL.y (OV.move rfl) rfl ?_
  refine SL.y (OV.move rfl) rfl ?_
  refine SL.y (OV.lss rfl rfl) rfl ?_
  refine SL.nil ?_
  refine SC.then ?_
  refine SC.condP rfl (fun hlt => ?_) (fun hge => ?_)
  · have hlt' : x < D.I := by omega
    refine SC.skip ?_
    refine SC.then ?_
    refine SC.seq ?_
    refine SC.block ?_
    refine SC.seq ?_
    refine SC.region ?_
    refine SL.y (OV.move rfl) rfl ?_
    refine SL.y (OV.move rfl) rfl ?_
    refine SL.y (OV.move rfl) rfl ?_
    refine SL.y (OV.len u47 rfl) rfl ?_
    refine SL.y (OV.conv u3 u21 rfl (wrap_i32 (by omega) (by omega))) rfl ?_
    refine SL.y (OV.idx1 _ u47 se47 rfl rfl rfl (by omega)) rfl ?_
    refine SL.s (OS.storeI 6 sz21 rfl rfl rfl (by omega)) ?_
    refine SL.nil ?_
    refine SC.then ?_
    refine SC.seq ?_
    refine SC.region ?_
    refine SL.y (OV.assign rfl) rfl ?_
    refine SL.nil ?_
    refine SC.then ?_
    rw [show upd (fun q => if q < x then stt D q else 0) x ((posTo D.n D.it x).length : Int) = fun q => if q < x + 1 then stt D q else 0 from upd_fill (stt D) 0 x]
    refine SC.weaken ?_ ?_ (loop4 (f := fun q => if q < x + 1 then stt D q else 0) (bh := bh) (btx := btx) (bit := bit) (bn := bn) (bt := bt) (bst := bst) (spt := spt) H hlt' hL fun L' hL' => ?_)
    · exact (by repeat' (first | exact trivial | refine ⟨rfl, ?_⟩))
    · exact (List.Sublist.refl _)
    refine SE.nb ?_
    refine SC.then ?_
    refine SC.region ?_
    refine SL.y (OV.move rfl) rfl ?_
    refine SL.y (OV.add rfl rfl (wrap_i64 (by omega) (by omega))) rfl ?_
    refine SL.y (OV.assign rfl) rfl ?_
    refine SL.nil ?_
    exact SE.roundAB (x + 1) L' ⟨by omega, hL'⟩ (by omega) (by repeat' (first | exact trivial | refine ⟨rfl, ?_⟩)) (List.Sublist.refl _)
  · have : x = D.I := by omega
    subst this
    refine SC.exit ?_
    refine SE.thenE (SE.thenE (SE.inBlock ?_))
    exact SE.weaken (by repeat' (first | exact trivial | refine ⟨rfl, ?_⟩)) (List.Sublist.refl _) (h L hL)
end
end Go.Proofs.Ybulkdrci.LawB
