import Derived.Test.YbulkdrciANodes2
import Derived.Laws.CopyRow
import Derived.Laws.Small
namespace Go.Proofs.Ybulkdrci.A
open Go Go.RowKit Go.Proofs.Ybulkdrci.A.Sym
set_option linter.unusedVariables false
set_option linter.unusedSimpArgs false
set_option maxRecDepth 100000

theorem run_copy_S {P : Program} (w : World) (dT sT ty elem : TypeId) (g n c : Nat) (a : Addr) (c2 : Nat) (cur : Array Value) (t : TypeId) (cs : List Value) (i : TypeInfo)
    (hu : P.underlying dT = some (.slice elem)) (hi : P.info? elem = some i) (hg : w.heap[g]? = some (.cells cur t (0, 0))) (hn : cs.length = n * i.size)
    (hsrc : ∀ j v, cs[j]? = some v → w.cell? (a.add j) = some v) (hfit : cs.length = cur.size) (h1 : ∀ v ∈ cs, v.oneCell' = true) :
    (Builtin.copy_ #[dT, sT] ty #[.slice (some ⟨g, 0, none⟩) n c, .slice (some a) n c2]).run P w = .ok (goInt n) (w.setRow g cs.toArray) := by
  have hl := run_loadCells_list (P := P) w a cs hsrc
  have hst := run_storeCells_at P g 0 t cs 0 cur w hg (by simp; omega) h1
  have e1 : cur.toList.take (0 + 0) ++ cs ++ cur.toList.drop (0 + 0 + cs.length) = cs := by simp [hfit]
  rw [e1] at hst
  have hmin : Nat.min n n = n := Nat.min_self n
  simp [Builtin.copy_, run_underlying hu, Builtin.lenOf, Builtin.firstCells, sizeOf, typeInfo, hi, hmin, ← hn, hl, hst]
section
variable {P : Program} {w0 : World} {F : List Nat} {env : Env} {m : List Blk} {d : Option Nat} {ty T : TypeId} {pos : String} {af : Array Edge} {g : Option (Nat × Bool)} {x y : Operand}
theorem Sym.OE.copyAll {e : TypeId} {i : TypeInfo} {b n c c2 s : Nat} {A2 : Addr} {cs cur : List Value} (j : Nat) (hT : P.underlying T = some (.slice e)) (hi : P.info? e = some i) (hs : i.size = s) (hx : ev env x = some (.slice (some ⟨b, 0, none⟩) n c)) (hy : ev env y = some (.slice (some A2) n c2)) (hm : m[j]? = some (b, row e cur)) (hsrc : Src w0 F m A2 cs) (hn : cs.length = n * s) (hl : cs.length = cur.length) (h1 : ∀ v ∈ cs, v.oneCell' = true) :
    OE P env w0 F m ⟨d, .call ⟨.builtin .copy, #[x, y], #[T, T]⟩, ty, pos, af, g⟩ (fun _ : Unit => .int .i64 n) (fun _ => m.set j (b, row e cs)) := by
  subst hs
  refine ⟨fun A w hE hM => ⟨(), _, ?_, hM.setRow hm⟩⟩
  have hb : w.heap[b]? = some (.cells cur.toArray e (0, 0)) := hM.block hm
  have hr := run_copy_S (P := P) w T T ty e b n c A2 c2 cur.toArray e cs i hT hi hb hn (hsrc w hM) (by simpa using hl) h1
  simp only [execOp, resolve, invoke, builtin, Sem.run_bind, Sem.run_pure, Result.andThen_ok, List.map_toArray, List.map_cons, List.map_nil, hE x _ hx, hE y _ hy, hr]
  rfl
theorem Sym.OV.max2 {k : IntKind} {a : Int} {ts : Array TypeId} {c : Int} (hx : ev env x = some (.int k a)) : OV P env w0 F m ⟨d, .call ⟨.builtin .max, #[x, .const (.int k c)], ts⟩, ty, pos, af, g⟩ (.int k (if a < c then c else a)) := by
  refine ⟨fun A w hE hM => ?_⟩
  have hr := run_max_int2 (P := P) (w := w) ts ty k k a c
  have hc : A.eval (.const (.int k c)) = .int k c := rfl
  simp only [execOp, resolve, invoke, builtin, Sem.run_bind, Sem.run_pure, Result.andThen_ok, List.map_toArray, List.map_cons, List.map_nil, hE x _ hx, hc, hr]
end
def mkD (n : Nat) (calls term : Int) (till bc bp : Nat) (nm : Nat → ByteArray) (fl : Nat → Int) (ro : Nat → Bool) : RD := ⟨n, calls, term, till, fun k => if k = 0 then bc else bp, fun k => if k = 0 then 0 else (k - 1) * 4, nm, fl, ro⟩
def s0 : NSt := fun _ => ⟨false, 0, 0⟩
theorem pn_final (n : Nat) (calls term : Int) (till bc bp : Nat) (nm : Nat → ByteArray) (fl : Nat → Int) (ro : Nat → Bool) : row 92 (tab ((n + 1) * 5) (pn bc bp n (eF n))) = nrow (mkD n calls term till bc bp nm fl ro) s0 := by
  unfold nrow
  show _ = row 92 (tab ((n + 1) * 5) _)
  congr 1
  refine tab_congr fun q hq => ?_
  have hk : q / 5 ≤ n := by omega
  unfold pn ncell pPtr eF eA endOf mkD s0
  by_cases h0 : q / 5 = 0
  · simp [h0]
  · have h1 : 1 ≤ q / 5 ∧ q / 5 ≤ n := ⟨by omega, hk⟩
    simp [h0, h1]
theorem ncell_mkD {n : Nat} {calls term : Int} {till till' bc bc' bp : Nat} {nm nm' : Nat → ByteArray} {fl fl' : Nat → Int} {ro ro' : Nat → Bool} {s : NSt} : (tab ((n + 1) * 5) (ncell (mkD n calls term till bc bp nm fl ro) s)).set (0 + 0 * 5 + 0) (.pointer (some ⟨bc', 0, none⟩)) = tab ((n + 1) * 5) (ncell (mkD n calls term till' bc' bp nm' fl' ro') s) := by
  rw [tab_set (by omega)]
  congr 1
  funext q
  unfold upd
  by_cases h : q = 0 + 0 * 5 + 0
  · have h' : q = 0 := by omega
    rw [if_pos h, h']
    rfl
  · rw [if_neg h]
    unfold ncell endOf mkD
    by_cases h0 : q % 5 = 0
    · have : q / 5 ≠ 0 := by omega
      simp [h0, this]
    · simp [h0]
theorem ncell_one {D : RD} {s : NSt} (N : Nat) : ∀ v ∈ tab N (ncell D s), v.oneCell' = true := by
  intro v hv
  simp only [tab, List.mem_map] at hv
  obtain ⟨q, _, rfl⟩ := hv
  unfold ncell
  split
  · rfl
  · split
    · rfl
    · split
      · rfl
      · split <;> rfl
section
variable {D : RD} {br bN : Nat} {cm : Bool} {x y : Int} {s : NSt} {w : World}
/-- crashPlace: some place -/
theorem call24 {to : ByteArray} (hD : D.n ≤ 100000) (hA : At D br bN cm x y s w) : Calls Yba.prog 24 #[pt br, .string to] w fun e w' => ∃ v : Nat, e = .returned (.int .i64 v) ∧ True ∧ Mm w [] [] w' := by
  obtain ⟨i92, hi, hz, hs, hb⟩ := info_parts info92
  have hb5 : w.cell? ⟨br, 0 + 5, none⟩ = some (nsl D bN) := by simp [World.cell?, hA.hr, rrow, row, rcells]
  have hc1 : ∀ k, k ≤ D.n → w.cell? ⟨bN, 0 + k * 5 + 1, none⟩ = some (.int .i64 (endOf D k)) := fun k hk => by rw [ncellAt hA.hn (by omega), nc1]
  have hc0 : ∀ k, k ≤ D.n → w.cell? ⟨bN, 0 + k * 5 + 0, none⟩ = some (.pointer (some ⟨D.pb k, D.po k, none⟩)) := fun k hk => by rw [ncellAt hA.hn (by omega), nc0]
  refine Calls.of_SC (args := [pt br, .string to]) Yba.func24 rfl (by simp [Yba.f24]) (Mm.start w) ?_
  refine SC.seq ?_
  refine SC.region ?_
  refine SL.y (OV.assign rfl) rfl ?_
  refine SL.nil ?_
  refine SC.then ?_
  refine SC.seq ?_
  refine SC.seq ?_
  refine SC.region ?_
  refine SL.y (OV.assign rfl) rfl ?_
  refine SL.nil ?_
  refine SC.then ?_
  refine SC.block ?_
  refine SC.loop (fun k : Nat => [(5, .int .i64 k), (0, pt br), (1, .string to)]) (fun _ => []) (fun k => 1 ≤ k ∧ k ≤ D.n + 1) (fun k => D.n + 1 - k) 1 ⟨by omega, by omega⟩ (by repeat' (first | exact trivial | refine ⟨rfl, ?_⟩)) (List.Sublist.refl _) ?_
  rintro k ⟨hk1, hk2⟩
  refine SC.seq ?_
  refine SC.seq ?_
  refine SC.region ?_
  refine SL.y (OV.move rfl) rfl ?_
  refine SL.y (OV.move rfl) rfl ?_
  refine SL.y (OV.nilCheck rfl) rfl ?_
  refine SL.y (OV.fld fo88_2 rfl) rfl ?_
  refine SL.y (OV.loadOld sc86 rfl (by simp) hb5) rfl ?_
  refine SL.y (OV.idx 0 u86 hi hs rfl rfl rfl (by omega)) rfl ?_
  refine SL.y (OV.fld fo92_1 rfl) rfl ?_
  refine SL.y (OV.loadOld sc3 rfl (by simp) (hc1 0 (by omega))) rfl ?_
  refine SL.y (OV.lss rfl rfl) rfl ?_
  refine SL.nil ?_
  refine SC.then ?_
  rw [endOf_zero]
  refine SC.condP rfl (fun hlt => ?_) (fun hge => ?_)
  · have hk : k ≤ D.n := by omega
    refine SC.skip ?_
    refine SC.then ?_
    refine SC.cutSt [(5, .int .i64 k), (0, pt br), (1, .string to)] [] ?_ ?_
    · refine SC.block ?_
      refine SC.cutG (fun t : Bool => [(39, .bool t), (5, .int .i64 k), (0, pt br), (1, .string to)]) (fun _ => []) (fun _ => True) ?_ ?_
      · by_cases he : to ≠ ⟨#[]⟩
        · skip
          refine SC.region ?_
          refine SL.y (OV.move rfl) rfl ?_
          refine SL.y ((OV.neqS rfl rfl).yes he) rfl ?_
          refine SL.y (OV.move rfl) rfl ?_
          refine SL.yg rfl rfl (OV.move rfl) rfl ?_
          refine SL.yg rfl rfl (OV.nilCheck rfl) rfl ?_
          refine SL.yg rfl rfl (OV.fld fo88_2 rfl) rfl ?_
          refine SL.yg rfl rfl (OV.loadOld sc86 rfl (by simp) hb5) rfl ?_
          refine SL.yg rfl rfl (OV.move rfl) rfl ?_
          refine SL.yg rfl rfl (OV.idx k u86 hi hs rfl rfl rfl (by omega)) rfl ?_
          refine SL.yg rfl rfl (OV.fld fo92_0 rfl) rfl ?_
          refine SL.yg rfl rfl (OV.loadOld sc89 rfl (by simp) (hc0 k hk)) rfl ?_
          refine SL.yg rfl rfl (OV.nilCheck rfl) rfl ?_
          refine SL.yg rfl rfl (OV.fld fo28_0 rfl) rfl ?_
          refine SL.yg rfl rfl (OV.loadOld sc9 rfl (by simp) (hA.hP.nm k hk)) rfl ?_
          refine SL.yg rfl rfl (OV.move rfl) rfl ?_
          refine SL.yg rfl rfl (OV.eqlS rfl rfl) rfl ?_
          refine SL.y (OV.pickT rfl rfl) rfl ?_
          refine SL.nil ?_
          exact SE.toG _ trivial (by repeat' (first | exact trivial | refine ⟨rfl, ?_⟩)) (List.Sublist.refl _)
        · skip
          refine SC.region ?_
          refine SL.y (OV.move rfl) rfl ?_
          refine SL.y ((OV.neqS rfl rfl).no he) rfl ?_
          refine SL.y (OV.move rfl) rfl ?_
          refine SL.skip rfl rfl rfl ?_
          refine SL.skip rfl rfl rfl ?_
          refine SL.skip rfl rfl rfl ?_
          refine SL.skip rfl rfl rfl ?_
          refine SL.skip rfl rfl rfl ?_
          refine SL.skip rfl rfl rfl ?_
          refine SL.skip rfl rfl rfl ?_
          refine SL.skip rfl rfl rfl ?_
          refine SL.skip rfl rfl rfl ?_
          refine SL.skip rfl rfl rfl ?_
          refine SL.skip rfl rfl rfl ?_
          refine SL.skip rfl rfl rfl ?_
          refine SL.skip rfl rfl rfl ?_
          refine SL.y (OV.pickF rfl rfl) rfl ?_
          refine SL.nil ?_
          exact SE.toG _ trivial (by repeat' (first | exact trivial | refine ⟨rfl, ?_⟩)) (List.Sublist.refl _)
      intro t _
      refine SC.cond rfl (fun _ => ?_) (fun _ => ?_)
      · skip
        refine SC.seq ?_
        refine SC.region ?_
        refine SL.y (OV.move rfl) rfl ?_
        refine SL.y (OV.nilCheck rfl) rfl ?_
        refine SL.y (OV.fld fo88_2 rfl) rfl ?_
        refine SL.y (OV.loadOld sc86 rfl (by simp) hb5) rfl ?_
        refine SL.y (OV.move rfl) rfl ?_
        refine SL.y (OV.idx k u86 hi hs rfl rfl rfl (by omega)) rfl ?_
        refine SL.y (OV.fld fo92_1 rfl) rfl ?_
        refine SL.y (OV.loadOld sc3 rfl (by simp) (hc1 k hk)) rfl ?_
        refine SL.y (OV.assign rfl) rfl ?_
        refine SL.nil ?_
        refine SC.then ?_
        refine SC.ret ?_
        repeat (first | refine SE.blockR ?_ | refine SE.thenR ?_)
        exact SE.ret1 Yba.results24 rfl (fun w' hM => ⟨_, rfl, trivial, hM⟩)
      · refine SC.skip ?_
        exact SE.nb (SE.toSt (by repeat' (first | exact trivial | refine ⟨rfl, ?_⟩)) (List.Sublist.refl _))
    refine SC.region ?_
    refine SL.y (OV.move rfl) rfl ?_
    refine SL.y (OV.nilCheck rfl) rfl ?_
    refine SL.y (OV.fld fo88_2 rfl) rfl ?_
    refine SL.y (OV.loadOld sc86 rfl (by simp) hb5) rfl ?_
    refine SL.y (OV.move rfl) rfl ?_
    refine SL.y (OV.idx k u86 hi hs rfl rfl rfl (by omega)) rfl ?_
    refine SL.y (OV.fld fo92_1 rfl) rfl ?_
    refine SL.y (OV.loadOld sc3 rfl (by simp) (hc1 k hk)) rfl ?_
    refine SL.y (OV.assign rfl) rfl ?_
    refine SL.nil ?_
    rw [endOf_pos hk1]
    exact SE.round (k + 1) ⟨by omega, by omega⟩ (by omega) (by repeat' (first | exact trivial | refine ⟨rfl, ?_⟩)) (List.Sublist.refl _)
  · refine SC.exit ?_
    refine SE.thenE (SE.thenE (SE.inBlock ?_))
    refine SC.then ?_
    refine SC.seq ?_
    refine SC.seq ?_
    refine SC.region ?_
    refine SL.y (OV.move rfl) rfl ?_
    refine SL.y (OV.nilCheck rfl) rfl ?_
    refine SL.y (OV.fld fo88_2 rfl) rfl ?_
    refine SL.y (OV.loadOld sc86 rfl (by simp) hb5) rfl ?_
    refine SL.y (OV.idx 0 u86 hi hs rfl rfl rfl (by omega)) rfl ?_
    refine SL.y (OV.fld fo92_0 rfl) rfl ?_
    refine SL.y (OV.loadOld sc89 rfl (by simp) (hc0 0 (by omega))) rfl ?_
    refine SL.y (OV.nilCheck rfl) rfl ?_
    refine SL.y (OV.fld fo28_1 rfl) rfl ?_
    refine SL.y (OV.loadOld sc26 rfl (by simp) (hA.hP.fl 0 (by omega))) rfl ?_
    refine SL.y (OV.eql rfl rfl) rfl ?_
    refine SL.nil ?_
    refine SC.then ?_
    refine SC.condP rfl (fun _ => ?_) (fun _ => ?_)
    · skip
      refine SC.seq ?_
      refine SC.region ?_
      refine SL.y (OV.move rfl) rfl ?_
      refine SL.y (OV.nilCheck rfl) rfl ?_
      refine SL.y (OV.fld fo88_2 rfl) rfl ?_
      refine SL.y (OV.loadOld sc86 rfl (by simp) hb5) rfl ?_
      refine SL.y (OV.idx 0 u86 hi hs rfl rfl rfl (by omega)) rfl ?_
      refine SL.y (OV.fld fo92_1 rfl) rfl ?_
      refine SL.y (OV.loadOld sc3 rfl (by simp) (hc1 0 (by omega))) rfl ?_
      refine SL.y (OV.assign rfl) rfl ?_
      refine SL.nil ?_
      refine SC.then ?_
      refine SC.ret ?_
      repeat (first | refine SE.blockR ?_ | refine SE.thenR ?_)
      exact SE.ret1 Yba.results24 rfl (fun w' hM => ⟨_, rfl, trivial, hM⟩)
    · refine SC.skip ?_
      refine SC.then ?_
      refine SC.seq ?_
      refine SC.region ?_
      refine SL.y (OV.assign rfl) rfl ?_
      refine SL.nil ?_
      refine SC.then ?_
      refine SC.ret ?_
      exact SE.ret1 Yba.results24 rfl (fun w' hM => ⟨1, rfl, trivial, hM⟩)
theorem pf24 : plainFunc Yba.prog 24 = true := by kernel_rfl
end
end Go.Proofs.Ybulkdrci.A
