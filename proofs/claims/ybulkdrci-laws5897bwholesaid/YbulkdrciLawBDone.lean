import Derived.Test.YbulkdrciLaw4
import Derived.Test.YbulkdrciPlain4
import Derived.ProofKit
import Derived.OpenShut
import Derived.ShutString
import Derived.ChangeOld
import Derived.Below
namespace Go.Proofs.Ybulkdrci.LawB
open Go Go.RowKit Go.Proofs.Ybulkdrci Go.Proofs.Ybulkdrci.Sym Go.Proofs.Ybulkdrci.Pl
set_option linter.unusedVariables false

/-- The plain law holds. -/
theorem agree (D : LB) (txT : ∀ p, D.tx p < D.T) : Agree D := by
  have inj : ∀ t t', t < D.T → t' < D.T → 0 ≤ nd D t → nd D t = nd D t' → t = t' := fun t t' _ _ h e => nd_inj D.alive t t' h e
  have hit := items_agree (it := D.it) (tx := D.tx) (kd := D.kd) (nd := nd D) D.n inj txT D.I
  have hneg : ∀ q, -1 ≤ (fold2 D.n D.it D.kd (fun p => nd D (D.tx p)) D.I).searched q := fun q => (fold2_searched _ _ _ _ _ q).1
  have hs : ∀ v, v < C D → (0 ≤ (fold2 D.n D.it D.kd (fun p => nd D (D.tx p)) D.I).searched v ↔ (f6m D D.I).isN v = true) := by
    intro v hv
    obtain ⟨t, ht, he⟩ := nd_surj D.alive D.T v hv
    have h0 : 0 ≤ nd D t := by show 0 ≤ ndOf D.alive t; omega
    have := (hit.2 t ht h0).1
    have e : (nd D t).toNat = v := by show (ndOf D.alive t).toNat = v; omega
    rwa [e] at this
  have hst : ∀ v, v < C D → (fold2 D.n D.it D.kd (fun p => nd D (D.tx p)) D.I).steps v = (f6m D D.I).steps v := by
    intro v hv
    obtain ⟨t, ht, he⟩ := nd_surj D.alive D.T v hv
    have h0 : 0 ≤ nd D t := by show 0 ≤ ndOf D.alive t; omega
    have := (hit.2 t ht h0).2
    have e : (nd D t).toNat = v := by show (ndOf D.alive t).toNat = v; omega
    rwa [e] at this
  have hl := lists_agree (txl := txl D) hneg hs hst (C D) (Nat.le_refl _)
  refine ⟨fun B bs => hl.1, fun B bs => hl.2.1, fun B bs => hl.2.2.1, fun B bs t ht => ?_⟩
  show fold7 (fold5 (fold2 D.n D.it D.kd (fun p => nd D (D.tx p)) D.I).searched (C D)).searched (nd D) D.T t = fold10m (nd D) (want D).rank D.T t
  rw [fold7_at _ _ _ _ ht, fold10m_at _ _ _ _ ht]
  by_cases h : 0 ≤ nd D t
  · rw [if_pos h, if_pos h]
    have hr := ndOf_range D.alive ht
    have hv : (nd D t).toNat < C D := by
      have h2 : ndOf D.alive t < (C D : Int) := hr.2
      have h3 : 0 ≤ ndOf D.alive t := h
      show (ndOf D.alive t).toNat < C D
      omega
    generalize (nd D t).toNat = v at *
    rw [fold5_at _ v hneg _ hv, rank_at v _ hv]
    have hlv := (lists_agree (txl := txl D) hneg hs hst v (by omega)).2.2.2
    by_cases hv' : 0 ≤ (fold2 D.n D.it D.kd (fun p => nd D (D.tx p)) D.I).searched v
    · rw [if_pos hv', if_pos ((hs v hv).1 hv'), hlv]
    · rw [if_neg hv', if_neg (fun e => hv' ((hs v hv).2 e))]
  · rw [if_neg h, if_neg h]
    have hr := ndOf_range D.alive ht
    have h2 : -1 ≤ nd D t := hr.1
    omega
end Go.Proofs.Ybulkdrci.LawB
