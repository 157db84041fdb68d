import Derived.Test.YbulkdrfaBelow
namespace Go.Proofs.Ybulkdrfa
open Go Go.RowKit Go.Proofs.Ybulkdrfa.Sym Go.Sort
set_option linter.unusedVariables false

def st1 (d : Array Nat) (a b lim : Nat) (wb : Bool) : Array Nat × Nat := (if !wb then breakPatterns d a b else d, if !wb then lim - 1 else lim)
def st2 (d : Array Nat) (a b : Nat) : Array Nat × Nat × Hint := (if (choosePivot Fl.lt d a b).2 = .decreasing then reverseRange d a b else d, if (choosePivot Fl.lt d a b).2 = .decreasing then (b - 1) - ((choosePivot Fl.lt d a b).1 - a) else (choosePivot Fl.lt d a b).1, if (choosePivot Fl.lt d a b).2 = .decreasing then Hint.increasing else (choosePivot Fl.lt d a b).2)
def st3 (d : Array Nat) (a b : Nat) (wb wp : Bool) (h : Hint) : Array Nat × Bool := if wb && wp && h = .increasing then partialInsertionSort Fl.lt d a b else (d, false)
def st4 (d : Array Nat) (a b p lim : Nat) (wb wp : Bool) : Array Nat :=
  if a > 0 && !Fl.lt d[a - 1]! d[p]! then
    (if a < (partitionEqual Fl.lt d a b p).1 ∧ (partitionEqual Fl.lt d a b p).1 ≤ b then pdq Fl.lt (partitionEqual Fl.lt d a b p).2 (partitionEqual Fl.lt d a b p).1 b lim wb wp else (partitionEqual Fl.lt d a b p).2)
  else
    (if a ≤ (partition Fl.lt d a b p).1 ∧ (partition Fl.lt d a b p).1 < b then
      (if (partition Fl.lt d a b p).1 - a < b - (partition Fl.lt d a b p).1 then
        pdq Fl.lt (pdq Fl.lt (partition Fl.lt d a b p).2.2 a (partition Fl.lt d a b p).1 lim true true) ((partition Fl.lt d a b p).1 + 1) b lim (decide ((partition Fl.lt d a b p).1 - a ≥ (b - a) / 8)) (partition Fl.lt d a b p).2.1
      else
        pdq Fl.lt (pdq Fl.lt (partition Fl.lt d a b p).2.2 ((partition Fl.lt d a b p).1 + 1) b lim true true) a (partition Fl.lt d a b p).1 lim (decide (b - (partition Fl.lt d a b p).1 ≥ (b - a) / 8)) (partition Fl.lt d a b p).2.1)
    else (partition Fl.lt d a b p).2.2)
theorem pdq_small {d : Array Nat} {a b lim : Nat} {wb wp : Bool} (h : b - a ≤ 12) : pdq Fl.lt d a b lim wb wp = insertionSort Fl.lt d a b := by
  rw [pdq, if_pos h]
theorem pdq_heap {d : Array Nat} {a b lim : Nat} {wb wp : Bool} (h : ¬ b - a ≤ 12) (h0 : lim = 0) : pdq Fl.lt d a b lim wb wp = heapSort Fl.lt d a b := by
  rw [pdq, if_neg h, if_pos h0]
theorem pdq_round {d : Array Nat} {a b lim : Nat} {wb wp : Bool} (h : ¬ b - a ≤ 12) (h0 : ¬ lim = 0) : pdq Fl.lt d a b lim wb wp =
    if (st3 (st2 (st1 d a b lim wb).1 a b).1 a b wb wp (st2 (st1 d a b lim wb).1 a b).2.2).2 = true then (st3 (st2 (st1 d a b lim wb).1 a b).1 a b wb wp (st2 (st1 d a b lim wb).1 a b).2.2).1
    else st4 (st3 (st2 (st1 d a b lim wb).1 a b).1 a b wb wp (st2 (st1 d a b lim wb).1 a b).2.2).1 a b (st2 (st1 d a b lim wb).1 a b).2.1 (st1 d a b lim wb).2 wb wp := by
  conv => lhs; rw [pdq, if_neg h, if_neg h0]
  unfold st4
  rfl
end Go.Proofs.Ybulkdrfa
