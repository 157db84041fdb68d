/-
  No cell of these rows narrows 'for every input' (looked for: loops, veiled, ifaces, maps, wideKeys, modest, calm, conditions, laid).
  DERIVED. THE GIVEN ROWS OF THIS SEAT. 1 by the template 'for every input the law returns true; each argument reads behind the call as it read before'; 0 by the template 'total and deterministic' (their statements: YbulkdrfaTotals.lean).
  GIVEN WITH THE SEED: the statements are not yours to turn. If you find one false, say at which input.
  Laid BY PROGRAM, IN A SANDBOX (cutbox-rows.mjs): the forced cells as the released guide's own fill.sh prints them over the translation a168557abbbc1ce3… (all of the seat's roots in one cut). By AI agents, Wed Nov 11 2026. No macro, syntax, notation, axiom, sorry.
-/
import Derived.Test.YbulkdrfaChecked
import GoSem.Claim
import GoSem.ClaimJoined
import GoSem.ClaimMapViews
import Derived.JoinedTies
import Derived.KernelRfl
namespace Go.Proofs.Ybulkdrfa
/- THE CELL 'sum', in the pinned program and in every row, IS THE sha256 OF THE DUMP (.gsa) THAT YbulkdrfaProg.lean LOADS. Nothing in Lean hashes anything: it is a label: what it is worth is what the hold of that sum in a sandbox is worth. -/
noncomputable def Yba.pinned : Pinned := { name := "ybulkdrfa", sum := "a168557abbbc1ce310e5e8ea1df5adfa3b6006e399b8a336827ba6a33808e2c4", checked := Yba.checked }
namespace Rows
def none {H : Type} : Left H := { results := [], args := [] }

/-- 'approx.LawS5902AWhole': WHATEVER THE INPUT: true; the input reads as it did. -/
def lawS5902AWholeSpec : ChangeSpec := { name := "lawS5902AWhole", fn := fun _ => fun
  | [d1, d2, d3] => { results := [.lit (.bool true)], args := [d1, d2, d3] }
  | _ => none }
def lawS5902AWholeRow : OpenClaim := { program := "ybulkdrfa", sum := "a168557abbbc1ce310e5e8ea1df5adfa3b6006e399b8a336827ba6a33808e2c4", func := "example.com/accordant/accordant/gradecast/approx.LawS5902AWhole", spec := "lawS5902AWhole", recurses := true, apart := false }
def LawS5902AWholeSaid : Prop := lawS5902AWholeRow.holds Yba.pinned (OpenSpec.ofChange lawS5902AWholeSpec)

/-- ITS FALSE NEIGHBOUR: 'it returns false'. Refute it at one input. -/
def lawS5902AWholeWrong : ChangeSpec := { name := "lawS5902AWhole", fn := fun _ => fun
  | [d1, d2, d3] => { results := [.lit (.bool false)], args := [d1, d2, d3] }
  | _ => none }
def LawS5902AWholeWrongFalsely : Prop := lawS5902AWholeRow.holds Yba.pinned (OpenSpec.ofChange lawS5902AWholeWrong)

end Rows
end Go.Proofs.Ybulkdrfa
