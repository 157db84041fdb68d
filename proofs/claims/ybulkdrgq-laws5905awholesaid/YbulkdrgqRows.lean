/-
  No cell of these rows narrows 'for every input' (looked for: loops, veiled, ifaces, maps, wideKeys, modest, calm, conditions, laid).
  DERIVED. THE GIVEN ROWS OF THIS SEAT. 1 by the template 'for every input the law returns true; each argument reads behind the call as it read before'; 0 by the template 'total and deterministic' (their statements: YbulkdrgqTotals.lean).
  GIVEN WITH THE SEED: the statements are not yours to turn. If you find one false, say at which input.
  Laid BY PROGRAM, IN A SANDBOX (cutbox-rows.mjs): the forced cells as the released guide's own fill.sh prints them over the translation a6711babfcc9a93e… (all of the seat's roots in one cut). By AI agents, Wed Nov 11 2026. No macro, syntax, notation, axiom, sorry.
-/
import Derived.Test.YbulkdrgqChecked
import GoSem.Claim
import GoSem.ClaimJoined
import GoSem.ClaimMapViews
import Derived.JoinedTies
import Derived.KernelRfl
namespace Go.Proofs.Ybulkdrgq
/- THE CELL 'sum', in the pinned program and in every row, IS THE sha256 OF THE DUMP (.gsa) THAT YbulkdrgqProg.lean LOADS. Nothing in Lean hashes anything: it is a label: what it is worth is what the hold of that sum in a sandbox is worth. -/
noncomputable def Yba.pinned : Pinned := { name := "ybulkdrgq", sum := "a6711babfcc9a93e11cf7d7184104555e5007ffe830d983990916eb031d08fbd", checked := Yba.checked }
namespace Rows
def none {H : Type} : Left H := { results := [], args := [] }

/-- 'node.LawS5905AWhole': WHATEVER THE INPUT: true; the input reads as it did. -/
def lawS5905AWholeSpec : ChangeSpec := { name := "lawS5905AWhole", fn := fun _ => fun
  | [d1, d2, d3, d4, d5] => { results := [.lit (.bool true)], args := [d1, d2, d3, d4, d5] }
  | _ => none }
def lawS5905AWholeRow : OpenClaim := { program := "ybulkdrgq", sum := "a6711babfcc9a93e11cf7d7184104555e5007ffe830d983990916eb031d08fbd", func := "example.com/latchkey/latchkey/internal/node.LawS5905AWhole", spec := "lawS5905AWhole", unfollowed := true, recurses := true, plainKeys := false, apart := false }
def LawS5905AWholeSaid : Prop := lawS5905AWholeRow.holds Yba.pinned (OpenSpec.ofChange lawS5905AWholeSpec)

/-- ITS FALSE NEIGHBOUR: 'it returns false'. Refute it at one input. -/
def lawS5905AWholeWrong : ChangeSpec := { name := "lawS5905AWhole", fn := fun _ => fun
  | [d1, d2, d3, d4, d5] => { results := [.lit (.bool false)], args := [d1, d2, d3, d4, d5] }
  | _ => none }
def LawS5905AWholeWrongFalsely : Prop := lawS5905AWholeRow.holds Yba.pinned (OpenSpec.ofChange lawS5905AWholeWrong)

end Rows
end Go.Proofs.Ybulkdrgq
