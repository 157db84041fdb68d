/-
  No cell of these rows narrows 'for every input' (looked for: loops, veiled, ifaces, maps, wideKeys, modest, calm, conditions, laid).
  DERIVED. THE GIVEN ROWS OF THIS SEAT. 1 by the template 'for every input the law returns true; each argument reads behind the call as it read before'; 0 by the template 'total and deterministic' (their statements: YbulkdrdyTotals.lean).
  GIVEN WITH THE SEED: the statements are not yours to turn. If you find one false, say at which input.
  Laid BY PROGRAM, IN A SANDBOX (cutbox-rows.mjs): the forced cells as the released guide's own fill.sh prints them over the translation 8cbb3d9b5e24dae8… (all of the seat's roots in one cut). By AI agents, Wed Nov 11 2026. No macro, syntax, notation, axiom, sorry.
-/
import Derived.Test.YbulkdrdyChecked
import GoSem.Claim
import GoSem.ClaimJoined
import GoSem.ClaimMapViews
import Derived.JoinedTies
import Derived.KernelRfl
namespace Go.Proofs.Ybulkdrdy
/- THE CELL 'sum', in the pinned program and in every row, IS THE sha256 OF THE DUMP (.gsa) THAT YbulkdrdyProg.lean LOADS. Nothing in Lean hashes anything: it is a label: what it is worth is what the hold of that sum in a sandbox is worth. -/
noncomputable def Yba.pinned : Pinned := { name := "ybulkdrdy", sum := "8cbb3d9b5e24dae80f5eec4559f02210f540303c677971d5452e081f605409b0", checked := Yba.checked }
namespace Rows
def none {H : Type} : Left H := { results := [], args := [] }

/-- 'draft.LawS5900CWhole': WHATEVER THE INPUT: true; the input reads as it did. -/
def lawS5900CWholeSpec : ChangeSpec := { name := "lawS5900CWhole", fn := fun _ => fun
  | [d1, d2] => { results := [.lit (.bool true)], args := [d1, d2] }
  | _ => none }
def lawS5900CWholeRow : OpenClaim := { program := "ybulkdrdy", sum := "8cbb3d9b5e24dae80f5eec4559f02210f540303c677971d5452e081f605409b0", func := "example.com/kezhuan/kezhuan/draft.LawS5900CWhole", spec := "lawS5900CWhole", apart := false }
def LawS5900CWholeSaid : Prop := lawS5900CWholeRow.holds Yba.pinned (OpenSpec.ofChange lawS5900CWholeSpec)

/-- ITS FALSE NEIGHBOUR: 'it returns false'. Refute it at one input. -/
def lawS5900CWholeWrong : ChangeSpec := { name := "lawS5900CWhole", fn := fun _ => fun
  | [d1, d2] => { results := [.lit (.bool false)], args := [d1, d2] }
  | _ => none }
def LawS5900CWholeWrongFalsely : Prop := lawS5900CWholeRow.holds Yba.pinned (OpenSpec.ofChange lawS5900CWholeWrong)

end Rows
end Go.Proofs.Ybulkdrdy
