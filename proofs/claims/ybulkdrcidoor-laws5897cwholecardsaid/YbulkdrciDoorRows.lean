/-
  NARROWER THAN 'FOR EVERY INPUT', by the rows' own cells (each row's printed sentence says how): LawS5897CWhole: laid.
  DERIVED. THE GIVEN ROWS OF THIS SEAT. 1 by the template 'for every input the law returns true; each argument reads behind the call as it read before'; 0 by the template 'total and deterministic' (their statements: YbulkdrciDoorTotals.lean).
  GIVEN WITH THE SEED: the statements are not yours to turn. If you find one false, say at which input.
  Laid BY PROGRAM, IN A SANDBOX (cutbox-rows.mjs): the forced cells as the released guide's own fill.sh prints them over the translation d146edeef0fa1e4a… (all of the seat's roots in one cut). By AI agents, Wed Nov 11 2026. No macro, syntax, notation, axiom, sorry.
-/
import Derived.Test.YbulkdrciDoorChecked
import GoSem.Claim
import GoSem.ClaimJoined
import GoSem.ClaimMapViews
import Derived.JoinedTies
import Derived.KernelRfl
namespace Go.Proofs.YbulkdrciDoor
/- THE CELL 'sum', in the pinned program and in every row, IS THE sha256 OF THE DUMP (.gsa) THAT YbulkdrciDoorProg.lean LOADS. Nothing in Lean hashes anything: it is a label: what it is worth is what the hold of that sum in a sandbox is worth. -/
noncomputable def Ybad.pinned : Pinned := { name := "ybulkdrcidoor", sum := "d146edeef0fa1e4af2d766a4da4f5b07b4689c9c82527057e8261dd1f15c55fb", checked := Ybad.checked }
namespace Rows
def none {H : Type} : Left H := { results := [], args := [] }

/- WHAT THE LISTED PACKAGE-LEVEL VARIABLES READ AS WHEN THE CALL BEGINS. Each datum BY PROGRAM (the guide's laid-datum.mjs) off the statement by which the dump's own 'gosem.cut.vars' lays the variable. In a bare row this is a premise. The card (YbulkdrciDoorCards.lean) ties it to the program's text. -/
def laid_example_com_serialis_serialis_crashForms {H : Type} : DataW H := .slice [.agg [.lit (.string [97, 102, 116, 101, 114]), .lit (.string [114, 101, 97, 100, 121]), .lit (.bool false), .lit (.int .u8 2)], .agg [.lit (.string [98, 101, 102, 111, 114, 101]), .lit (.string [112, 114, 101, 112, 97, 114, 101]), .lit (.bool false), .lit (.int .u8 3)], .agg [.lit (.string [97, 102, 116, 101, 114]), .lit (.string [112, 114, 101, 112, 97, 114, 101]), .lit (.bool false), .lit (.int .u8 4)], .agg [.lit (.string [97, 102, 116, 101, 114]), .lit (.string [112, 114, 101, 112, 97, 114, 101]), .lit (.bool true), .lit (.int .u8 4)], .agg [.lit (.string [97, 102, 116, 101, 114]), .lit (.string [100, 101, 99, 105, 115, 105, 111, 110]), .lit (.bool false), .lit (.int .u8 5)], .agg [.lit (.string [97, 102, 116, 101, 114]), .lit (.string [100, 101, 99, 105, 115, 105, 111, 110]), .lit (.bool true), .lit (.int .u8 5)]] []

/-- 'serialis.LawS5897CWhole': WHATEVER THE INPUT: true; the input reads as it did. -/
def lawS5897CWholeSpec : ChangeSpec := { name := "lawS5897CWhole", vars := ["example.com/serialis/serialis.crashForms"], fn := fun _ => fun
  | [d1, d2, g1] => { results := [.lit (.bool true)], args := [d1, d2], vars := [g1] }
  | _ => none }
def lawS5897CWholeRow : OpenClaim := { program := "ybulkdrcidoor", sum := "d146edeef0fa1e4af2d766a4da4f5b07b4689c9c82527057e8261dd1f15c55fb", func := "example.com/serialis/serialis.LawS5897CWhole", spec := "lawS5897CWhole", named := ["example.com/serialis/serialis.crashForms"], apart := false, laid := [("example.com/serialis/serialis.crashForms", laid_example_com_serialis_serialis_crashForms)] }
def LawS5897CWholeSaid : Prop := lawS5897CWholeRow.holds Ybad.pinned (OpenSpec.ofChange lawS5897CWholeSpec)

/-- ITS FALSE NEIGHBOUR: 'it returns false'. Refute it at one input. -/
def lawS5897CWholeWrong : ChangeSpec := { name := "lawS5897CWhole", vars := ["example.com/serialis/serialis.crashForms"], fn := fun _ => fun
  | [d1, d2, g1] => { results := [.lit (.bool false)], args := [d1, d2], vars := [g1] }
  | _ => none }
def LawS5897CWholeWrongFalsely : Prop := lawS5897CWholeRow.holds Ybad.pinned (OpenSpec.ofChange lawS5897CWholeWrong)

end Rows
end Go.Proofs.YbulkdrciDoor
