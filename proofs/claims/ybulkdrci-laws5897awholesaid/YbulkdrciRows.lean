/-
  No cell of these rows narrows 'for every input' (looked for: loops, veiled, ifaces, maps, wideKeys, modest, calm, conditions, laid).
  DERIVED. THE GIVEN ROWS OF THIS SEAT. 2 by the template 'for every input the law returns true; each argument reads behind the call as it read before'; 0 by the template 'total and deterministic' (their statements: YbulkdrciTotals.lean).
  GIVEN WITH THE SEED: the statements are not yours to turn. If you find one false, say at which input.
  Laid BY PROGRAM, IN A SANDBOX (cutbox-rows.mjs): the forced cells as the released guide's own fill.sh prints them over the translation 474e1f3d27f12090… (all of the seat's roots in one cut). By AI agents, Wed Nov 11 2026. No macro, syntax, notation, axiom, sorry.
-/
import Derived.Test.YbulkdrciChecked
import GoSem.Claim
import GoSem.ClaimJoined
import GoSem.ClaimMapViews
import Derived.JoinedTies
import Derived.KernelRfl
namespace Go.Proofs.Ybulkdrci
/- THE CELL 'sum', in the pinned program and in every row, IS THE sha256 OF THE DUMP (.gsa) THAT YbulkdrciProg.lean LOADS. Nothing in Lean hashes anything: it is a label: what it is worth is what the hold of that sum in a sandbox is worth. -/
noncomputable def Yba.pinned : Pinned := { name := "ybulkdrci", sum := "474e1f3d27f12090e7712a9e9076112ea35b9dcda893ed63a610635777d5503e", checked := Yba.checked }
namespace Rows
def none {H : Type} : Left H := { results := [], args := [] }

/-- 'serialis.LawS5897AWhole': WHATEVER THE INPUT: true; the input reads as it did. -/
def lawS5897AWholeSpec : ChangeSpec := { name := "lawS5897AWhole", fn := fun _ => fun
  | [d1, d2, d3, d4, d5, d6, d7] => { results := [.lit (.bool true)], args := [d1, d2, d3, d4, d5, d6, d7] }
  | _ => none }
def lawS5897AWholeRow : OpenClaim := { program := "ybulkdrci", sum := "474e1f3d27f12090e7712a9e9076112ea35b9dcda893ed63a610635777d5503e", func := "example.com/serialis/serialis.LawS5897AWhole", spec := "lawS5897AWhole", unfollowed := true, recurses := true, apart := false }
def LawS5897AWholeSaid : Prop := lawS5897AWholeRow.holds Yba.pinned (OpenSpec.ofChange lawS5897AWholeSpec)

/-- ITS FALSE NEIGHBOUR: 'it returns false'. Refute it at one input. -/
def lawS5897AWholeWrong : ChangeSpec := { name := "lawS5897AWhole", fn := fun _ => fun
  | [d1, d2, d3, d4, d5, d6, d7] => { results := [.lit (.bool false)], args := [d1, d2, d3, d4, d5, d6, d7] }
  | _ => none }
def LawS5897AWholeWrongFalsely : Prop := lawS5897AWholeRow.holds Yba.pinned (OpenSpec.ofChange lawS5897AWholeWrong)

/-- 'serialis.LawS5897BWhole': WHATEVER THE INPUT: true; the input reads as it did. -/
def lawS5897BWholeSpec : ChangeSpec := { name := "lawS5897BWhole", fn := fun _ => fun
  | [d1, d2, d3, d4, d5, d6] => { results := [.lit (.bool true)], args := [d1, d2, d3, d4, d5, d6] }
  | _ => none }
def lawS5897BWholeRow : OpenClaim := { program := "ybulkdrci", sum := "474e1f3d27f12090e7712a9e9076112ea35b9dcda893ed63a610635777d5503e", func := "example.com/serialis/serialis.LawS5897BWhole", spec := "lawS5897BWhole", apart := false }
def LawS5897BWholeSaid : Prop := lawS5897BWholeRow.holds Yba.pinned (OpenSpec.ofChange lawS5897BWholeSpec)

/-- ITS FALSE NEIGHBOUR: 'it returns false'. Refute it at one input. -/
def lawS5897BWholeWrong : ChangeSpec := { name := "lawS5897BWhole", fn := fun _ => fun
  | [d1, d2, d3, d4, d5, d6] => { results := [.lit (.bool false)], args := [d1, d2, d3, d4, d5, d6] }
  | _ => none }
def LawS5897BWholeWrongFalsely : Prop := lawS5897BWholeRow.holds Yba.pinned (OpenSpec.ofChange lawS5897BWholeWrong)

end Rows
end Go.Proofs.Ybulkdrci
