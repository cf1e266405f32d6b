/-
  No cell of these rows narrows 'for every input' (looked for: loops, veiled, ifaces, maps, wideKeys, modest, calm, conditions, laid).
  DERIVED. THE GIVEN ROWS OF THIS SEAT. 2 by the template 'for every input the law returns true; each argument reads behind the call as it read before'; 0 by the template 'total and deterministic' (their statements: YbulkexoxcTotals.lean).
  GIVEN WITH THE SEED: the statements are not yours to turn. If you find one false, say at which input.
  Laid BY PROGRAM, IN A SANDBOX (cutbox-rows.mjs): the forced cells as the released guide's own fill.sh prints them over the translation 4dacbacaf762909f… (all of the seat's roots in one cut). By AI agents, Wed Nov 11 2026. No macro, syntax, notation, axiom, sorry.
-/
import Derived.Test.YbulkexoxcChecked
import GoSem.Claim
import GoSem.ClaimJoined
import GoSem.ClaimMapViews
import Derived.JoinedTies
import Derived.KernelRfl
namespace Go.Proofs.Ybulkexoxc
/- THE CELL 'sum', in the pinned program and in every row, IS THE sha256 OF THE DUMP (.gsa) THAT YbulkexoxcProg.lean LOADS. Nothing in Lean hashes anything: it is a label: what it is worth is what the hold of that sum in a sandbox is worth. -/
noncomputable def Yba.pinned : Pinned := { name := "ybulkexoxc", sum := "4dacbacaf762909fc23eb4f9d06ba1377ff6694516a50704559fae811e6572ff", checked := Yba.checked }
namespace Rows
def none {H : Type} : Left H := { results := [], args := [] }

/-- 'planner.LawS194105BWhole': WHATEVER THE INPUT: true; the input reads as it did. -/
def lawS194105BWholeSpec : ChangeSpec := { name := "lawS194105BWhole", fn := fun _ => fun
  | [d] => { results := [.lit (.bool true)], args := [d] }
  | _ => none }
def lawS194105BWholeRow : OpenClaim := { program := "ybulkexoxc", sum := "4dacbacaf762909fc23eb4f9d06ba1377ff6694516a50704559fae811e6572ff", func := "example.com/planwright/planwright/planner.LawS194105BWhole", spec := "lawS194105BWhole", unfollowed := true, recurses := true, apart := false }
def LawS194105BWholeSaid : Prop := lawS194105BWholeRow.holds Yba.pinned (OpenSpec.ofChange lawS194105BWholeSpec)

/-- ITS FALSE NEIGHBOUR: 'it returns false'. Refute it at one input. -/
def lawS194105BWholeWrong : ChangeSpec := { name := "lawS194105BWhole", fn := fun _ => fun
  | [d] => { results := [.lit (.bool false)], args := [d] }
  | _ => none }
def LawS194105BWholeWrongFalsely : Prop := lawS194105BWholeRow.holds Yba.pinned (OpenSpec.ofChange lawS194105BWholeWrong)

/-- 'planner.LawS194105CWhole': WHATEVER THE INPUT: true; the input reads as it did. -/
def lawS194105CWholeSpec : ChangeSpec := { name := "lawS194105CWhole", fn := fun _ => fun
  | [d1, d2, d3] => { results := [.lit (.bool true)], args := [d1, d2, d3] }
  | _ => none }
def lawS194105CWholeRow : OpenClaim := { program := "ybulkexoxc", sum := "4dacbacaf762909fc23eb4f9d06ba1377ff6694516a50704559fae811e6572ff", func := "example.com/planwright/planwright/planner.LawS194105CWhole", spec := "lawS194105CWhole", unfollowed := true, recurses := true, apart := false }
def LawS194105CWholeSaid : Prop := lawS194105CWholeRow.holds Yba.pinned (OpenSpec.ofChange lawS194105CWholeSpec)

/-- ITS FALSE NEIGHBOUR: 'it returns false'. Refute it at one input. -/
def lawS194105CWholeWrong : ChangeSpec := { name := "lawS194105CWhole", fn := fun _ => fun
  | [d1, d2, d3] => { results := [.lit (.bool false)], args := [d1, d2, d3] }
  | _ => none }
def LawS194105CWholeWrongFalsely : Prop := lawS194105CWholeRow.holds Yba.pinned (OpenSpec.ofChange lawS194105CWholeWrong)

end Rows
end Go.Proofs.Ybulkexoxc
