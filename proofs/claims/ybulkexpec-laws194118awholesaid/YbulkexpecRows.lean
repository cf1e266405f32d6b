/-
  No cell of these rows narrows 'for every input' (looked for: loops, veiled, ifaces, maps, wideKeys, modest, calm, conditions, laid).
  DERIVED. THE GIVEN ROWS OF THIS SEAT. 1 by the template 'for every input the law returns true; each argument reads behind the call as it read before'; 0 by the template 'total and deterministic' (their statements: YbulkexpecTotals.lean).
  GIVEN WITH THE SEED: the statements are not yours to turn. If you find one false, say at which input.
  Laid BY PROGRAM, IN A SANDBOX (cutbox-rows.mjs): the forced cells as the released guide's own fill.sh prints them over the translation 63be662803992a8b… (all of the seat's roots in one cut). By AI agents, Wed Nov 11 2026. No macro, syntax, notation, axiom, sorry.
-/
import Derived.Test.YbulkexpecChecked
import GoSem.Claim
import GoSem.ClaimJoined
import GoSem.ClaimMapViews
import Derived.JoinedTies
import Derived.KernelRfl
namespace Go.Proofs.Ybulkexpec
/- THE CELL 'sum', in the pinned program and in every row, IS THE sha256 OF THE DUMP (.gsa) THAT YbulkexpecProg.lean LOADS. Nothing in Lean hashes anything: it is a label: what it is worth is what the hold of that sum in a sandbox is worth. -/
noncomputable def Yba.pinned : Pinned := { name := "ybulkexpec", sum := "63be662803992a8b4a1e6b9d28306feb5c812c11ab966273ffffac26ae8d296e", checked := Yba.checked }
namespace Rows
def none {H : Type} : Left H := { results := [], args := [] }

/-- 'render.LawS194118AWhole': WHATEVER THE INPUT: true; the input reads as it did. -/
def lawS194118AWholeSpec : ChangeSpec := { name := "lawS194118AWhole", fn := fun _ => fun
  | [d1, d2, d3, d4, d5, d6, d7] => { results := [.lit (.bool true)], args := [d1, d2, d3, d4, d5, d6, d7] }
  | _ => none }
def lawS194118AWholeRow : OpenClaim := { program := "ybulkexpec", sum := "63be662803992a8b4a1e6b9d28306feb5c812c11ab966273ffffac26ae8d296e", func := "example.com/lexhound/lexhound/internal/render.LawS194118AWhole", spec := "lawS194118AWhole", apart := false }
def LawS194118AWholeSaid : Prop := lawS194118AWholeRow.holds Yba.pinned (OpenSpec.ofChange lawS194118AWholeSpec)

/-- ITS FALSE NEIGHBOUR: 'it returns false'. Refute it at one input. -/
def lawS194118AWholeWrong : ChangeSpec := { name := "lawS194118AWhole", fn := fun _ => fun
  | [d1, d2, d3, d4, d5, d6, d7] => { results := [.lit (.bool false)], args := [d1, d2, d3, d4, d5, d6, d7] }
  | _ => none }
def LawS194118AWholeWrongFalsely : Prop := lawS194118AWholeRow.holds Yba.pinned (OpenSpec.ofChange lawS194118AWholeWrong)

end Rows
end Go.Proofs.Ybulkexpec
