/-
  No cell of these rows narrows 'for every input' (looked for: loops, veiled, ifaces, maps, wideKeys, modest, calm, conditions, laid).
  DERIVED. THE GIVEN ROWS OF THIS SEAT. 3 by the template 'for every input the law returns true; each argument reads behind the call as it read before'; 0 by the template 'total and deterministic' (their statements: YbulkexpbyTotals.lean).
  GIVEN WITH THE SEED: the statements are not yours to turn. If you find one false, say at which input.
  Laid BY PROGRAM, IN A SANDBOX (cutbox-rows.mjs): the forced cells as the released guide's own fill.sh prints them over the translation bebf67cb5fcfd7e4… (all of the seat's roots in one cut). By AI agents, Wed Nov 11 2026. No macro, syntax, notation, axiom, sorry.
-/
import Derived.Test.YbulkexpbyChecked
import GoSem.Claim
import GoSem.ClaimJoined
import GoSem.ClaimMapViews
import Derived.JoinedTies
import Derived.KernelRfl
namespace Go.Proofs.Ybulkexpby
/- THE CELL 'sum', in the pinned program and in every row, IS THE sha256 OF THE DUMP (.gsa) THAT YbulkexpbyProg.lean LOADS. Nothing in Lean hashes anything: it is a label: what it is worth is what the hold of that sum in a sandbox is worth. -/
noncomputable def Yba.pinned : Pinned := { name := "ybulkexpby", sum := "bebf67cb5fcfd7e4a0dbe82191b267b4eb55baf0473b8b1d96f496d3975e190b", checked := Yba.checked }
namespace Rows
def none {H : Type} : Left H := { results := [], args := [] }

/-- 'jsonschema.LawS194114AWhole': WHATEVER THE INPUT: true; the input reads as it did. -/
def lawS194114AWholeSpec : ChangeSpec := { name := "lawS194114AWhole", fn := fun _ => fun
  | [d1, d2, d3, d4, d5, d6, d7] => { results := [.lit (.bool true)], args := [d1, d2, d3, d4, d5, d6, d7] }
  | _ => none }
def lawS194114AWholeRow : OpenClaim := { program := "ybulkexpby", sum := "bebf67cb5fcfd7e4a0dbe82191b267b4eb55baf0473b8b1d96f496d3975e190b", func := "example.com/lamina/lamina/jsonschema.LawS194114AWhole", spec := "lawS194114AWhole", apart := false }
def LawS194114AWholeSaid : Prop := lawS194114AWholeRow.holds Yba.pinned (OpenSpec.ofChange lawS194114AWholeSpec)

/-- ITS FALSE NEIGHBOUR: 'it returns false'. Refute it at one input. -/
def lawS194114AWholeWrong : ChangeSpec := { name := "lawS194114AWhole", fn := fun _ => fun
  | [d1, d2, d3, d4, d5, d6, d7] => { results := [.lit (.bool false)], args := [d1, d2, d3, d4, d5, d6, d7] }
  | _ => none }
def LawS194114AWholeWrongFalsely : Prop := lawS194114AWholeRow.holds Yba.pinned (OpenSpec.ofChange lawS194114AWholeWrong)

/-- 'yamlnode.LawS194114BWhole': WHATEVER THE INPUT: true; the input reads as it did. -/
def lawS194114BWholeSpec : ChangeSpec := { name := "lawS194114BWhole", fn := fun _ => fun
  | [d1, d2, d3, d4] => { results := [.lit (.bool true)], args := [d1, d2, d3, d4] }
  | _ => none }
def lawS194114BWholeRow : OpenClaim := { program := "ybulkexpby", sum := "bebf67cb5fcfd7e4a0dbe82191b267b4eb55baf0473b8b1d96f496d3975e190b", func := "example.com/lamina/lamina/yamlnode.LawS194114BWhole", spec := "lawS194114BWhole", unfollowed := true, recurses := true, apart := false }
def LawS194114BWholeSaid : Prop := lawS194114BWholeRow.holds Yba.pinned (OpenSpec.ofChange lawS194114BWholeSpec)

/-- ITS FALSE NEIGHBOUR: 'it returns false'. Refute it at one input. -/
def lawS194114BWholeWrong : ChangeSpec := { name := "lawS194114BWhole", fn := fun _ => fun
  | [d1, d2, d3, d4] => { results := [.lit (.bool false)], args := [d1, d2, d3, d4] }
  | _ => none }
def LawS194114BWholeWrongFalsely : Prop := lawS194114BWholeRow.holds Yba.pinned (OpenSpec.ofChange lawS194114BWholeWrong)

/-- 'patch.LawS194114CWhole': WHATEVER THE INPUT: true; the input reads as it did. -/
def lawS194114CWholeSpec : ChangeSpec := { name := "lawS194114CWhole", fn := fun _ => fun
  | [d1, d2, d3, d4, d5, d6, d7] => { results := [.lit (.bool true)], args := [d1, d2, d3, d4, d5, d6, d7] }
  | _ => none }
def lawS194114CWholeRow : OpenClaim := { program := "ybulkexpby", sum := "bebf67cb5fcfd7e4a0dbe82191b267b4eb55baf0473b8b1d96f496d3975e190b", func := "example.com/lamina/lamina/patch.LawS194114CWhole", spec := "lawS194114CWhole", apart := false }
def LawS194114CWholeSaid : Prop := lawS194114CWholeRow.holds Yba.pinned (OpenSpec.ofChange lawS194114CWholeSpec)

/-- ITS FALSE NEIGHBOUR: 'it returns false'. Refute it at one input. -/
def lawS194114CWholeWrong : ChangeSpec := { name := "lawS194114CWhole", fn := fun _ => fun
  | [d1, d2, d3, d4, d5, d6, d7] => { results := [.lit (.bool false)], args := [d1, d2, d3, d4, d5, d6, d7] }
  | _ => none }
def LawS194114CWholeWrongFalsely : Prop := lawS194114CWholeRow.holds Yba.pinned (OpenSpec.ofChange lawS194114CWholeWrong)

end Rows
end Go.Proofs.Ybulkexpby
