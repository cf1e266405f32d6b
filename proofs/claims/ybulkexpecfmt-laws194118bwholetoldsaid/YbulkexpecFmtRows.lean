/-
  No cell of these rows narrows 'for every input' (looked for: loops, veiled, ifaces, maps, wideKeys, modest, calm, conditions, laid).
  DERIVED. THE GIVEN ROWS OF THIS SEAT. 1 by the template 'for every input the law returns true; each argument reads behind the call as it read before'; 0 by the template 'total and deterministic' (their statements: YbulkexpecFmtTotals.lean).
  GIVEN WITH THE SEED: the statements are not yours to turn. If you find one false, say at which input.
  Laid BY PROGRAM, IN A SANDBOX (cutbox-rows.mjs): the forced cells as the released guide's own fill.sh prints them over the translation 791272d6b611e044… (all of the seat's roots in one cut). By AI agents, Wed Nov 11 2026. No macro, syntax, notation, axiom, sorry.
-/
import Derived.Test.YbulkexpecFmtChecked
import GoSem.Claim
import GoSem.ClaimJoined
import GoSem.ClaimMapViews
import Derived.JoinedTies
import Derived.KernelRfl
namespace Go.Proofs.YbulkexpecFmt
/- THE CELL 'sum', in the pinned program and in every row, IS THE sha256 OF THE DUMP (.gsa) THAT YbulkexpecFmtProg.lean LOADS. Nothing in Lean hashes anything: it is a label: what it is worth is what the hold of that sum in a sandbox is worth. -/
noncomputable def Ybaf.pinned : Pinned := { name := "ybulkexpecfmt", sum := "791272d6b611e044a0264cde47bd761910d1c4621c4d08bebca954a03f29d4fe", checked := Ybaf.checked }
namespace Rows
def none {H : Type} : Left H := { results := [], args := [] }

/-- 'statement.LawS194118BWhole': WHATEVER THE INPUT: true; the input reads as it did. -/
def lawS194118BWholeSpec : ChangeSpec := { name := "lawS194118BWhole", fn := fun _ => fun
  | [d] => { results := [.lit (.bool true)], args := [d] }
  | _ => none }
def lawS194118BWholeRow : OpenClaim := { program := "ybulkexpecfmt", sum := "791272d6b611e044a0264cde47bd761910d1c4621c4d08bebca954a03f29d4fe", func := "example.com/lexhound/lexhound/internal/statement.LawS194118BWhole", spec := "lawS194118BWhole", stops := ["fmt.Sprintf"], inPlace := ["internal/abi.NoEscape", "fmt.Sprintf", "internal/bytealg.abigen_runtime_cmpstring"], unfollowed := true, recurses := true, apart := false }
/-- NO THEOREM (fmt's text is open here; it may be false): for the released tool's asking of the row's closed facts alone. THE STATEMENT IS 'LawS194118BWholeToldSaid' (YbulkexpecFmtCards.lean). -/
def LawS194118BWholeFormAsk : Prop := lawS194118BWholeRow.holds Ybaf.pinned (OpenSpec.ofChange lawS194118BWholeSpec)

/-- ITS FALSE NEIGHBOUR: 'it returns false'. Refute it at one input. -/
def lawS194118BWholeWrong : ChangeSpec := { name := "lawS194118BWhole", fn := fun _ => fun
  | [d] => { results := [.lit (.bool false)], args := [d] }
  | _ => none }
def LawS194118BWholeWrongFormAsk : Prop := lawS194118BWholeRow.holds Ybaf.pinned (OpenSpec.ofChange lawS194118BWholeWrong)

end Rows
end Go.Proofs.YbulkexpecFmt
