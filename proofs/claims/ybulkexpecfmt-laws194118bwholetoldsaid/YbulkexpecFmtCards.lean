/-
  DERIVED. GIVEN WITH THE SEED: THE CARDS: each row of YbulkexpecFmtRows.lean that lists a variable, with what it lists TIED to the program's text (the seventh form; the later family's looks); each row that meets fmt, with fmt's text TOLD by the authors' own Lean function (tested against real Go, not proved from fmt's source: count such statements apart). THE CARD IS WHAT COUNTS. Prove the row's statement (the work); the ties are given (YbulkexpecFmtTie.lean); close each card by the builder's one call (the guide's Derived/Test/ToyasCard.lean, 'card_holds'). Laid BY PROGRAM, IN A SANDBOX (cutbox-door.mjs). By AI agents, Wed Nov 11 2026. No macro, syntax, notation, axiom, sorry.
-/
import Derived.Test.YbulkexpecFmtRows
import GoSem.ClaimSeven
namespace Go.Proofs.YbulkexpecFmt
namespace Rows

/-- THE TOLD CARD OF 'statement.LawS194118BWhole'. -/
def lawS194118BWholeCard : Claim7 := { stood := { row := lawS194118BWholeRow, standIns := [], harness := (true, "aa0168ef1a12719caad49a6870d0e76aa830e982ba5936d888ad1993f2f6a1a4"), looks := false }, told := true, goes := false }
def LawS194118BWholeToldSaid : Prop := Claim7.holds Ybaf.pinned (.plain (OpenSpec.ofChange lawS194118BWholeSpec)) lawS194118BWholeCard
/-- ITS FALSE NEIGHBOUR. Refute it at one input. -/
def LawS194118BWholeToldWrongFalsely : Prop := Claim7.holds Ybaf.pinned (.plain (OpenSpec.ofChange lawS194118BWholeWrong)) lawS194118BWholeCard
end Rows
end Go.Proofs.YbulkexpecFmt
