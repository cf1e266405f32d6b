/-
  No cell of these rows narrows 'for every input' (looked for: loops, veiled, ifaces, maps, wideKeys, modest, calm, conditions, laid).
  DERIVED. THE GIVEN ROWS OF THIS SEAT. 1 by the template 'for every input the law returns true; each argument reads behind the call as it read before'; 0 by the template 'total and deterministic' (their statements: YbulkexozuTotals.lean).
  GIVEN WITH THE SEED: the statements are not yours to turn. If you find one false, say at which input.
  Laid BY PROGRAM, IN A SANDBOX (cutbox-rows.mjs): the forced cells as the released guide's own fill.sh prints them over the translation d279d33ad07835a1… (all of the seat's roots in one cut). By AI agents, Wed Nov 11 2026. No macro, syntax, notation, axiom, sorry.
-/
import Derived.Test.YbulkexozuChecked
import GoSem.Claim
import GoSem.ClaimJoined
import GoSem.ClaimMapViews
import Derived.JoinedTies
import Derived.KernelRfl
namespace Go.Proofs.Ybulkexozu
/- THE CELL 'sum', in the pinned program and in every row, IS THE sha256 OF THE DUMP (.gsa) THAT YbulkexozuProg.lean LOADS. Nothing in Lean hashes anything: it is a label: what it is worth is what the hold of that sum in a sandbox is worth. -/
noncomputable def Yba.pinned : Pinned := { name := "ybulkexozu", sum := "d279d33ad07835a13aee364c95afd18bc4d5f456a2db14aa01aae927afe5c8c1", checked := Yba.checked }
namespace Rows
def none {H : Type} : Left H := { results := [], args := [] }

/-- 'repo.LawS194110BWhole': WHATEVER THE INPUT: true; the input reads as it did. -/
def lawS194110BWholeSpec : ChangeSpec := { name := "lawS194110BWhole", fn := fun _ => fun
  | [d1, d2, d3, d4, d5] => { results := [.lit (.bool true)], args := [d1, d2, d3, d4, d5] }
  | _ => none }
def lawS194110BWholeRow : OpenClaim := { program := "ybulkexozu", sum := "d279d33ad07835a13aee364c95afd18bc4d5f456a2db14aa01aae927afe5c8c1", func := "example.com/branchline/branchline/internal/repo.LawS194110BWhole", spec := "lawS194110BWhole", inPlace := ["(*internal/sync.Mutex).Lock", "internal/race.Disable", "sync/atomic.CompareAndSwapInt32", "internal/race.Enable", "internal/race.Acquire", "(*internal/sync.Mutex).lockSlow", "internal/sync.runtime_canSpin", "internal/sync.runtime_doSpin", "internal/sync.throw", "internal/sync.runtime_nanotime", "internal/sync.runtime_SemacquireMutex", "sync/atomic.AddInt32", "(*internal/sync.Mutex).Unlock", "internal/race.ReleaseMerge", "(*internal/sync.Mutex).unlockSlow", "internal/sync.fatal", "internal/sync.runtime_Semrelease", "(*internal/sync.Mutex).TryLock"], plainKeys := false, apart := false }
def LawS194110BWholeSaid : Prop := lawS194110BWholeRow.holds Yba.pinned (OpenSpec.ofChange lawS194110BWholeSpec)

/-- ITS FALSE NEIGHBOUR: 'it returns false'. Refute it at one input. -/
def lawS194110BWholeWrong : ChangeSpec := { name := "lawS194110BWhole", fn := fun _ => fun
  | [d1, d2, d3, d4, d5] => { results := [.lit (.bool false)], args := [d1, d2, d3, d4, d5] }
  | _ => none }
def LawS194110BWholeWrongFalsely : Prop := lawS194110BWholeRow.holds Yba.pinned (OpenSpec.ofChange lawS194110BWholeWrong)

end Rows
end Go.Proofs.Ybulkexozu
