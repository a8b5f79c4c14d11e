/-
  No cell of these rows narrows 'for every input' (looked for: loops, veiled, ifaces, maps, wideKeys, modest, calm, conditions, laid).
  DERIVED. THE GIVEN ROWS OF THIS SEAT. 2 by the template 'for every input the law returns true; each argument reads behind the call as it read before'; 0 by the template 'total and deterministic' (their statements: YbulkbpssTotals.lean).
  GIVEN WITH THE SEED: the statements are not yours to turn. If you find one false, say at which input.
  Laid BY PROGRAM, IN A SANDBOX (cutbox-rows.mjs): the forced cells as the released guide's own fill.sh prints them over the translation e473258a0a36bf58… (all of the seat's roots in one cut). By AI agents, Wed Nov 11 2026. No macro, syntax, notation, axiom, sorry.
-/
import Derived.Test.YbulkbpssChecked
import GoSem.Claim
import GoSem.ClaimJoined
import GoSem.ClaimMapViews
import Derived.JoinedTies
import Derived.KernelRfl
namespace Go.Proofs.Ybulkbpss
/- THE CELL 'sum', in the pinned program and in every row, IS THE sha256 OF THE DUMP (.gsa) THAT YbulkbpssProg.lean LOADS. Nothing in Lean hashes anything: it is a label: what it is worth is what the hold of that sum in a sandbox is worth. -/
noncomputable def Yba.pinned : Pinned := { name := "ybulkbpss", sum := "e473258a0a36bf585350d40ffd61e5c25104298029715fecb02116d046e76e5b", checked := Yba.checked }
namespace Rows
def none {H : Type} : Left H := { results := [], args := [] }

/-- 'sighting.LawS3320CAgreesWithScan': WHATEVER THE INPUT: true; the input reads as it did. -/
def lawS3320CAgreesWithScanSpec : ChangeSpec := { name := "lawS3320CAgreesWithScan", fn := fun _ => fun
  | [d1, d2, d3, d4, d5, d6] => { results := [.lit (.bool true)], args := [d1, d2, d3, d4, d5, d6] }
  | _ => none }
def lawS3320CAgreesWithScanRow : OpenClaim := { program := "ybulkbpss", sum := "e473258a0a36bf585350d40ffd61e5c25104298029715fecb02116d046e76e5b", func := "example.com/slackleaf/slackleaf/internal/sighting.LawS3320CAgreesWithScan", spec := "lawS3320CAgreesWithScan", apart := false }
def LawS3320CAgreesWithScanSaid : Prop := lawS3320CAgreesWithScanRow.holds Yba.pinned (OpenSpec.ofChange lawS3320CAgreesWithScanSpec)

/-- ITS FALSE NEIGHBOUR: 'it returns false'. Refute it at one input. -/
def lawS3320CAgreesWithScanWrong : ChangeSpec := { name := "lawS3320CAgreesWithScan", fn := fun _ => fun
  | [d1, d2, d3, d4, d5, d6] => { results := [.lit (.bool false)], args := [d1, d2, d3, d4, d5, d6] }
  | _ => none }
def LawS3320CAgreesWithScanWrongFalsely : Prop := lawS3320CAgreesWithScanRow.holds Yba.pinned (OpenSpec.ofChange lawS3320CAgreesWithScanWrong)

/-- 'sighting.LawS3320CFindsEach': WHATEVER THE INPUT: true; the input reads as it did. -/
def lawS3320CFindsEachSpec : ChangeSpec := { name := "lawS3320CFindsEach", fn := fun _ => fun
  | [d1, d2] => { results := [.lit (.bool true)], args := [d1, d2] }
  | _ => none }
def lawS3320CFindsEachRow : OpenClaim := { program := "ybulkbpss", sum := "e473258a0a36bf585350d40ffd61e5c25104298029715fecb02116d046e76e5b", func := "example.com/slackleaf/slackleaf/internal/sighting.LawS3320CFindsEach", spec := "lawS3320CFindsEach", apart := false }
def LawS3320CFindsEachSaid : Prop := lawS3320CFindsEachRow.holds Yba.pinned (OpenSpec.ofChange lawS3320CFindsEachSpec)

/-- ITS FALSE NEIGHBOUR: 'it returns false'. Refute it at one input. -/
def lawS3320CFindsEachWrong : ChangeSpec := { name := "lawS3320CFindsEach", fn := fun _ => fun
  | [d1, d2] => { results := [.lit (.bool false)], args := [d1, d2] }
  | _ => none }
def LawS3320CFindsEachWrongFalsely : Prop := lawS3320CFindsEachRow.holds Yba.pinned (OpenSpec.ofChange lawS3320CFindsEachWrong)

end Rows
end Go.Proofs.Ybulkbpss
