/-
  No cell of these rows narrows 'for every input' (looked for: loops, veiled, ifaces, maps, wideKeys, modest, calm, conditions, laid).
  DERIVED. THE GIVEN ROWS OF THIS SEAT. 3 by the template 'for every input the law returns true; each argument reads behind the call as it read before'; 0 by the template 'total and deterministic' (their statements: YbulkbprcTotals.lean).
  GIVEN WITH THE SEED: the statements are not yours to turn. If you find one false, say at which input.
  Laid BY PROGRAM, IN A SANDBOX (cutbox-rows.mjs): the forced cells as the released guide's own fill.sh prints them over the translation 93db573a4ba5c418… (all of the seat's roots in one cut). By AI agents, Wed Nov 11 2026. No macro, syntax, notation, axiom, sorry.
-/
import Derived.Test.YbulkbprcChecked
import GoSem.Claim
import GoSem.ClaimJoined
import GoSem.ClaimMapViews
import Derived.JoinedTies
import Derived.KernelRfl
namespace Go.Proofs.Ybulkbprc
/- THE CELL 'sum', in the pinned program and in every row, IS THE sha256 OF THE DUMP (.gsa) THAT YbulkbprcProg.lean LOADS. Nothing in Lean hashes anything: it is a label: what it is worth is what the hold of that sum in a sandbox is worth. -/
noncomputable def Yba.pinned : Pinned := { name := "ybulkbprc", sum := "93db573a4ba5c41862ffc8b3dc1b1d84d7107cbed22e296ac7034e3e6e2d0562", checked := Yba.checked }
namespace Rows
def none {H : Type} : Left H := { results := [], args := [] }

/-- 'grammar-to-parser.LawS3317BRun': WHATEVER THE INPUT: true; the input reads as it did. -/
def lawS3317BRunSpec : ChangeSpec := { name := "lawS3317BRun", fn := fun _ => fun
  | [d1, d2, d3, d4, d5, d6, d7, d8, d9, d10] => { results := [.lit (.bool true)], args := [d1, d2, d3, d4, d5, d6, d7, d8, d9, d10] }
  | _ => none }
def lawS3317BRunRow : OpenClaim := { program := "ybulkbprc", sum := "93db573a4ba5c41862ffc8b3dc1b1d84d7107cbed22e296ac7034e3e6e2d0562", func := "example.com/grammar-to-parser/grammar-to-parser.LawS3317BRun", spec := "lawS3317BRun", unfollowed := true, recurses := true, plainKeys := false, apart := false }
def LawS3317BRunSaid : Prop := lawS3317BRunRow.holds Yba.pinned (OpenSpec.ofChange lawS3317BRunSpec)

/-- ITS FALSE NEIGHBOUR: 'it returns false'. Refute it at one input. -/
def lawS3317BRunWrong : ChangeSpec := { name := "lawS3317BRun", fn := fun _ => fun
  | [d1, d2, d3, d4, d5, d6, d7, d8, d9, d10] => { results := [.lit (.bool false)], args := [d1, d2, d3, d4, d5, d6, d7, d8, d9, d10] }
  | _ => none }
def LawS3317BRunWrongFalsely : Prop := lawS3317BRunRow.holds Yba.pinned (OpenSpec.ofChange lawS3317BRunWrong)

/-- 'grammar-to-parser.LawS3317CModel': WHATEVER THE INPUT: true; the input reads as it did. -/
def lawS3317CModelSpec : ChangeSpec := { name := "lawS3317CModel", fn := fun _ => fun
  | [d1, d2, d3] => { results := [.lit (.bool true)], args := [d1, d2, d3] }
  | _ => none }
def lawS3317CModelRow : OpenClaim := { program := "ybulkbprc", sum := "93db573a4ba5c41862ffc8b3dc1b1d84d7107cbed22e296ac7034e3e6e2d0562", func := "example.com/grammar-to-parser/grammar-to-parser.LawS3317CModel", spec := "lawS3317CModel", plainKeys := false, apart := false }
def LawS3317CModelSaid : Prop := lawS3317CModelRow.holds Yba.pinned (OpenSpec.ofChange lawS3317CModelSpec)

/-- ITS FALSE NEIGHBOUR: 'it returns false'. Refute it at one input. -/
def lawS3317CModelWrong : ChangeSpec := { name := "lawS3317CModel", fn := fun _ => fun
  | [d1, d2, d3] => { results := [.lit (.bool false)], args := [d1, d2, d3] }
  | _ => none }
def LawS3317CModelWrongFalsely : Prop := lawS3317CModelRow.holds Yba.pinned (OpenSpec.ofChange lawS3317CModelWrong)

/-- 'grammar-to-parser.LawS3317CNumbered': WHATEVER THE INPUT: true; the input reads as it did. -/
def lawS3317CNumberedSpec : ChangeSpec := { name := "lawS3317CNumbered", fn := fun _ => fun
  | [d1, d2, d3, d4, d5, d6, d7] => { results := [.lit (.bool true)], args := [d1, d2, d3, d4, d5, d6, d7] }
  | _ => none }
def lawS3317CNumberedRow : OpenClaim := { program := "ybulkbprc", sum := "93db573a4ba5c41862ffc8b3dc1b1d84d7107cbed22e296ac7034e3e6e2d0562", func := "example.com/grammar-to-parser/grammar-to-parser.LawS3317CNumbered", spec := "lawS3317CNumbered", plainKeys := false, apart := false }
def LawS3317CNumberedSaid : Prop := lawS3317CNumberedRow.holds Yba.pinned (OpenSpec.ofChange lawS3317CNumberedSpec)

/-- ITS FALSE NEIGHBOUR: 'it returns false'. Refute it at one input. -/
def lawS3317CNumberedWrong : ChangeSpec := { name := "lawS3317CNumbered", fn := fun _ => fun
  | [d1, d2, d3, d4, d5, d6, d7] => { results := [.lit (.bool false)], args := [d1, d2, d3, d4, d5, d6, d7] }
  | _ => none }
def LawS3317CNumberedWrongFalsely : Prop := lawS3317CNumberedRow.holds Yba.pinned (OpenSpec.ofChange lawS3317CNumberedWrong)

end Rows
end Go.Proofs.Ybulkbprc
