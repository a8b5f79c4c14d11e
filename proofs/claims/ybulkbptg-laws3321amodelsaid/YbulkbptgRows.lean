/-
  No cell of these rows narrows 'for every input' (looked for: loops, veiled, ifaces, maps, wideKeys, modest, calm, conditions, laid).
  DERIVED. THE GIVEN ROWS OF THIS SEAT. 4 by the template 'for every input the law returns true; each argument reads behind the call as it read before'; 0 by the template 'total and deterministic' (their statements: YbulkbptgTotals.lean).
  GIVEN WITH THE SEED: the statements are not yours to turn. If you find one false, say at which input.
  Laid BY PROGRAM, IN A SANDBOX (cutbox-rows.mjs): the forced cells as the released guide's own fill.sh prints them over the translation 16766ef170164a2f… (all of the seat's roots in one cut). By AI agents, Wed Nov 11 2026. No macro, syntax, notation, axiom, sorry.
-/
import Derived.Test.YbulkbptgChecked
import GoSem.Claim
import GoSem.ClaimJoined
import GoSem.ClaimMapViews
import Derived.JoinedTies
import Derived.KernelRfl
namespace Go.Proofs.Ybulkbptg
/- THE CELL 'sum', in the pinned program and in every row, IS THE sha256 OF THE DUMP (.gsa) THAT YbulkbptgProg.lean LOADS. Nothing in Lean hashes anything: it is a label: what it is worth is what the hold of that sum in a sandbox is worth. -/
noncomputable def Yba.pinned : Pinned := { name := "ybulkbptg", sum := "16766ef170164a2f96b3d63bdbdc3e8eaae7a18b4c68b5748d7d5324ef2d925c", checked := Yba.checked }
namespace Rows
def none {H : Type} : Left H := { results := [], args := [] }

/-- 'score.LawS3321AModel': WHATEVER THE INPUT: true; the input reads as it did. -/
def lawS3321AModelSpec : ChangeSpec := { name := "lawS3321AModel", fn := fun _ => fun
  | [d1, d2, d3, d4] => { results := [.lit (.bool true)], args := [d1, d2, d3, d4] }
  | _ => none }
def lawS3321AModelRow : OpenClaim := { program := "ybulkbptg", sum := "16766ef170164a2f96b3d63bdbdc3e8eaae7a18b4c68b5748d7d5324ef2d925c", func := "example.com/tightbook/tightbook/pkg/score.LawS3321AModel", spec := "lawS3321AModel", apart := false }
def LawS3321AModelSaid : Prop := lawS3321AModelRow.holds Yba.pinned (OpenSpec.ofChange lawS3321AModelSpec)

/-- ITS FALSE NEIGHBOUR: 'it returns false'. Refute it at one input. -/
def lawS3321AModelWrong : ChangeSpec := { name := "lawS3321AModel", fn := fun _ => fun
  | [d1, d2, d3, d4] => { results := [.lit (.bool false)], args := [d1, d2, d3, d4] }
  | _ => none }
def LawS3321AModelWrongFalsely : Prop := lawS3321AModelRow.holds Yba.pinned (OpenSpec.ofChange lawS3321AModelWrong)

/-- 'score.LawS3321ASwap': WHATEVER THE INPUT: true; the input reads as it did. -/
def lawS3321ASwapSpec : ChangeSpec := { name := "lawS3321ASwap", fn := fun _ => fun
  | [d1, d2, d3, d4, d5, d6, d7, d8, d9, d10, d11] => { results := [.lit (.bool true)], args := [d1, d2, d3, d4, d5, d6, d7, d8, d9, d10, d11] }
  | _ => none }
def lawS3321ASwapRow : OpenClaim := { program := "ybulkbptg", sum := "16766ef170164a2f96b3d63bdbdc3e8eaae7a18b4c68b5748d7d5324ef2d925c", func := "example.com/tightbook/tightbook/pkg/score.LawS3321ASwap", spec := "lawS3321ASwap", apart := false }
def LawS3321ASwapSaid : Prop := lawS3321ASwapRow.holds Yba.pinned (OpenSpec.ofChange lawS3321ASwapSpec)

/-- ITS FALSE NEIGHBOUR: 'it returns false'. Refute it at one input. -/
def lawS3321ASwapWrong : ChangeSpec := { name := "lawS3321ASwap", fn := fun _ => fun
  | [d1, d2, d3, d4, d5, d6, d7, d8, d9, d10, d11] => { results := [.lit (.bool false)], args := [d1, d2, d3, d4, d5, d6, d7, d8, d9, d10, d11] }
  | _ => none }
def LawS3321ASwapWrongFalsely : Prop := lawS3321ASwapRow.holds Yba.pinned (OpenSpec.ofChange lawS3321ASwapWrong)

/-- 'config.LawS3321CExact': WHATEVER THE INPUT: true; the input reads as it did. -/
def lawS3321CExactSpec : ChangeSpec := { name := "lawS3321CExact", fn := fun _ => fun
  | [d] => { results := [.lit (.bool true)], args := [d] }
  | _ => none }
def lawS3321CExactRow : OpenClaim := { program := "ybulkbptg", sum := "16766ef170164a2f96b3d63bdbdc3e8eaae7a18b4c68b5748d7d5324ef2d925c", func := "example.com/tightbook/tightbook/pkg/config.LawS3321CExact", spec := "lawS3321CExact", apart := false }
def LawS3321CExactSaid : Prop := lawS3321CExactRow.holds Yba.pinned (OpenSpec.ofChange lawS3321CExactSpec)

/-- ITS FALSE NEIGHBOUR: 'it returns false'. Refute it at one input. -/
def lawS3321CExactWrong : ChangeSpec := { name := "lawS3321CExact", fn := fun _ => fun
  | [d] => { results := [.lit (.bool false)], args := [d] }
  | _ => none }
def LawS3321CExactWrongFalsely : Prop := lawS3321CExactRow.holds Yba.pinned (OpenSpec.ofChange lawS3321CExactWrong)

/-- 'config.LawS3321CBuilt': WHATEVER THE INPUT: true; the input reads as it did. -/
def lawS3321CBuiltSpec : ChangeSpec := { name := "lawS3321CBuilt", fn := fun _ => fun
  | [d1, d2, d3] => { results := [.lit (.bool true)], args := [d1, d2, d3] }
  | _ => none }
def lawS3321CBuiltRow : OpenClaim := { program := "ybulkbptg", sum := "16766ef170164a2f96b3d63bdbdc3e8eaae7a18b4c68b5748d7d5324ef2d925c", func := "example.com/tightbook/tightbook/pkg/config.LawS3321CBuilt", spec := "lawS3321CBuilt", apart := false }
def LawS3321CBuiltSaid : Prop := lawS3321CBuiltRow.holds Yba.pinned (OpenSpec.ofChange lawS3321CBuiltSpec)

/-- ITS FALSE NEIGHBOUR: 'it returns false'. Refute it at one input. -/
def lawS3321CBuiltWrong : ChangeSpec := { name := "lawS3321CBuilt", fn := fun _ => fun
  | [d1, d2, d3] => { results := [.lit (.bool false)], args := [d1, d2, d3] }
  | _ => none }
def LawS3321CBuiltWrongFalsely : Prop := lawS3321CBuiltRow.holds Yba.pinned (OpenSpec.ofChange lawS3321CBuiltWrong)

end Rows
end Go.Proofs.Ybulkbptg
