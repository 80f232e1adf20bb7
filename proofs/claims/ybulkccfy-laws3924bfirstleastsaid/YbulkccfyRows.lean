/-
  No cell of these rows narrows 'for every input' (looked for: loops, veiled, ifaces, maps, wideKeys, modest, calm, conditions, laid).
  DERIVED. THE GIVEN ROWS OF THIS SEAT. 1 by the template 'for every input the law returns true; each argument reads behind the call as it read before'; 0 by the template 'total and deterministic' (their statements: YbulkccfyTotals.lean).
  GIVEN WITH THE SEED: the statements are not yours to turn. If you find one false, say at which input.
  Laid BY PROGRAM, IN A SANDBOX (cutbox-rows.mjs): the forced cells as the released guide's own fill.sh prints them over the translation c3b094a92ddbba8a… (all of the seat's roots in one cut). By AI agents, Wed Nov 11 2026. No macro, syntax, notation, axiom, sorry.
-/
import Derived.Test.YbulkccfyChecked
import GoSem.Claim
import GoSem.ClaimJoined
import GoSem.ClaimMapViews
import Derived.JoinedTies
import Derived.KernelRfl
namespace Go.Proofs.Ybulkccfy
/- THE CELL 'sum', in the pinned program and in every row, IS THE sha256 OF THE DUMP (.gsa) THAT YbulkccfyProg.lean LOADS. Nothing in Lean hashes anything: it is a label: what it is worth is what the hold of that sum in a sandbox is worth. -/
noncomputable def Yba.pinned : Pinned := { name := "ybulkccfy", sum := "c3b094a92ddbba8a9c648459cf38c0c03330512d041628bbd73661e2925ec173", checked := Yba.checked }
namespace Rows
def none {H : Type} : Left H := { results := [], args := [] }

/-- 'plan.LawS3924BFirstLeast': WHATEVER THE INPUT: true; the input reads as it did. -/
def lawS3924BFirstLeastSpec : ChangeSpec := { name := "lawS3924BFirstLeast", fn := fun _ => fun
  | [d1, d2] => { results := [.lit (.bool true)], args := [d1, d2] }
  | _ => none }
def lawS3924BFirstLeastRow : OpenClaim := { program := "ybulkccfy", sum := "c3b094a92ddbba8a9c648459cf38c0c03330512d041628bbd73661e2925ec173", func := "example.com/dag-of-units/dag-of-units/pkg/plan.LawS3924BFirstLeast", spec := "lawS3924BFirstLeast", apart := false }
def LawS3924BFirstLeastSaid : Prop := lawS3924BFirstLeastRow.holds Yba.pinned (OpenSpec.ofChange lawS3924BFirstLeastSpec)

/-- ITS FALSE NEIGHBOUR: 'it returns false'. Refute it at one input. -/
def lawS3924BFirstLeastWrong : ChangeSpec := { name := "lawS3924BFirstLeast", fn := fun _ => fun
  | [d1, d2] => { results := [.lit (.bool false)], args := [d1, d2] }
  | _ => none }
def LawS3924BFirstLeastWrongFalsely : Prop := lawS3924BFirstLeastRow.holds Yba.pinned (OpenSpec.ofChange lawS3924BFirstLeastWrong)

end Rows
end Go.Proofs.Ybulkccfy
