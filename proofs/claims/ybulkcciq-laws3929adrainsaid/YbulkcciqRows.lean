/-
  No cell of these rows narrows 'for every input' (looked for: loops, veiled, ifaces, maps, wideKeys, modest, calm, conditions, laid).
  DERIVED. THE GIVEN ROWS OF THIS SEAT. 2 by the template 'for every input the law returns true; each argument reads behind the call as it read before'; 0 by the template 'total and deterministic' (their statements: YbulkcciqTotals.lean).
  GIVEN WITH THE SEED: the statements are not yours to turn. If you find one false, say at which input.
  Laid BY PROGRAM, IN A SANDBOX (cutbox-rows.mjs): the forced cells as the released guide's own fill.sh prints them over the translation f5c7366c63a266c1… (all of the seat's roots in one cut). By AI agents, Wed Nov 11 2026. No macro, syntax, notation, axiom, sorry.
-/
import Derived.Test.YbulkcciqChecked
import GoSem.Claim
import GoSem.ClaimJoined
import GoSem.ClaimMapViews
import Derived.JoinedTies
import Derived.KernelRfl
namespace Go.Proofs.Ybulkcciq
/- THE CELL 'sum', in the pinned program and in every row, IS THE sha256 OF THE DUMP (.gsa) THAT YbulkcciqProg.lean LOADS. Nothing in Lean hashes anything: it is a label: what it is worth is what the hold of that sum in a sandbox is worth. -/
noncomputable def Yba.pinned : Pinned := { name := "ybulkcciq", sum := "f5c7366c63a266c199ac93bc5a69182f19e30e7305ab777389737e1e0e4ea1f7", checked := Yba.checked }
namespace Rows
def none {H : Type} : Left H := { results := [], args := [] }

/-- 'bearerbridge.LawS3929AFirstFree': WHATEVER THE INPUT: true; the input reads as it did. -/
def lawS3929AFirstFreeSpec : ChangeSpec := { name := "lawS3929AFirstFree", fn := fun _ => fun
  | [d] => { results := [.lit (.bool true)], args := [d] }
  | _ => none }
def lawS3929AFirstFreeRow : OpenClaim := { program := "ybulkcciq", sum := "f5c7366c63a266c199ac93bc5a69182f19e30e7305ab777389737e1e0e4ea1f7", func := "example.com/bearerbridge/bearerbridge.LawS3929AFirstFree", spec := "lawS3929AFirstFree", apart := false }
def LawS3929AFirstFreeSaid : Prop := lawS3929AFirstFreeRow.holds Yba.pinned (OpenSpec.ofChange lawS3929AFirstFreeSpec)

/-- ITS FALSE NEIGHBOUR: 'it returns false'. Refute it at one input. -/
def lawS3929AFirstFreeWrong : ChangeSpec := { name := "lawS3929AFirstFree", fn := fun _ => fun
  | [d] => { results := [.lit (.bool false)], args := [d] }
  | _ => none }
def LawS3929AFirstFreeWrongFalsely : Prop := lawS3929AFirstFreeRow.holds Yba.pinned (OpenSpec.ofChange lawS3929AFirstFreeWrong)

/-- 'bearerbridge.LawS3929ADrain': WHATEVER THE INPUT: true; the input reads as it did. -/
def lawS3929ADrainSpec : ChangeSpec := { name := "lawS3929ADrain", fn := fun _ => fun
  | [d] => { results := [.lit (.bool true)], args := [d] }
  | _ => none }
def lawS3929ADrainRow : OpenClaim := { program := "ybulkcciq", sum := "f5c7366c63a266c199ac93bc5a69182f19e30e7305ab777389737e1e0e4ea1f7", func := "example.com/bearerbridge/bearerbridge.LawS3929ADrain", spec := "lawS3929ADrain", apart := false }
def LawS3929ADrainSaid : Prop := lawS3929ADrainRow.holds Yba.pinned (OpenSpec.ofChange lawS3929ADrainSpec)

/-- ITS FALSE NEIGHBOUR: 'it returns false'. Refute it at one input. -/
def lawS3929ADrainWrong : ChangeSpec := { name := "lawS3929ADrain", fn := fun _ => fun
  | [d] => { results := [.lit (.bool false)], args := [d] }
  | _ => none }
def LawS3929ADrainWrongFalsely : Prop := lawS3929ADrainRow.holds Yba.pinned (OpenSpec.ofChange lawS3929ADrainWrong)

end Rows
end Go.Proofs.Ybulkcciq
