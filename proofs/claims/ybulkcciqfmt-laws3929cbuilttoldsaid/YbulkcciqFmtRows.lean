/-
  No cell of these rows narrows 'for every input' (looked for: loops, veiled, ifaces, maps, wideKeys, modest, calm, conditions, laid).
  DERIVED. THE GIVEN ROWS OF THIS SEAT. 2 by the template 'for every input the law returns true; each argument reads behind the call as it read before'; 0 by the template 'total and deterministic' (their statements: YbulkcciqFmtTotals.lean).
  GIVEN WITH THE SEED: the statements are not yours to turn. If you find one false, say at which input.
  Laid BY PROGRAM, IN A SANDBOX (cutbox-rows.mjs): the forced cells as the released guide's own fill.sh prints them over the translation 95e25876dbd7fcbf… (all of the seat's roots in one cut). By AI agents, Wed Nov 11 2026. No macro, syntax, notation, axiom, sorry.
-/
import Derived.Test.YbulkcciqFmtChecked
import GoSem.Claim
import GoSem.ClaimJoined
import GoSem.ClaimMapViews
import Derived.JoinedTies
import Derived.KernelRfl
namespace Go.Proofs.YbulkcciqFmt
/- THE CELL 'sum', in the pinned program and in every row, IS THE sha256 OF THE DUMP (.gsa) THAT YbulkcciqFmtProg.lean LOADS. Nothing in Lean hashes anything: it is a label: what it is worth is what the hold of that sum in a sandbox is worth. -/
noncomputable def Ybaf.pinned : Pinned := { name := "ybulkcciqfmt", sum := "95e25876dbd7fcbff4834d3cc9d1c8307c292e6746df5f433f365d8b9046f7d3", checked := Ybaf.checked }
namespace Rows
def none {H : Type} : Left H := { results := [], args := [] }

/-- 'bearerbridge.LawS3929CModel': WHATEVER THE INPUT: true; the input reads as it did. -/
def lawS3929CModelSpec : ChangeSpec := { name := "lawS3929CModel", fn := fun _ => fun
  | [d] => { results := [.lit (.bool true)], args := [d] }
  | _ => none }
def lawS3929CModelRow : OpenClaim := { program := "ybulkcciqfmt", sum := "95e25876dbd7fcbff4834d3cc9d1c8307c292e6746df5f433f365d8b9046f7d3", func := "example.com/bearerbridge/bearerbridge.LawS3929CModel", spec := "lawS3929CModel", stops := ["fmt.errorf"], inPlace := ["fmt.errorf"], apart := false }
/-- NO THEOREM (fmt's text is open here; it may be false): for the released tool's asking of the row's closed facts alone. THE STATEMENT IS 'LawS3929CModelToldSaid' (YbulkcciqFmtCards.lean). -/
def LawS3929CModelFormAsk : Prop := lawS3929CModelRow.holds Ybaf.pinned (OpenSpec.ofChange lawS3929CModelSpec)

/-- ITS FALSE NEIGHBOUR: 'it returns false'. Refute it at one input. -/
def lawS3929CModelWrong : ChangeSpec := { name := "lawS3929CModel", fn := fun _ => fun
  | [d] => { results := [.lit (.bool false)], args := [d] }
  | _ => none }
def LawS3929CModelWrongFormAsk : Prop := lawS3929CModelRow.holds Ybaf.pinned (OpenSpec.ofChange lawS3929CModelWrong)

/-- 'bearerbridge.LawS3929CBuilt': WHATEVER THE INPUT: true; the input reads as it did. -/
def lawS3929CBuiltSpec : ChangeSpec := { name := "lawS3929CBuilt", fn := fun _ => fun
  | [d1, d2, d3] => { results := [.lit (.bool true)], args := [d1, d2, d3] }
  | _ => none }
def lawS3929CBuiltRow : OpenClaim := { program := "ybulkcciqfmt", sum := "95e25876dbd7fcbff4834d3cc9d1c8307c292e6746df5f433f365d8b9046f7d3", func := "example.com/bearerbridge/bearerbridge.LawS3929CBuilt", spec := "lawS3929CBuilt", stops := ["fmt.errorf"], inPlace := ["fmt.errorf"], apart := false }
/-- NO THEOREM (fmt's text is open here; it may be false): for the released tool's asking of the row's closed facts alone. THE STATEMENT IS 'LawS3929CBuiltToldSaid' (YbulkcciqFmtCards.lean). -/
def LawS3929CBuiltFormAsk : Prop := lawS3929CBuiltRow.holds Ybaf.pinned (OpenSpec.ofChange lawS3929CBuiltSpec)

/-- ITS FALSE NEIGHBOUR: 'it returns false'. Refute it at one input. -/
def lawS3929CBuiltWrong : ChangeSpec := { name := "lawS3929CBuilt", fn := fun _ => fun
  | [d1, d2, d3] => { results := [.lit (.bool false)], args := [d1, d2, d3] }
  | _ => none }
def LawS3929CBuiltWrongFormAsk : Prop := lawS3929CBuiltRow.holds Ybaf.pinned (OpenSpec.ofChange lawS3929CBuiltWrong)

end Rows
end Go.Proofs.YbulkcciqFmt
