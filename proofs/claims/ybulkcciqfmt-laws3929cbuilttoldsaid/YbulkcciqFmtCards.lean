/-
  DERIVED. GIVEN WITH THE SEED: THE CARDS: each row of YbulkcciqFmtRows.lean that lists a variable, with what it lists TIED to the program's text (the seventh form; the later family's looks); each row that meets fmt, with fmt's text TOLD by the authors' own Lean function (tested against real Go, not proved from fmt's source: count such statements apart). THE CARD IS WHAT COUNTS. Prove the row's statement (the work); the ties are given (YbulkcciqFmtTie.lean); close each card by the builder's one call (the guide's Derived/Test/ToyasCard.lean, 'card_holds'). Laid BY PROGRAM, IN A SANDBOX (cutbox-door.mjs). By AI agents, Wed Nov 11 2026. No macro, syntax, notation, axiom, sorry.
-/
import Derived.Test.YbulkcciqFmtRows
import GoSem.ClaimSeven
namespace Go.Proofs.YbulkcciqFmt
namespace Rows

/-- THE TOLD CARD OF 'bearerbridge.LawS3929CModel'. -/
def lawS3929CModelCard : Claim7 := { stood := { row := lawS3929CModelRow, standIns := [], harness := (true, "e147159a105d9ca3ee18e19cf3048b9a63e6557e6b5d797d683330364a9c9641"), looks := false }, told := true, goes := false }
def LawS3929CModelToldSaid : Prop := Claim7.holds Ybaf.pinned (.plain (OpenSpec.ofChange lawS3929CModelSpec)) lawS3929CModelCard
/-- ITS FALSE NEIGHBOUR. Refute it at one input. -/
def LawS3929CModelToldWrongFalsely : Prop := Claim7.holds Ybaf.pinned (.plain (OpenSpec.ofChange lawS3929CModelWrong)) lawS3929CModelCard

/-- THE TOLD CARD OF 'bearerbridge.LawS3929CBuilt'. -/
def lawS3929CBuiltCard : Claim7 := { stood := { row := lawS3929CBuiltRow, standIns := [], harness := (true, "e147159a105d9ca3ee18e19cf3048b9a63e6557e6b5d797d683330364a9c9641"), looks := false }, told := true, goes := false }
def LawS3929CBuiltToldSaid : Prop := Claim7.holds Ybaf.pinned (.plain (OpenSpec.ofChange lawS3929CBuiltSpec)) lawS3929CBuiltCard
/-- ITS FALSE NEIGHBOUR. Refute it at one input. -/
def LawS3929CBuiltToldWrongFalsely : Prop := Claim7.holds Ybaf.pinned (.plain (OpenSpec.ofChange lawS3929CBuiltWrong)) lawS3929CBuiltCard
end Rows
end Go.Proofs.YbulkcciqFmt
