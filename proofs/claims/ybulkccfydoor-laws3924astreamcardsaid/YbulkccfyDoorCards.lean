/-
  DERIVED. GIVEN WITH THE SEED: THE CARDS: each row of YbulkccfyDoorRows.lean that lists a variable, with what it lists TIED to the program's text (the seventh form; the later family's looks); each row that meets fmt, with fmt's text TOLD by the authors' own Lean function (tested against real Go, not proved from fmt's source: count such statements apart). THE CARD IS WHAT COUNTS. Prove the row's statement (the work); the ties are given (YbulkccfyDoorTie.lean); close each card by the builder's one call (the guide's Derived/Test/ToyasCard.lean, 'card_holds'). Laid BY PROGRAM, IN A SANDBOX (cutbox-door.mjs). By AI agents, Wed Nov 11 2026. No macro, syntax, notation, axiom, sorry.
-/
import Derived.Test.YbulkccfyDoorRows
import GoSem.ClaimSeven
namespace Go.Proofs.YbulkccfyDoor
namespace Rows

/-- THE TIED CARD OF 'verify.LawS3924AExact'. -/
def lawS3924AExactCard : Claim7 := { stood := { row := lawS3924AExactRow, standIns := [], harness := (true, "f57ebded2a32456a684eeb266f5a5e30fe7c89c6c14e12a91cbec8bb39de841b"), looks := false }, kinds := [], alts := [], laidByText := true, laidKinds := [.data, .data, .data], laidTests := true, laidLooks := .later }
def LawS3924AExactCardSaid : Prop := Claim7.holds Ybad.pinned (.plain (OpenSpec.ofChange lawS3924AExactSpec)) lawS3924AExactCard

/-- THE TIED CARD OF 'verify.LawS3924AStream'. -/
def lawS3924AStreamCard : Claim7 := { stood := { row := lawS3924AStreamRow, standIns := [], harness := (true, "f57ebded2a32456a684eeb266f5a5e30fe7c89c6c14e12a91cbec8bb39de841b"), looks := false }, kinds := [], alts := [], laidByText := true, laidKinds := [.data, .data, .data], laidTests := true, laidLooks := .later }
def LawS3924AStreamCardSaid : Prop := Claim7.holds Ybad.pinned (.plain (OpenSpec.ofChange lawS3924AStreamSpec)) lawS3924AStreamCard
end Rows
end Go.Proofs.YbulkccfyDoor
