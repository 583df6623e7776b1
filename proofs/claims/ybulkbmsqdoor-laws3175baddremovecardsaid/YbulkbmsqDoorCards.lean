/-
  DERIVED. GIVEN WITH THE SEED: THE CARDS: each row of YbulkbmsqDoorRows.lean that lists a variable, with what it lists TIED to the program's text (the seventh form; the later family's looks); each row that meets fmt, with fmt's text TOLD by the authors' own Lean function (tested against real Go, not proved from fmt's source: count such statements apart). THE CARD IS WHAT COUNTS. Prove the row's statement (the work); the ties are given (YbulkbmsqDoorTie.lean); close each card by the builder's one call (the guide's Derived/Test/ToyasCard.lean, 'card_holds'). Laid BY PROGRAM, IN A SANDBOX (cutbox-door.mjs). By AI agents, Wed Nov 11 2026. No macro, syntax, notation, axiom, sorry.
-/
import Derived.Test.YbulkbmsqDoorRows
import GoSem.ClaimSeven
namespace Go.Proofs.YbulkbmsqDoor
namespace Rows

/-- THE TIED CARD OF 'node.LawS3175BCounts'. -/
def lawS3175BCountsCard : Claim7 := { stood := { row := lawS3175BCountsRow, standIns := [], harness := (true, "7bccbde72fda8b4d2fc4efa1c29e96bdbb9a2fe7f99401d2e267b8a1e3a80ca6"), looks := false }, kinds := [], alts := [], laidByText := true, laidKinds := [.called, .called, .zero], laidTests := true, laidLooks := .later }
def LawS3175BCountsCardSaid : Prop := Claim7.holds Ybad.pinned (.plain (OpenSpec.ofChange lawS3175BCountsSpec)) lawS3175BCountsCard

/-- THE TIED CARD OF 'node.LawS3175BAddRemove'. -/
def lawS3175BAddRemoveCard : Claim7 := { stood := { row := lawS3175BAddRemoveRow, standIns := [], harness := (true, "7bccbde72fda8b4d2fc4efa1c29e96bdbb9a2fe7f99401d2e267b8a1e3a80ca6"), looks := false }, kinds := [], alts := [], laidByText := true, laidKinds := [.called, .called, .zero], laidTests := true, laidLooks := .later }
def LawS3175BAddRemoveCardSaid : Prop := Claim7.holds Ybad.pinned (.plain (OpenSpec.ofChange lawS3175BAddRemoveSpec)) lawS3175BAddRemoveCard
end Rows
end Go.Proofs.YbulkbmsqDoor
