/-
  DERIVED. GIVEN WITH THE SEED: THE CARDS: each row of YbulkbmraDoorRows.lean that lists a variable, with what it lists TIED to the program's text (the seventh form; the later family's looks); each row that meets fmt, with fmt's text TOLD by the authors' own Lean function (tested against real Go, not proved from fmt's source: count such statements apart). THE CARD IS WHAT COUNTS. Prove the row's statement (the work); the ties are given (YbulkbmraDoorTie.lean); close each card by the builder's one call (the guide's Derived/Test/ToyasCard.lean, 'card_holds'). Laid BY PROGRAM, IN A SANDBOX (cutbox-door.mjs). By AI agents, Wed Nov 11 2026. No macro, syntax, notation, axiom, sorry.
-/
import Derived.Test.YbulkbmraDoorRows
import GoSem.ClaimSeven
namespace Go.Proofs.YbulkbmraDoor
namespace Rows

/-- THE TIED CARD OF 'shardline.LawS3172ASum'. -/
def lawS3172ASumCard : Claim7 := { stood := { row := lawS3172ASumRow, standIns := [], harness := (true, "98bfc6dbcc9fdb4cf77959ad2b010f6a3b4d8a41abb6f4cce210488656b33a1e"), looks := true }, kinds := [], alts := [], laidByText := true, laidKinds := [.data, .data, .data, .sentinel, .sentinel], laidTests := true, laidLooks := .later }
def LawS3172ASumCardSaid : Prop := Claim7.holds Ybad.pinned (.plain (OpenSpec.ofChange lawS3172ASumSpec)) lawS3172ASumCard

/-- THE TIED CARD OF 'shardline.LawS3172AReject'. -/
def lawS3172ARejectCard : Claim7 := { stood := { row := lawS3172ARejectRow, standIns := [], harness := (true, "98bfc6dbcc9fdb4cf77959ad2b010f6a3b4d8a41abb6f4cce210488656b33a1e"), looks := true }, kinds := [], alts := [], laidByText := true, laidKinds := [.data, .data, .data, .sentinel, .sentinel], laidTests := true, laidLooks := .later }
def LawS3172ARejectCardSaid : Prop := Claim7.holds Ybad.pinned (.plain (OpenSpec.ofChange lawS3172ARejectSpec)) lawS3172ARejectCard
end Rows
end Go.Proofs.YbulkbmraDoor
