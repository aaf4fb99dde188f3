/-
  DERIVED. GIVEN WITH THE SEED: THE CARDS: each row of YbulkbvpqDoorRows.lean that lists a variable, with what it lists TIED to the program's text (the seventh form; the later family's looks); each row that meets fmt, with fmt's text TOLD by the authors' own Lean function (tested against real Go, not proved from fmt's source: count such statements apart). THE CARD IS WHAT COUNTS. Prove the row's statement (the work); the ties are given (YbulkbvpqDoorTie.lean); close each card by the builder's one call (the guide's Derived/Test/ToyasCard.lean, 'card_holds'). Laid BY PROGRAM, IN A SANDBOX (cutbox-door.mjs). By AI agents, Wed Nov 11 2026. No macro, syntax, notation, axiom, sorry.
-/
import Derived.Test.YbulkbvpqDoorRows
import GoSem.ClaimSeven
namespace Go.Proofs.YbulkbvpqDoor
namespace Rows

/-- THE TIED CARD OF 'dnsmsg.LawS3604BRoundTrip'. -/
def lawS3604BRoundTripCard : Claim7 := { stood := { row := lawS3604BRoundTripRow, standIns := [], harness := (true, "52483e4f1000c7d4451882b269ff384798d8d6c53ddfebe1120c8f5a26ab2e34"), looks := false }, kinds := [], alts := [], laidByText := true, laidKinds := [.sentinel], laidTests := true, laidLooks := .later }
def LawS3604BRoundTripCardSaid : Prop := Claim7.holds Ybad.pinned (.plain (OpenSpec.ofChange lawS3604BRoundTripSpec)) lawS3604BRoundTripCard
end Rows
end Go.Proofs.YbulkbvpqDoor
