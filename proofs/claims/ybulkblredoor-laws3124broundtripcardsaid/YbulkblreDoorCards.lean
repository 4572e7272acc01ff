/-
  DERIVED. GIVEN WITH THE SEED: THE CARDS: each row of YbulkblreDoorRows.lean that lists a variable, with what it lists TIED to the program's text (the seventh form; the later family's looks); each row that meets fmt, with fmt's text TOLD by the authors' own Lean function (tested against real Go, not proved from fmt's source: count such statements apart). THE CARD IS WHAT COUNTS. Prove the row's statement (the work); the ties are given (YbulkblreDoorTie.lean); close each card by the builder's one call (the guide's Derived/Test/ToyasCard.lean, 'card_holds'). Laid BY PROGRAM, IN A SANDBOX (cutbox-door.mjs). By AI agents, Wed Nov 11 2026. No macro, syntax, notation, axiom, sorry.
-/
import Derived.Test.YbulkblreDoorRows
import GoSem.ClaimSeven
namespace Go.Proofs.YbulkblreDoor
namespace Rows

/-- THE TIED CARD OF 'pms.LawS3124BModel'. -/
def lawS3124BModelCard : Claim7 := { stood := { row := lawS3124BModelRow, standIns := [], harness := (true, "bb1773d2bcd8dea67e401405ada0dfd0a4bdeb4c433df11ce3fee5d939136f64"), looks := false }, kinds := [], alts := [], laidByText := true, laidKinds := [.data], laidTests := true, laidLooks := .later }
def LawS3124BModelCardSaid : Prop := Claim7.holds Ybad.pinned (.plain (OpenSpec.ofChange lawS3124BModelSpec)) lawS3124BModelCard

/-- THE TIED CARD OF 'pms.LawS3124BRoundTrip'. -/
def lawS3124BRoundTripCard : Claim7 := { stood := { row := lawS3124BRoundTripRow, standIns := [], harness := (true, "bb1773d2bcd8dea67e401405ada0dfd0a4bdeb4c433df11ce3fee5d939136f64"), looks := false }, kinds := [], alts := [], laidByText := true, laidKinds := [.data], laidTests := true, laidLooks := .later }
def LawS3124BRoundTripCardSaid : Prop := Claim7.holds Ybad.pinned (.plain (OpenSpec.ofChange lawS3124BRoundTripSpec)) lawS3124BRoundTripCard
end Rows
end Go.Proofs.YbulkblreDoor
