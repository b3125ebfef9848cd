/-
  DERIVED. GIVEN WITH THE SEED: THE CARDS: each row of YbulkiiyDoorRows.lean that lists a variable, with what it lists TIED to the program's text (the seventh form; the later family's looks); each row that meets fmt, with fmt's text TOLD by the authors' own Lean function (tested against real Go, not proved from fmt's source: count such statements apart). THE CARD IS WHAT COUNTS. Prove the row's statement (the work); the ties are given (YbulkiiyDoorTie.lean); close each card by the builder's one call (the guide's Derived/Test/ToyasCard.lean, 'card_holds'). Laid BY PROGRAM, IN A SANDBOX (cutbox-door.mjs). By AI agents, Wed Nov 11 2026. No macro, syntax, notation, axiom, sorry.
-/
import Derived.Test.YbulkiiyDoorRows
import GoSem.ClaimSeven
namespace Go.Proofs.YbulkiiyDoor
namespace Rows

/-- THE TIED CARD OF 'listing.LawS0453AExact'. -/
def lawS0453AExactCard : Claim7 := { stood := { row := lawS0453AExactRow, standIns := [], harness := (true, "c2c136965bfd0d6e681b7e39191c579b015bfe7d8516c301420d2863de3ac806"), looks := false }, kinds := [], alts := [], laidByText := true, laidKinds := [.data, .data, .data], laidTests := true, laidLooks := .later }
def LawS0453AExactCardSaid : Prop := Claim7.holds Ybad.pinned (.plain (OpenSpec.ofChange lawS0453AExactSpec)) lawS0453AExactCard

/-- THE TIED CARD OF 'listing.LawS0453ARoundTrip'. -/
def lawS0453ARoundTripCard : Claim7 := { stood := { row := lawS0453ARoundTripRow, standIns := [], harness := (true, "c2c136965bfd0d6e681b7e39191c579b015bfe7d8516c301420d2863de3ac806"), looks := false }, kinds := [], alts := [], laidByText := true, laidKinds := [.data, .data, .data], laidTests := true, laidLooks := .later }
def LawS0453ARoundTripCardSaid : Prop := Claim7.holds Ybad.pinned (.plain (OpenSpec.ofChange lawS0453ARoundTripSpec)) lawS0453ARoundTripCard
end Rows
end Go.Proofs.YbulkiiyDoor
