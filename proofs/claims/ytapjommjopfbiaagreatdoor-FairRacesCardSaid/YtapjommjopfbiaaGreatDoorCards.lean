/-
  DERIVED. GIVEN WITH THE SEED: THE CARDS: each row of YtapjommjopfbiaaGreatDoorRows.lean that lists a variable, with what it lists TIED to the program's text (the seventh form; the later family's looks); each row that meets fmt, with fmt's text TOLD by the authors' own Lean function (tested against real Go, not proved from fmt's source: count such statements apart). THE CARD IS WHAT COUNTS. Prove the row's statement (the work); the ties are given (YtapjommjopfbiaaGreatDoorTie.lean); close each card by the builder's one call (the guide's Derived/Test/ToyasCard.lean, 'card_holds'). Laid BY PROGRAM, IN A SANDBOX (cutbox-door.mjs). By AI agents, Wed Nov 11 2026. No macro, syntax, notation, axiom, sorry.
-/
import Derived.Test.YtapjommjopfbiaaGreatDoorRows
import GoSem.ClaimSeven
namespace Go.Proofs.YtapjommjopfbiaaGreatDoor
namespace Rows

/-- THE TIED CARD OF 'pawllaw24.WorldErrs'. -/
def worldErrsCard : Claim7 := { stood := { row := worldErrsRow, standIns := [], harness := (true, "5f033d208b9e4f54bb9448cb9c34bf0812d319354feff043d60be8ff03d276b3"), looks := true }, kinds := [], alts := [], laidByText := true, laidKinds := [.data, .data, .data, .data, .data, .sentinel, .sentinel], laidTests := true, laidLooks := .later }
def WorldErrsCardSaid : Prop := Claim7.holds Tryz.pinned (.plain (OpenSpec.ofChange worldErrsSpec)) worldErrsCard

/-- THE TIED CARD OF 'pawllaw27.FairRaces'. -/
def fairRacesCard : Claim7 := { stood := { row := fairRacesRow, standIns := [], harness := (true, "5f033d208b9e4f54bb9448cb9c34bf0812d319354feff043d60be8ff03d276b3"), looks := true }, kinds := [], alts := [], laidByText := true, laidKinds := [.data, .data, .data, .data, .data, .sentinel, .sentinel], laidTests := true, laidLooks := .later }
def FairRacesCardSaid : Prop := Claim7.holds Tryz.pinned (.plain (OpenSpec.ofChange fairRacesSpec)) fairRacesCard

/-- THE SECOND FORM's CARD OF 'pawllaw24.WorldErrs'. -/
def worldErrsUptoCard : Claim7 := { stood := { row := worldErrsUptoRow, standIns := [], harness := (true, "5f033d208b9e4f54bb9448cb9c34bf0812d319354feff043d60be8ff03d276b3"), looks := true }, kinds := [], alts := [], laidByText := true, laidKinds := [.data, .data, .data, .data, .data, .sentinel, .sentinel], laidTests := true, laidLooks := .later }
def WorldErrsUptoCardSaid : Prop := Claim7.holds Tryz.pinned (.plain (OpenSpec.upto worldErrsSpec)) worldErrsUptoCard

/-- THE SECOND FORM's CARD OF 'pawllaw27.FairRaces'. -/
def fairRacesUptoCard : Claim7 := { stood := { row := fairRacesUptoRow, standIns := [], harness := (true, "5f033d208b9e4f54bb9448cb9c34bf0812d319354feff043d60be8ff03d276b3"), looks := true }, kinds := [], alts := [], laidByText := true, laidKinds := [.data, .data, .data, .data, .data, .sentinel, .sentinel], laidTests := true, laidLooks := .later }
def FairRacesUptoCardSaid : Prop := Claim7.holds Tryz.pinned (.plain (OpenSpec.upto fairRacesSpec)) fairRacesUptoCard
end Rows
end Go.Proofs.YtapjommjopfbiaaGreatDoor
