/-
  DERIVED. GIVEN WITH THE SEED: THE CARDS: each row of YtadbbdnjcpaooaaGreatDoorRows.lean that lists a variable, with what it lists TIED to the program's text (the seventh form; the later family's looks); each row that meets fmt, with fmt's text TOLD by the authors' own Lean function (tested against real Go, not proved from fmt's source: count such statements apart). THE CARD IS WHAT COUNTS. Prove the row's statement (the work); the ties are given (YtadbbdnjcpaooaaGreatDoorTie.lean); close each card by the builder's one call (the guide's Derived/Test/ToyasCard.lean, 'card_holds'). Laid BY PROGRAM, IN A SANDBOX (cutbox-door.mjs). By AI agents, Wed Nov 11 2026. No macro, syntax, notation, axiom, sorry.
-/
import Derived.Test.YtadbbdnjcpaooaaGreatDoorRows
import GoSem.ClaimSeven
namespace Go.Proofs.YtadbbdnjcpaooaaGreatDoor
namespace Rows

/-- THE TIED CARD OF 'pawllaw24.WorldErrs'. -/
def worldErrsCard : Claim7 := { stood := { row := worldErrsRow, standIns := [], harness := (true, "d4c95cf5e523a4af0f8d8683232982c548788487a9eb71792799ae36c49ee320"), looks := true }, kinds := [], alts := [], laidByText := true, laidKinds := [.data, .data, .data, .data, .data, .sentinel, .sentinel], laidTests := true, laidLooks := .later }
def WorldErrsCardSaid : Prop := Claim7.holds Tryz.pinned (.plain (OpenSpec.ofChange worldErrsSpec)) worldErrsCard

/-- THE SECOND FORM's CARD OF 'pawllaw24.WorldErrs'. -/
def worldErrsUptoCard : Claim7 := { stood := { row := worldErrsUptoRow, standIns := [], harness := (true, "d4c95cf5e523a4af0f8d8683232982c548788487a9eb71792799ae36c49ee320"), looks := true }, kinds := [], alts := [], laidByText := true, laidKinds := [.data, .data, .data, .data, .data, .sentinel, .sentinel], laidTests := true, laidLooks := .later }
def WorldErrsUptoCardSaid : Prop := Claim7.holds Tryz.pinned (.plain (OpenSpec.upto worldErrsSpec)) worldErrsUptoCard
end Rows
end Go.Proofs.YtadbbdnjcpaooaaGreatDoor
