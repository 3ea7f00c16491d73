/-
  DERIVED. GIVEN WITH THE SEED: THE CARDS: each row of YtfkbookaceckhaaGreatDoorRows.lean that lists a variable, with what it lists TIED to the program's text (the seventh form; the later family's looks); each row that meets fmt, with fmt's text TOLD by the authors' own Lean function (tested against real Go, not proved from fmt's source: count such statements apart). THE CARD IS WHAT COUNTS. Prove the row's statement (the work); the ties are given (YtfkbookaceckhaaGreatDoorTie.lean); close each card by the builder's one call (the guide's Derived/Test/ToyasCard.lean, 'card_holds'). Laid BY PROGRAM, IN A SANDBOX (cutbox-door.mjs). By AI agents, Wed Nov 11 2026. No macro, syntax, notation, axiom, sorry.
-/
import Derived.Test.YtfkbookaceckhaaGreatDoorRows
import GoSem.ClaimSeven
namespace Go.Proofs.YtfkbookaceckhaaGreatDoor
namespace Rows

/-- THE TIED CARD OF 'pawllaw24.WorldInjects'. -/
def worldInjectsCard : Claim7 := { stood := { row := worldInjectsRow, standIns := [], harness := (true, "1997be1585a3ed6649b9f2d6174f87975a765d78574624555804960bc7228a1c"), looks := true }, kinds := [], alts := [], laidByText := true, laidKinds := [.data, .data, .data, .data, .data, .sentinel, .sentinel], laidTests := true, laidLooks := .later }
def WorldInjectsCardSaid : Prop := Claim7.holds Tryz.pinned (.plain (OpenSpec.ofChange worldInjectsSpec)) worldInjectsCard

/-- THE SECOND FORM's CARD OF 'pawllaw24.WorldInjects'. -/
def worldInjectsUptoCard : Claim7 := { stood := { row := worldInjectsUptoRow, standIns := [], harness := (true, "1997be1585a3ed6649b9f2d6174f87975a765d78574624555804960bc7228a1c"), looks := true }, kinds := [], alts := [], laidByText := true, laidKinds := [.data, .data, .data, .data, .data, .sentinel, .sentinel], laidTests := true, laidLooks := .later }
def WorldInjectsUptoCardSaid : Prop := Claim7.holds Tryz.pinned (.plain (OpenSpec.upto worldInjectsSpec)) worldInjectsUptoCard
end Rows
end Go.Proofs.YtfkbookaceckhaaGreatDoor
