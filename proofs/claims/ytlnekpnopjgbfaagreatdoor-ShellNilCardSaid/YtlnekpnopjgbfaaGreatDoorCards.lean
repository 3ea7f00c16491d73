/-
  DERIVED. GIVEN WITH THE SEED: THE CARDS: each row of YtlnekpnopjgbfaaGreatDoorRows.lean that lists a variable, with what it lists TIED to the program's text (the seventh form; the later family's looks); each row that meets fmt, with fmt's text TOLD by the authors' own Lean function (tested against real Go, not proved from fmt's source: count such statements apart). THE CARD IS WHAT COUNTS. Prove the row's statement (the work); the ties are given (YtlnekpnopjgbfaaGreatDoorTie.lean); close each card by the builder's one call (the guide's Derived/Test/ToyasCard.lean, 'card_holds'). Laid BY PROGRAM, IN A SANDBOX (cutbox-door.mjs). By AI agents, Wed Nov 11 2026. No macro, syntax, notation, axiom, sorry.
-/
import Derived.Test.YtlnekpnopjgbfaaGreatDoorRows
import GoSem.ClaimSeven
namespace Go.Proofs.YtlnekpnopjgbfaaGreatDoor
namespace Rows

/-- THE TIED CARD OF 'pawllaw28.ShellNil'. -/
def shellNilCard : Claim7 := { stood := { row := shellNilRow, standIns := [], harness := (true, "9124069f3626f414332e8c60157535a295bc02156e5516df1be17bba0c3470df"), looks := true }, kinds := [], alts := [], laidByText := true, laidKinds := [.pinned, .data, .data, .listed, .data, .data, .data, .data, .data, .sentinel, .sentinel, .data, .pinned, .data, .pinned], laidTests := true, laidLooks := .later }
def ShellNilCardSaid : Prop := Claim7.holds Tryz.pinned (.plain (OpenSpec.ofChange shellNilSpec)) shellNilCard

/-- THE SECOND FORM's CARD OF 'pawllaw28.ShellNil'. -/
def shellNilUptoCard : Claim7 := { stood := { row := shellNilUptoRow, standIns := [], harness := (true, "9124069f3626f414332e8c60157535a295bc02156e5516df1be17bba0c3470df"), looks := true }, kinds := [], alts := [], laidByText := true, laidKinds := [.pinned, .data, .data, .listed, .data, .data, .data, .data, .data, .sentinel, .sentinel, .data, .pinned, .data, .pinned], laidTests := true, laidLooks := .later }
def ShellNilUptoCardSaid : Prop := Claim7.holds Tryz.pinned (.plain (OpenSpec.upto shellNilSpec)) shellNilUptoCard
end Rows
end Go.Proofs.YtlnekpnopjgbfaaGreatDoor
