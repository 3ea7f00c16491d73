/-
  DERIVED. GIVEN WITH THE SEED: THE CARDS: each row of YtmmhbehlpppdiaaGreatDoorRows.lean that lists a variable, with what it lists TIED to the program's text (the seventh form; the later family's looks); each row that meets fmt, with fmt's text TOLD by the authors' own Lean function (tested against real Go, not proved from fmt's source: count such statements apart). THE CARD IS WHAT COUNTS. Prove the row's statement (the work); the ties are given (YtmmhbehlpppdiaaGreatDoorTie.lean); close each card by the builder's one call (the guide's Derived/Test/ToyasCard.lean, 'card_holds'). Laid BY PROGRAM, IN A SANDBOX (cutbox-door.mjs). By AI agents, Wed Nov 11 2026. No macro, syntax, notation, axiom, sorry.
-/
import Derived.Test.YtmmhbehlpppdiaaGreatDoorRows
import GoSem.ClaimSeven
namespace Go.Proofs.YtmmhbehlpppdiaaGreatDoor
namespace Rows

/-- THE TIED CARD OF 'pawllaw24.WorldLinks'. -/
def worldLinksCard : Claim7 := { stood := { row := worldLinksRow, standIns := [], harness := (true, "ce5555ec14d422bb4d95a70a393629bb0e4181470dfcf8e18a286174842f0c56"), looks := true }, kinds := [], alts := [], laidByText := true, laidKinds := [.data, .data, .data, .data, .data, .sentinel, .sentinel], laidTests := true, laidLooks := .later }
def WorldLinksCardSaid : Prop := Claim7.holds Tryz.pinned (.plain (OpenSpec.ofChange worldLinksSpec)) worldLinksCard

/-- THE SECOND FORM's CARD OF 'pawllaw24.WorldLinks'. -/
def worldLinksUptoCard : Claim7 := { stood := { row := worldLinksUptoRow, standIns := [], harness := (true, "ce5555ec14d422bb4d95a70a393629bb0e4181470dfcf8e18a286174842f0c56"), looks := true }, kinds := [], alts := [], laidByText := true, laidKinds := [.data, .data, .data, .data, .data, .sentinel, .sentinel], laidTests := true, laidLooks := .later }
def WorldLinksUptoCardSaid : Prop := Claim7.holds Tryz.pinned (.plain (OpenSpec.upto worldLinksSpec)) worldLinksUptoCard
end Rows
end Go.Proofs.YtmmhbehlpppdiaaGreatDoor
