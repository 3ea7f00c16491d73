/-
  DERIVED. GIVEN WITH THE SEED: THE CARDS: each row of YtdkcmjifkhcfcaaGreatDoorRows.lean that lists a variable, with what it lists TIED to the program's text (the seventh form; the later family's looks); each row that meets fmt, with fmt's text TOLD by the authors' own Lean function (tested against real Go, not proved from fmt's source: count such statements apart). THE CARD IS WHAT COUNTS. Prove the row's statement (the work); the ties are given (YtdkcmjifkhcfcaaGreatDoorTie.lean); close each card by the builder's one call (the guide's Derived/Test/ToyasCard.lean, 'card_holds'). Laid BY PROGRAM, IN A SANDBOX (cutbox-door.mjs). By AI agents, Wed Nov 11 2026. No macro, syntax, notation, axiom, sorry.
-/
import Derived.Test.YtdkcmjifkhcfcaaGreatDoorRows
import GoSem.ClaimSeven
namespace Go.Proofs.YtdkcmjifkhcfcaaGreatDoor
namespace Rows

/-- THE TIED CARD OF 'pawllaw24.WorldTime'. -/
def worldTimeCard : Claim7 := { stood := { row := worldTimeRow, standIns := [], harness := (true, "7d6da06738491256d6fb5a364a52edce606a10e7dcad3edc304f008a4fbaf496"), looks := true }, kinds := [], alts := [], laidByText := true, laidKinds := [.data, .data, .data, .data, .data, .sentinel, .sentinel], laidTests := true, laidLooks := .later }
def WorldTimeCardSaid : Prop := Claim7.holds Tryz.pinned (.plain (OpenSpec.ofChange worldTimeSpec)) worldTimeCard

/-- THE TIED CARD OF 'pawllaw24.WorldNil'. -/
def worldNilCard : Claim7 := { stood := { row := worldNilRow, standIns := [], harness := (true, "7d6da06738491256d6fb5a364a52edce606a10e7dcad3edc304f008a4fbaf496"), looks := true }, kinds := [], alts := [], laidByText := true, laidKinds := [.data, .data, .data, .data, .data, .sentinel, .sentinel], laidTests := true, laidLooks := .later }
def WorldNilCardSaid : Prop := Claim7.holds Tryz.pinned (.plain (OpenSpec.ofChange worldNilSpec)) worldNilCard

/-- THE TIED CARD OF 'pawllaw26.JudgeReveals'. -/
def judgeRevealsCard : Claim7 := { stood := { row := judgeRevealsRow, standIns := [], harness := (true, "7d6da06738491256d6fb5a364a52edce606a10e7dcad3edc304f008a4fbaf496"), looks := true }, kinds := [], alts := [], laidByText := true, laidKinds := [.data, .data, .data, .data, .data, .sentinel, .sentinel], laidTests := true, laidLooks := .later }
def JudgeRevealsCardSaid : Prop := Claim7.holds Tryz.pinned (.plain (OpenSpec.ofChange judgeRevealsSpec)) judgeRevealsCard

/-- THE SECOND FORM's CARD OF 'pawllaw24.WorldTime'. -/
def worldTimeUptoCard : Claim7 := { stood := { row := worldTimeUptoRow, standIns := [], harness := (true, "7d6da06738491256d6fb5a364a52edce606a10e7dcad3edc304f008a4fbaf496"), looks := true }, kinds := [], alts := [], laidByText := true, laidKinds := [.data, .data, .data, .data, .data, .sentinel, .sentinel], laidTests := true, laidLooks := .later }
def WorldTimeUptoCardSaid : Prop := Claim7.holds Tryz.pinned (.plain (OpenSpec.upto worldTimeSpec)) worldTimeUptoCard

/-- THE SECOND FORM's CARD OF 'pawllaw24.WorldNil'. -/
def worldNilUptoCard : Claim7 := { stood := { row := worldNilUptoRow, standIns := [], harness := (true, "7d6da06738491256d6fb5a364a52edce606a10e7dcad3edc304f008a4fbaf496"), looks := true }, kinds := [], alts := [], laidByText := true, laidKinds := [.data, .data, .data, .data, .data, .sentinel, .sentinel], laidTests := true, laidLooks := .later }
def WorldNilUptoCardSaid : Prop := Claim7.holds Tryz.pinned (.plain (OpenSpec.upto worldNilSpec)) worldNilUptoCard

/-- THE SECOND FORM's CARD OF 'pawllaw26.JudgeReveals'. -/
def judgeRevealsUptoCard : Claim7 := { stood := { row := judgeRevealsUptoRow, standIns := [], harness := (true, "7d6da06738491256d6fb5a364a52edce606a10e7dcad3edc304f008a4fbaf496"), looks := true }, kinds := [], alts := [], laidByText := true, laidKinds := [.data, .data, .data, .data, .data, .sentinel, .sentinel], laidTests := true, laidLooks := .later }
def JudgeRevealsUptoCardSaid : Prop := Claim7.holds Tryz.pinned (.plain (OpenSpec.upto judgeRevealsSpec)) judgeRevealsUptoCard
end Rows
end Go.Proofs.YtdkcmjifkhcfcaaGreatDoor
