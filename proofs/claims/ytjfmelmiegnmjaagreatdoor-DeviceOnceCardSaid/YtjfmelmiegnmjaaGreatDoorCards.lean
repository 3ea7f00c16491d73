/-
  DERIVED. GIVEN WITH THE SEED: THE CARDS: each row of YtjfmelmiegnmjaaGreatDoorRows.lean that lists a variable, with what it lists TIED to the program's text (the seventh form; the later family's looks); each row that meets fmt, with fmt's text TOLD by the authors' own Lean function (tested against real Go, not proved from fmt's source: count such statements apart). THE CARD IS WHAT COUNTS. Prove the row's statement (the work); the ties are given (YtjfmelmiegnmjaaGreatDoorTie.lean); close each card by the builder's one call (the guide's Derived/Test/ToyasCard.lean, 'card_holds'). Laid BY PROGRAM, IN A SANDBOX (cutbox-door.mjs). By AI agents, Wed Nov 11 2026. No macro, syntax, notation, axiom, sorry.
-/
import Derived.Test.YtjfmelmiegnmjaaGreatDoorRows
import GoSem.ClaimSeven
namespace Go.Proofs.YtjfmelmiegnmjaaGreatDoor
namespace Rows

/-- THE TIED CARD OF 'pawllaw20.DeviceTold'. -/
def deviceToldCard : Claim7 := { stood := { row := deviceToldRow, standIns := [], harness := (true, "43fd9c24f37b97519e4e02445eaed747166dd7836b839f0c4d9bdfe464ad79df"), looks := true }, kinds := [], alts := [], laidByText := true, laidKinds := [.data, .data, .data, .data, .data, .sentinel, .sentinel], laidTests := true, laidLooks := .later }
def DeviceToldCardSaid : Prop := Claim7.holds Tryz.pinned (.plain (OpenSpec.ofChange deviceToldSpec)) deviceToldCard

/-- THE TIED CARD OF 'pawllaw20.DeviceTries'. -/
def deviceTriesCard : Claim7 := { stood := { row := deviceTriesRow, standIns := [], harness := (true, "43fd9c24f37b97519e4e02445eaed747166dd7836b839f0c4d9bdfe464ad79df"), looks := true }, kinds := [], alts := [], laidByText := true, laidKinds := [.data, .data, .data, .data, .data, .sentinel, .sentinel], laidTests := true, laidLooks := .later }
def DeviceTriesCardSaid : Prop := Claim7.holds Tryz.pinned (.plain (OpenSpec.ofChange deviceTriesSpec)) deviceTriesCard

/-- THE TIED CARD OF 'pawllaw20.DeviceSends'. -/
def deviceSendsCard : Claim7 := { stood := { row := deviceSendsRow, standIns := [], harness := (true, "43fd9c24f37b97519e4e02445eaed747166dd7836b839f0c4d9bdfe464ad79df"), looks := true }, kinds := [], alts := [], laidByText := true, laidKinds := [.data, .data, .data, .data, .data, .sentinel, .sentinel], laidTests := true, laidLooks := .later }
def DeviceSendsCardSaid : Prop := Claim7.holds Tryz.pinned (.plain (OpenSpec.ofChange deviceSendsSpec)) deviceSendsCard

/-- THE TIED CARD OF 'pawllaw20.DeviceStale'. -/
def deviceStaleCard : Claim7 := { stood := { row := deviceStaleRow, standIns := [], harness := (true, "43fd9c24f37b97519e4e02445eaed747166dd7836b839f0c4d9bdfe464ad79df"), looks := true }, kinds := [], alts := [], laidByText := true, laidKinds := [.data, .data, .data, .data, .data, .sentinel, .sentinel], laidTests := true, laidLooks := .later }
def DeviceStaleCardSaid : Prop := Claim7.holds Tryz.pinned (.plain (OpenSpec.ofChange deviceStaleSpec)) deviceStaleCard

/-- THE TIED CARD OF 'pawllaw20.DeviceTakes'. -/
def deviceTakesCard : Claim7 := { stood := { row := deviceTakesRow, standIns := [], harness := (true, "43fd9c24f37b97519e4e02445eaed747166dd7836b839f0c4d9bdfe464ad79df"), looks := true }, kinds := [], alts := [], laidByText := true, laidKinds := [.data, .data, .data, .data, .data, .sentinel, .sentinel], laidTests := true, laidLooks := .later }
def DeviceTakesCardSaid : Prop := Claim7.holds Tryz.pinned (.plain (OpenSpec.ofChange deviceTakesSpec)) deviceTakesCard

/-- THE TIED CARD OF 'pawllaw20.DeviceOnce'. -/
def deviceOnceCard : Claim7 := { stood := { row := deviceOnceRow, standIns := [], harness := (true, "43fd9c24f37b97519e4e02445eaed747166dd7836b839f0c4d9bdfe464ad79df"), looks := true }, kinds := [], alts := [], laidByText := true, laidKinds := [.data, .data, .data, .data, .data, .sentinel, .sentinel], laidTests := true, laidLooks := .later }
def DeviceOnceCardSaid : Prop := Claim7.holds Tryz.pinned (.plain (OpenSpec.ofChange deviceOnceSpec)) deviceOnceCard

/-- THE SECOND FORM's CARD OF 'pawllaw20.DeviceTold'. -/
def deviceToldUptoCard : Claim7 := { stood := { row := deviceToldUptoRow, standIns := [], harness := (true, "43fd9c24f37b97519e4e02445eaed747166dd7836b839f0c4d9bdfe464ad79df"), looks := true }, kinds := [], alts := [], laidByText := true, laidKinds := [.data, .data, .data, .data, .data, .sentinel, .sentinel], laidTests := true, laidLooks := .later }
def DeviceToldUptoCardSaid : Prop := Claim7.holds Tryz.pinned (.plain (OpenSpec.upto deviceToldSpec)) deviceToldUptoCard

/-- THE SECOND FORM's CARD OF 'pawllaw20.DeviceTries'. -/
def deviceTriesUptoCard : Claim7 := { stood := { row := deviceTriesUptoRow, standIns := [], harness := (true, "43fd9c24f37b97519e4e02445eaed747166dd7836b839f0c4d9bdfe464ad79df"), looks := true }, kinds := [], alts := [], laidByText := true, laidKinds := [.data, .data, .data, .data, .data, .sentinel, .sentinel], laidTests := true, laidLooks := .later }
def DeviceTriesUptoCardSaid : Prop := Claim7.holds Tryz.pinned (.plain (OpenSpec.upto deviceTriesSpec)) deviceTriesUptoCard

/-- THE SECOND FORM's CARD OF 'pawllaw20.DeviceSends'. -/
def deviceSendsUptoCard : Claim7 := { stood := { row := deviceSendsUptoRow, standIns := [], harness := (true, "43fd9c24f37b97519e4e02445eaed747166dd7836b839f0c4d9bdfe464ad79df"), looks := true }, kinds := [], alts := [], laidByText := true, laidKinds := [.data, .data, .data, .data, .data, .sentinel, .sentinel], laidTests := true, laidLooks := .later }
def DeviceSendsUptoCardSaid : Prop := Claim7.holds Tryz.pinned (.plain (OpenSpec.upto deviceSendsSpec)) deviceSendsUptoCard

/-- THE SECOND FORM's CARD OF 'pawllaw20.DeviceStale'. -/
def deviceStaleUptoCard : Claim7 := { stood := { row := deviceStaleUptoRow, standIns := [], harness := (true, "43fd9c24f37b97519e4e02445eaed747166dd7836b839f0c4d9bdfe464ad79df"), looks := true }, kinds := [], alts := [], laidByText := true, laidKinds := [.data, .data, .data, .data, .data, .sentinel, .sentinel], laidTests := true, laidLooks := .later }
def DeviceStaleUptoCardSaid : Prop := Claim7.holds Tryz.pinned (.plain (OpenSpec.upto deviceStaleSpec)) deviceStaleUptoCard

/-- THE SECOND FORM's CARD OF 'pawllaw20.DeviceTakes'. -/
def deviceTakesUptoCard : Claim7 := { stood := { row := deviceTakesUptoRow, standIns := [], harness := (true, "43fd9c24f37b97519e4e02445eaed747166dd7836b839f0c4d9bdfe464ad79df"), looks := true }, kinds := [], alts := [], laidByText := true, laidKinds := [.data, .data, .data, .data, .data, .sentinel, .sentinel], laidTests := true, laidLooks := .later }
def DeviceTakesUptoCardSaid : Prop := Claim7.holds Tryz.pinned (.plain (OpenSpec.upto deviceTakesSpec)) deviceTakesUptoCard

/-- THE SECOND FORM's CARD OF 'pawllaw20.DeviceOnce'. -/
def deviceOnceUptoCard : Claim7 := { stood := { row := deviceOnceUptoRow, standIns := [], harness := (true, "43fd9c24f37b97519e4e02445eaed747166dd7836b839f0c4d9bdfe464ad79df"), looks := true }, kinds := [], alts := [], laidByText := true, laidKinds := [.data, .data, .data, .data, .data, .sentinel, .sentinel], laidTests := true, laidLooks := .later }
def DeviceOnceUptoCardSaid : Prop := Claim7.holds Tryz.pinned (.plain (OpenSpec.upto deviceOnceSpec)) deviceOnceUptoCard
end Rows
end Go.Proofs.YtjfmelmiegnmjaaGreatDoor
