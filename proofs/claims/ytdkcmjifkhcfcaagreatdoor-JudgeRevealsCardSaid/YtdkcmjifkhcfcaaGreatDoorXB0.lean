/- The types whose values may be compared; the deferred function that is idle; closed facts of the program. -/
import Derived.Test.YtdkcmjifkhcfcaaGreatDoorXSc
import Derived.Test.YtdkcmjifkhcfcaaGreatDoorProg
import Derived.KernelRfl
set_option linter.all false
open Go Go.Sx Go.Proofs
set_option linter.unusedVariables false
namespace Go.Proofs.YtdkcmjifkhcfcaaGreatDoor
set_option maxRecDepth 1000000
def okT (t : Nat) : Bool := memN t [7, 8, 30, 31, 51, 52, 54, 55, 63, 64, 74, 75, 86, 87, 106, 107, 108, 109, 113, 114, 115, 116, 122, 123, 129, 130, 134, 135, 137, 138, 142, 143, 149, 150, 155, 156, 159, 160, 161, 162, 164, 165, 166, 167, 172, 173, 183, 184, 187, 188, 189, 190, 205, 206, 209, 210, 211, 212, 217, 218, 219, 220, 229, 230, 231, 232, 241, 242, 252, 253, 257, 258, 262, 263, 267, 268, 270, 271, 278, 279, 314, 315, 327, 328, 342, 343, 346, 347, 357, 358, 375, 376, 385, 386, 413, 414, 425, 426, 427, 519, 520, 591, 592]
noncomputable def caughtC : Code := bodyOf Tryz.prog 137
noncomputable def caughtR : Code := seqB caughtC
noncomputable def caughtO : Oper := match seqA caughtC with
  | .region _ #[o] _ => o
  | _ => default
theorem caught_body : Tryz.f137.body = some (.seq (.region 0 #[caughtO] false) caughtR) := by kernel_rfl
noncomputable def dhC : Dh := dhookM Tryz.prog okT 137 15 5 1000 caughtR
theorem callsOK : CallsOK Tryz.prog := callsOK_of (by kernel_rfl)
theorem mixed : Tryz.prog.follows .mixedOrders = true := by kernel_rfl
theorem okt : OkT Tryz.prog okT := okT_of (by kernel_rfl)
theorem dhC_good : DhGood Tryz.prog dhC := dhookM_good okt callsOK mixed Tryz.func137 caught_body (by kernel_rfl) (by kernel_rfl) (by kernel_rfl) (by kernel_rfl) (fun l => by kernel_rfl) (fun e w => by kernel_rfl)
end Go.Proofs.YtdkcmjifkhcfcaaGreatDoor
