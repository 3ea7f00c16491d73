/- The types whose values may be compared; the deferred function that is idle; closed facts of the program. -/
import Derived.Test.YtmmhbehlpppdiaaGreatDoorXSc
import Derived.Test.YtmmhbehlpppdiaaGreatDoorProg
import Derived.KernelRfl
set_option linter.all false
open Go Go.Sx Go.Proofs
namespace Go.Proofs.YtmmhbehlpppdiaaGreatDoor
set_option maxRecDepth 1000000
def okT (t : Nat) : Bool := memN t [7, 8, 30, 31, 39, 40, 51, 52, 60, 61, 70, 71, 81, 82, 85, 86, 87, 88, 89, 90, 92, 93, 97, 98, 102, 103, 114, 115, 116, 117, 123, 124, 128, 129, 133, 134, 140, 141, 146, 147, 150, 151, 152, 153, 155, 156, 157, 158, 163, 164, 175, 176, 179, 180, 190, 191, 194, 195, 196, 197, 202, 203, 213, 214, 218, 219, 223, 224, 228, 229, 231, 232, 241, 242, 267, 268, 280, 281, 295, 296, 299, 300, 310, 311, 321, 322, 335, 336, 367, 368, 379, 380, 381, 471, 472, 549, 550]
noncomputable def caughtC : Code := bodyOf Tryz.prog 99
noncomputable def caughtR : Code := seqB caughtC
noncomputable def caughtO : Oper := match seqA caughtC with
  | .region _ #[o] _ => o
  | _ => default
theorem caught_body : Tryz.f99.body = some (.seq (.region 0 #[caughtO] false) caughtR) := by kernel_rfl
noncomputable def dhC : Dh := dhookM Tryz.prog okT 99 15 5 1000 caughtR
theorem callsOK : CallsOK Tryz.prog := callsOK_of (by kernel_rfl)
theorem mixed : Tryz.prog.follows .mixedOrders = true := by kernel_rfl
theorem okt : OkT Tryz.prog okT := okT_of (by kernel_rfl)
theorem dhC_good : DhGood Tryz.prog dhC := dhookM_good okt callsOK mixed Tryz.func99 caught_body (by kernel_rfl) (by kernel_rfl) (by kernel_rfl) (by kernel_rfl) (fun l => by kernel_rfl) (fun e w => by kernel_rfl)
end Go.Proofs.YtmmhbehlpppdiaaGreatDoor
