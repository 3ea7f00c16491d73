/- Calls, run by the kernel. -/
import Derived.Test.YtlnekpnopjgbfaaGreatDoorXSd0
set_option linter.all false
open Go Go.Sx Go.Proofs
set_option linter.all false
namespace Go.Proofs.YtlnekpnopjgbfaaGreatDoor
set_option maxRecDepth 1000000
theorem run_q0 : ∀ E, q0.chk (xcall Tryz.prog okT hI dhC 100000 100 q0.f q0.args (q0.st0 E)) = true := fun E => by kernel_rfl
theorem run_q4 : ∀ E, q4.chk (xcall Tryz.prog okT hI dhC 100000 100 q4.f q4.args (q4.st0 E)) = true := fun E => by kernel_rfl
end Go.Proofs.YtlnekpnopjgbfaaGreatDoor
