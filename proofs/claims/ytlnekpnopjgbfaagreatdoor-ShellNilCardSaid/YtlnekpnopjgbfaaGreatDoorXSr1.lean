/- Calls, run by the kernel. -/
import Derived.Test.YtlnekpnopjgbfaaGreatDoorXSd0
set_option linter.all false
open Go Go.Sx Go.Proofs
set_option linter.all false
namespace Go.Proofs.YtlnekpnopjgbfaaGreatDoor
set_option maxRecDepth 1000000
theorem run_q1 : ∀ E, q1.chk (xcall Tryz.prog okT hI dhC 100000 100 q1.f q1.args (q1.st0 E)) = true := fun E => by kernel_rfl
theorem run_q2 : ∀ E, q2.chk (xcall Tryz.prog okT hI dhC 100000 100 q2.f q2.args (q2.st0 E)) = true := fun E => by kernel_rfl
end Go.Proofs.YtlnekpnopjgbfaaGreatDoor
