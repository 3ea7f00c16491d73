/- Calls, run by the kernel. -/
import Derived.Test.YtlnekpnopjgbfaaGreatDoorXSd0
set_option linter.all false
open Go Go.Sx Go.Proofs
set_option linter.all false
namespace Go.Proofs.YtlnekpnopjgbfaaGreatDoor
set_option maxRecDepth 1000000
theorem run_q5 : ∀ E, q5.chk (xcall Tryz.prog okT hI dhC 100000 100 q5.f q5.args (q5.st0 E)) = true := fun E => by kernel_rfl
end Go.Proofs.YtlnekpnopjgbfaaGreatDoor
