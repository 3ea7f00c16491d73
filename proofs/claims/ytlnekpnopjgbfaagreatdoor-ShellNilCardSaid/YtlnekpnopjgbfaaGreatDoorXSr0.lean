/- Calls, run by the kernel. -/
import Derived.Test.YtlnekpnopjgbfaaGreatDoorXSd0
set_option linter.all false
open Go Go.Sx Go.Proofs
set_option linter.all false
namespace Go.Proofs.YtlnekpnopjgbfaaGreatDoor
set_option maxRecDepth 1000000
theorem run_q3 : ∀ E, q3.chk (xcall Tryz.prog okT hI dhC 100000 100 q3.f q3.args (q3.st0 E)) = true := fun E => by kernel_rfl
end Go.Proofs.YtlnekpnopjgbfaaGreatDoor
