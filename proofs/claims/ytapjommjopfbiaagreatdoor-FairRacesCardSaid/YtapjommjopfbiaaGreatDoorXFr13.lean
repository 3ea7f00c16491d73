/- Calls, run by the kernel. -/
import Derived.Test.YtapjommjopfbiaaGreatDoorXFd1
set_option linter.all false
open Go Go.Sx Go.Proofs
set_option linter.all false
namespace Go.Proofs.YtapjommjopfbiaaGreatDoor
set_option maxRecDepth 1000000
theorem run_q11 : ∀ E, q11.chk (xcall Tryz.prog okT hB dhC 100000 100 q11.f q11.args (q11.st0 E)) = true := fun E => by kernel_rfl
theorem run_q29 : ∀ E, q29.chk (xcall Tryz.prog okT hB dhC 100000 100 q29.f q29.args (q29.st0 E)) = true := fun E => by kernel_rfl
end Go.Proofs.YtapjommjopfbiaaGreatDoor
