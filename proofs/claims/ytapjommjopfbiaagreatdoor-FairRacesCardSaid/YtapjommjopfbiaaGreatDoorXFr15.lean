/- Calls, run by the kernel. -/
import Derived.Test.YtapjommjopfbiaaGreatDoorXFd1
set_option linter.all false
open Go Go.Sx Go.Proofs
set_option linter.all false
namespace Go.Proofs.YtapjommjopfbiaaGreatDoor
set_option maxRecDepth 1000000
theorem run_q37 : ∀ E, q37.chk (xcall Tryz.prog okT hB dhC 100000 100 q37.f q37.args (q37.st0 E)) = true := fun E => by kernel_rfl
theorem run_q16 : ∀ E, q16.chk (xcall Tryz.prog okT hB dhC 100000 100 q16.f q16.args (q16.st0 E)) = true := fun E => by kernel_rfl
theorem run_q28 : ∀ E, q28.chk (xcall Tryz.prog okT hB dhC 100000 100 q28.f q28.args (q28.st0 E)) = true := fun E => by kernel_rfl
end Go.Proofs.YtapjommjopfbiaaGreatDoor
