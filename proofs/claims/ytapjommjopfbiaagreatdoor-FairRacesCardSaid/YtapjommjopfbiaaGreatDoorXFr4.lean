/- Calls, run by the kernel. -/
import Derived.Test.YtapjommjopfbiaaGreatDoorXFd1
set_option linter.all false
open Go Go.Sx Go.Proofs
set_option linter.all false
namespace Go.Proofs.YtapjommjopfbiaaGreatDoor
set_option maxRecDepth 1000000
theorem run_q2 : ∀ E, q2.chk (xcall Tryz.prog okT hB dhC 100000 100 q2.f q2.args (q2.st0 E)) = true := fun E => by kernel_rfl
theorem run_q4 : ∀ E, q4.chk (xcall Tryz.prog okT hB dhC 100000 100 q4.f q4.args (q4.st0 E)) = true := fun E => by kernel_rfl
end Go.Proofs.YtapjommjopfbiaaGreatDoor
