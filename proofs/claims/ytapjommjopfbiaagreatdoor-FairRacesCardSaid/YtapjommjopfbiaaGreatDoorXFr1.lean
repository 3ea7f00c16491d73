/- Calls, run by the kernel. -/
import Derived.Test.YtapjommjopfbiaaGreatDoorXFd1
set_option linter.all false
open Go Go.Sx Go.Proofs
set_option linter.all false
namespace Go.Proofs.YtapjommjopfbiaaGreatDoor
set_option maxRecDepth 1000000
theorem run_q6 : ∀ E, q6.chk (xcall Tryz.prog okT hB dhC 100000 100 q6.f q6.args (q6.st0 E)) = true := fun E => by kernel_rfl
theorem run_q8 : ∀ E, q8.chk (xcall Tryz.prog okT hB dhC 100000 100 q8.f q8.args (q8.st0 E)) = true := fun E => by kernel_rfl
end Go.Proofs.YtapjommjopfbiaaGreatDoor
