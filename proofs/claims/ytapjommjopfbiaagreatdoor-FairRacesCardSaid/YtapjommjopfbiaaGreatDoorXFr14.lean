/- Calls, run by the kernel. -/
import Derived.Test.YtapjommjopfbiaaGreatDoorXFd1
set_option linter.all false
open Go Go.Sx Go.Proofs
set_option linter.all false
namespace Go.Proofs.YtapjommjopfbiaaGreatDoor
set_option maxRecDepth 1000000
theorem run_q34 : ∀ E, q34.chk (xcall Tryz.prog okT hB dhC 100000 100 q34.f q34.args (q34.st0 E)) = true := fun E => by kernel_rfl
theorem run_q40 : ∀ E, q40.chk (xcall Tryz.prog okT hB dhC 100000 100 q40.f q40.args (q40.st0 E)) = true := fun E => by kernel_rfl
theorem run_q31 : ∀ E, q31.chk (xcall Tryz.prog okT hB dhC 100000 100 q31.f q31.args (q31.st0 E)) = true := fun E => by kernel_rfl
end Go.Proofs.YtapjommjopfbiaaGreatDoor
