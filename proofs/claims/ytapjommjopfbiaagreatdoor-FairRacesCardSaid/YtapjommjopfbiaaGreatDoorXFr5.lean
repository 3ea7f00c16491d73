/- Calls, run by the kernel. -/
import Derived.Test.YtapjommjopfbiaaGreatDoorXFd1
set_option linter.all false
open Go Go.Sx Go.Proofs
set_option linter.all false
namespace Go.Proofs.YtapjommjopfbiaaGreatDoor
set_option maxRecDepth 1000000
theorem run_q0 : ∀ E, q0.chk (xcall Tryz.prog okT hB dhC 100000 100 q0.f q0.args (q0.st0 E)) = true := fun E => by kernel_rfl
theorem run_q3 : ∀ E, q3.chk (xcall Tryz.prog okT hB dhC 100000 100 q3.f q3.args (q3.st0 E)) = true := fun E => by kernel_rfl
theorem run_q7 : ∀ E, q7.chk (xcall Tryz.prog okT hB dhC 100000 100 q7.f q7.args (q7.st0 E)) = true := fun E => by kernel_rfl
end Go.Proofs.YtapjommjopfbiaaGreatDoor
