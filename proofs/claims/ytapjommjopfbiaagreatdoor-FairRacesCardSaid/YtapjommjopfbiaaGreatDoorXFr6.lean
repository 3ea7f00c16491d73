/- Calls, run by the kernel. -/
import Derived.Test.YtapjommjopfbiaaGreatDoorXFd1
set_option linter.all false
open Go Go.Sx Go.Proofs
set_option linter.all false
namespace Go.Proofs.YtapjommjopfbiaaGreatDoor
set_option maxRecDepth 1000000
theorem run_q1 : ∀ E, q1.chk (xcall Tryz.prog okT hB dhC 100000 100 q1.f q1.args (q1.st0 E)) = true := fun E => by kernel_rfl
theorem run_q12 : ∀ E, q12.chk (xcall Tryz.prog okT hB dhC 100000 100 q12.f q12.args (q12.st0 E)) = true := fun E => by kernel_rfl
theorem run_q15 : ∀ E, q15.chk (xcall Tryz.prog okT hB dhC 100000 100 q15.f q15.args (q15.st0 E)) = true := fun E => by kernel_rfl
theorem run_q24 : ∀ E, q24.chk (xcall Tryz.prog okT hB dhC 100000 100 q24.f q24.args (q24.st0 E)) = true := fun E => by kernel_rfl
end Go.Proofs.YtapjommjopfbiaaGreatDoor
