/- Calls, run by the kernel. -/
import Derived.Test.YtapjommjopfbiaaGreatDoorXFd1
set_option linter.all false
open Go Go.Sx Go.Proofs
set_option linter.all false
namespace Go.Proofs.YtapjommjopfbiaaGreatDoor
set_option maxRecDepth 1000000
theorem run_q18 : ∀ E, q18.chk (xcall Tryz.prog okT hB dhC 100000 100 q18.f q18.args (q18.st0 E)) = true := fun E => by kernel_rfl
theorem run_q17 : ∀ E, q17.chk (xcall Tryz.prog okT hB dhC 100000 100 q17.f q17.args (q17.st0 E)) = true := fun E => by kernel_rfl
theorem run_q27 : ∀ E, q27.chk (xcall Tryz.prog okT hB dhC 100000 100 q27.f q27.args (q27.st0 E)) = true := fun E => by kernel_rfl
end Go.Proofs.YtapjommjopfbiaaGreatDoor
