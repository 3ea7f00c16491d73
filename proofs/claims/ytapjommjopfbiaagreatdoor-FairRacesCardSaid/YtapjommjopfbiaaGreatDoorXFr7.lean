/- Calls, run by the kernel. -/
import Derived.Test.YtapjommjopfbiaaGreatDoorXFd1
set_option linter.all false
open Go Go.Sx Go.Proofs
set_option linter.all false
namespace Go.Proofs.YtapjommjopfbiaaGreatDoor
set_option maxRecDepth 1000000
theorem run_q10 : ∀ E, q10.chk (xcall Tryz.prog okT hB dhC 100000 100 q10.f q10.args (q10.st0 E)) = true := fun E => by kernel_rfl
theorem run_q13 : ∀ E, q13.chk (xcall Tryz.prog okT hB dhC 100000 100 q13.f q13.args (q13.st0 E)) = true := fun E => by kernel_rfl
end Go.Proofs.YtapjommjopfbiaaGreatDoor
