/- Calls, run by the kernel. -/
import Derived.Test.YtapjommjopfbiaaGreatDoorXFd1
set_option linter.all false
open Go Go.Sx Go.Proofs
set_option linter.all false
namespace Go.Proofs.YtapjommjopfbiaaGreatDoor
set_option maxRecDepth 1000000
theorem run_q9 : ∀ E, q9.chk (xcall Tryz.prog okT hB dhC 100000 100 q9.f q9.args (q9.st0 E)) = true := fun E => by kernel_rfl
theorem run_q25 : ∀ E, q25.chk (xcall Tryz.prog okT hB dhC 100000 100 q25.f q25.args (q25.st0 E)) = true := fun E => by kernel_rfl
end Go.Proofs.YtapjommjopfbiaaGreatDoor
