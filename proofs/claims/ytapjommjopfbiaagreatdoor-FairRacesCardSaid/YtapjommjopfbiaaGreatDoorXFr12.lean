/- Calls, run by the kernel. -/
import Derived.Test.YtapjommjopfbiaaGreatDoorXFd1
set_option linter.all false
open Go Go.Sx Go.Proofs
set_option linter.all false
namespace Go.Proofs.YtapjommjopfbiaaGreatDoor
set_option maxRecDepth 1000000
theorem run_q23 : ∀ E, q23.chk (xcall Tryz.prog okT hB dhC 100000 100 q23.f q23.args (q23.st0 E)) = true := fun E => by kernel_rfl
theorem run_q35 : ∀ E, q35.chk (xcall Tryz.prog okT hB dhC 100000 100 q35.f q35.args (q35.st0 E)) = true := fun E => by kernel_rfl
end Go.Proofs.YtapjommjopfbiaaGreatDoor
