/- Calls, run by the kernel. -/
import Derived.Test.YtapjommjopfbiaaGreatDoorXFd1
set_option linter.all false
open Go Go.Sx Go.Proofs
set_option linter.all false
namespace Go.Proofs.YtapjommjopfbiaaGreatDoor
set_option maxRecDepth 1000000
theorem run_q22 : ∀ E, q22.chk (xcall Tryz.prog okT hB dhC 100000 100 q22.f q22.args (q22.st0 E)) = true := fun E => by kernel_rfl
theorem run_q19 : ∀ E, q19.chk (xcall Tryz.prog okT hB dhC 100000 100 q19.f q19.args (q19.st0 E)) = true := fun E => by kernel_rfl
end Go.Proofs.YtapjommjopfbiaaGreatDoor
