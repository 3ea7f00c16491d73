/- Calls, run by the kernel. -/
import Derived.Test.YtapjommjopfbiaaGreatDoorXFd1
set_option linter.all false
open Go Go.Sx Go.Proofs
set_option linter.all false
namespace Go.Proofs.YtapjommjopfbiaaGreatDoor
set_option maxRecDepth 1000000
theorem run_q14 : ∀ E, q14.chk (xcall Tryz.prog okT hB dhC 100000 100 q14.f q14.args (q14.st0 E)) = true := fun E => by kernel_rfl
theorem run_q32 : ∀ E, q32.chk (xcall Tryz.prog okT hB dhC 100000 100 q32.f q32.args (q32.st0 E)) = true := fun E => by kernel_rfl
theorem run_q36 : ∀ E, q36.chk (xcall Tryz.prog okT hB dhC 100000 100 q36.f q36.args (q36.st0 E)) = true := fun E => by kernel_rfl
theorem run_q39 : ∀ E, q39.chk (xcall Tryz.prog okT hB dhC 100000 100 q39.f q39.args (q39.st0 E)) = true := fun E => by kernel_rfl
end Go.Proofs.YtapjommjopfbiaaGreatDoor
