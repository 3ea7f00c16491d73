/- Calls, run by the kernel. -/
import Derived.Test.YtapjommjopfbiaaGreatDoorXFd1
set_option linter.all false
open Go Go.Sx Go.Proofs
set_option linter.all false
namespace Go.Proofs.YtapjommjopfbiaaGreatDoor
set_option maxRecDepth 1000000
theorem run_q26 : ∀ E, q26.chk (xcall Tryz.prog okT hB dhC 100000 100 q26.f q26.args (q26.st0 E)) = true := fun E => by kernel_rfl
theorem run_q38 : ∀ E, q38.chk (xcall Tryz.prog okT hB dhC 100000 100 q38.f q38.args (q38.st0 E)) = true := fun E => by kernel_rfl
theorem run_q30 : ∀ E, q30.chk (xcall Tryz.prog okT hB dhC 100000 100 q30.f q30.args (q30.st0 E)) = true := fun E => by kernel_rfl
theorem run_q33 : ∀ E, q33.chk (xcall Tryz.prog okT hB dhC 100000 100 q33.f q33.args (q33.st0 E)) = true := fun E => by kernel_rfl
end Go.Proofs.YtapjommjopfbiaaGreatDoor
