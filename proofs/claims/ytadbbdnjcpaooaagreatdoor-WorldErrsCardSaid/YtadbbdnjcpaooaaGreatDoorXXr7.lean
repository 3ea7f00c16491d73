/- Calls, run by the kernel. -/
import Derived.Test.YtadbbdnjcpaooaaGreatDoorXXd0
set_option linter.all false
open Go Go.Sx Go.Proofs
set_option linter.all false
namespace Go.Proofs.YtadbbdnjcpaooaaGreatDoor
set_option maxRecDepth 1000000
theorem run_q5 : ∀ E, q5.chk (xcall Tryz.prog okT hB dhC 100000 100 q5.f q5.args (q5.st0 E)) = true := fun E => by kernel_rfl
theorem run_q31 : ∀ E, q31.chk (xcall Tryz.prog okT hB dhC 100000 100 q31.f q31.args (q31.st0 E)) = true := fun E => by kernel_rfl
theorem run_q4 : ∀ E, q4.chk (xcall Tryz.prog okT hB dhC 100000 100 q4.f q4.args (q4.st0 E)) = true := fun E => by kernel_rfl
end Go.Proofs.YtadbbdnjcpaooaaGreatDoor
