/- Calls, run by the kernel. -/
import Derived.Test.YtadbbdnjcpaooaaGreatDoorXXd0
set_option linter.all false
open Go Go.Sx Go.Proofs
set_option linter.all false
namespace Go.Proofs.YtadbbdnjcpaooaaGreatDoor
set_option maxRecDepth 1000000
theorem run_q3 : ∀ E, q3.chk (xcall Tryz.prog okT hB dhC 100000 100 q3.f q3.args (q3.st0 E)) = true := fun E => by kernel_rfl
theorem run_q10 : ∀ E, q10.chk (xcall Tryz.prog okT hB dhC 100000 100 q10.f q10.args (q10.st0 E)) = true := fun E => by kernel_rfl
theorem run_q12 : ∀ E, q12.chk (xcall Tryz.prog okT hB dhC 100000 100 q12.f q12.args (q12.st0 E)) = true := fun E => by kernel_rfl
end Go.Proofs.YtadbbdnjcpaooaaGreatDoor
