/- Calls, run by the kernel. -/
import Derived.Test.YtadbbdnjcpaooaaGreatDoorXXd0
set_option linter.all false
open Go Go.Sx Go.Proofs
set_option linter.all false
namespace Go.Proofs.YtadbbdnjcpaooaaGreatDoor
set_option maxRecDepth 1000000
theorem run_q24 : ∀ E, q24.chk (xcall Tryz.prog okT hB dhC 100000 100 q24.f q24.args (q24.st0 E)) = true := fun E => by kernel_rfl
theorem run_q25 : ∀ E, q25.chk (xcall Tryz.prog okT hB dhC 100000 100 q25.f q25.args (q25.st0 E)) = true := fun E => by kernel_rfl
theorem run_q1 : ∀ E, q1.chk (xcall Tryz.prog okT hB dhC 100000 100 q1.f q1.args (q1.st0 E)) = true := fun E => by kernel_rfl
theorem run_q2 : ∀ E, q2.chk (xcall Tryz.prog okT hB dhC 100000 100 q2.f q2.args (q2.st0 E)) = true := fun E => by kernel_rfl
end Go.Proofs.YtadbbdnjcpaooaaGreatDoor
