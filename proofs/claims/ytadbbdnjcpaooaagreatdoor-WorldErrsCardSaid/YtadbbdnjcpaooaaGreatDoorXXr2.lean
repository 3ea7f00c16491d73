/- Calls, run by the kernel. -/
import Derived.Test.YtadbbdnjcpaooaaGreatDoorXXd0
set_option linter.all false
open Go Go.Sx Go.Proofs
set_option linter.all false
namespace Go.Proofs.YtadbbdnjcpaooaaGreatDoor
set_option maxRecDepth 1000000
theorem run_q13 : ∀ E, q13.chk (xcall Tryz.prog okT hB dhC 100000 100 q13.f q13.args (q13.st0 E)) = true := fun E => by kernel_rfl
theorem run_q14 : ∀ E, q14.chk (xcall Tryz.prog okT hB dhC 100000 100 q14.f q14.args (q14.st0 E)) = true := fun E => by kernel_rfl
theorem run_q15 : ∀ E, q15.chk (xcall Tryz.prog okT hB dhC 100000 100 q15.f q15.args (q15.st0 E)) = true := fun E => by kernel_rfl
end Go.Proofs.YtadbbdnjcpaooaaGreatDoor
