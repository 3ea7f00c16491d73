/- Calls, run by the kernel. -/
import Derived.Test.YtadbbdnjcpaooaaGreatDoorXXd0
set_option linter.all false
open Go Go.Sx Go.Proofs
set_option linter.all false
namespace Go.Proofs.YtadbbdnjcpaooaaGreatDoor
set_option maxRecDepth 1000000
theorem run_q18 : ∀ E, q18.chk (xcall Tryz.prog okT hB dhC 100000 100 q18.f q18.args (q18.st0 E)) = true := fun E => by kernel_rfl
theorem run_q11 : ∀ E, q11.chk (xcall Tryz.prog okT hB dhC 100000 100 q11.f q11.args (q11.st0 E)) = true := fun E => by kernel_rfl
theorem run_q19 : ∀ E, q19.chk (xcall Tryz.prog okT hB dhC 100000 100 q19.f q19.args (q19.st0 E)) = true := fun E => by kernel_rfl
end Go.Proofs.YtadbbdnjcpaooaaGreatDoor
