/- Calls, run by the kernel. -/
import Derived.Test.YtadbbdnjcpaooaaGreatDoorXXd0
set_option linter.all false
open Go Go.Sx Go.Proofs
set_option linter.all false
namespace Go.Proofs.YtadbbdnjcpaooaaGreatDoor
set_option maxRecDepth 1000000
theorem run_q21 : ∀ E, q21.chk (xcall Tryz.prog okT hB dhC 100000 100 q21.f q21.args (q21.st0 E)) = true := fun E => by kernel_rfl
theorem run_q22 : ∀ E, q22.chk (xcall Tryz.prog okT hB dhC 100000 100 q22.f q22.args (q22.st0 E)) = true := fun E => by kernel_rfl
theorem run_q23 : ∀ E, q23.chk (xcall Tryz.prog okT hB dhC 100000 100 q23.f q23.args (q23.st0 E)) = true := fun E => by kernel_rfl
end Go.Proofs.YtadbbdnjcpaooaaGreatDoor
