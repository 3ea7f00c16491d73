/- Calls, run by the kernel. -/
import Derived.Test.YtjfmelmiegnmjaaGreatDoorXToXh
set_option linter.all false
open Go Go.Sx Go.Proofs
set_option linter.all false
namespace Go.Proofs.YtjfmelmiegnmjaaGreatDoor
set_option maxRecDepth 1000000
theorem run_q0 : ∀ E, q0.chk (xcall Tryz.prog okT hk0 dhC 100000 100 q0.f q0.args (q0.st0 E)) = true := fun E => by kernel_rfl
theorem run_q7 : ∀ E, q7.chk (xcall Tryz.prog okT hk7 dhC 100000 100 q7.f q7.args (q7.st0 E)) = true := fun E => by kernel_rfl
end Go.Proofs.YtjfmelmiegnmjaaGreatDoor
