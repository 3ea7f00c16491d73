/- Calls, run by the kernel. -/
import Derived.Test.YtjfmelmiegnmjaaGreatDoorXStOk2
set_option linter.all false
open Go Go.Sx Go.Proofs
set_option linter.all false
namespace Go.Proofs.YtjfmelmiegnmjaaGreatDoor
set_option maxRecDepth 1000000
theorem run_q36 : ∀ E, q36.chk (xcall Tryz.prog okT2 hk36 dhC 100000 100 q36.f q36.args (q36.st0 E)) = true := fun E => by kernel_rfl
theorem run_q21 : ∀ E, q21.chk (xcall Tryz.prog okT2 hk21 dhC 100000 100 q21.f q21.args (q21.st0 E)) = true := fun E => by kernel_rfl
theorem run_q19 : ∀ E, q19.chk (xcall Tryz.prog okT2 hk19 dhC 100000 100 q19.f q19.args (q19.st0 E)) = true := fun E => by kernel_rfl
theorem run_q7 : ∀ E, q7.chk (xcall Tryz.prog okT2 hk7 dhC 100000 100 q7.f q7.args (q7.st0 E)) = true := fun E => by kernel_rfl
end Go.Proofs.YtjfmelmiegnmjaaGreatDoor
