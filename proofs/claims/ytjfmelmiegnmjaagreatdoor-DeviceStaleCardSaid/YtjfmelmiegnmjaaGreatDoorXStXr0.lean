/- Calls, run by the kernel. -/
import Derived.Test.YtjfmelmiegnmjaaGreatDoorXStOk2
set_option linter.all false
open Go Go.Sx Go.Proofs
set_option linter.all false
namespace Go.Proofs.YtjfmelmiegnmjaaGreatDoor
set_option maxRecDepth 1000000
theorem run_q35 : ∀ E, q35.chk (xcall Tryz.prog okT2 hk35 dhC 100000 100 q35.f q35.args (q35.st0 E)) = true := fun E => by kernel_rfl
theorem run_q20 : ∀ E, q20.chk (xcall Tryz.prog okT2 hk20 dhC 100000 100 q20.f q20.args (q20.st0 E)) = true := fun E => by kernel_rfl
theorem run_q2 : ∀ E, q2.chk (xcall Tryz.prog okT2 hk2 dhC 100000 100 q2.f q2.args (q2.st0 E)) = true := fun E => by kernel_rfl
end Go.Proofs.YtjfmelmiegnmjaaGreatDoor
