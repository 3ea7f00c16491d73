/- Calls, run by the kernel. -/
import Derived.Test.YtjfmelmiegnmjaaGreatDoorXStOk2
set_option linter.all false
open Go Go.Sx Go.Proofs
set_option linter.all false
namespace Go.Proofs.YtjfmelmiegnmjaaGreatDoor
set_option maxRecDepth 1000000
theorem run_q22 : ∀ E, q22.chk (xcall Tryz.prog okT2 hk22 dhC 100000 100 q22.f q22.args (q22.st0 E)) = true := fun E => by kernel_rfl
theorem run_q25 : ∀ E, q25.chk (xcall Tryz.prog okT2 hk25 dhC 100000 100 q25.f q25.args (q25.st0 E)) = true := fun E => by kernel_rfl
theorem run_q40 : ∀ E, q40.chk (xcall Tryz.prog okT2 hk40 dhC 100000 100 q40.f q40.args (q40.st0 E)) = true := fun E => by kernel_rfl
theorem run_q45 : ∀ E, q45.chk (xcall Tryz.prog okT2 hk45 dhC 100000 100 q45.f q45.args (q45.st0 E)) = true := fun E => by kernel_rfl
end Go.Proofs.YtjfmelmiegnmjaaGreatDoor
