/- Calls, run by the kernel. -/
import Derived.Test.YtjfmelmiegnmjaaGreatDoorXStOk2
set_option linter.all false
open Go Go.Sx Go.Proofs
set_option linter.all false
namespace Go.Proofs.YtjfmelmiegnmjaaGreatDoor
set_option maxRecDepth 1000000
theorem run_q27 : ∀ E, q27.chk (xcall Tryz.prog okT2 hk27 dhC 100000 100 q27.f q27.args (q27.st0 E)) = true := fun E => by kernel_rfl
theorem run_q31 : ∀ E, q31.chk (xcall Tryz.prog okT2 hk31 dhC 100000 100 q31.f q31.args (q31.st0 E)) = true := fun E => by kernel_rfl
theorem run_q24 : ∀ E, q24.chk (xcall Tryz.prog okT2 hk24 dhC 100000 100 q24.f q24.args (q24.st0 E)) = true := fun E => by kernel_rfl
theorem run_q29 : ∀ E, q29.chk (xcall Tryz.prog okT2 hk29 dhC 100000 100 q29.f q29.args (q29.st0 E)) = true := fun E => by kernel_rfl
end Go.Proofs.YtjfmelmiegnmjaaGreatDoor
