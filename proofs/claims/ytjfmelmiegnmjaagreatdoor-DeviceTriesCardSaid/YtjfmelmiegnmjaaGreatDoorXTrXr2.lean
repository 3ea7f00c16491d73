/- Calls, run by the kernel. -/
import Derived.Test.YtjfmelmiegnmjaaGreatDoorXTrXh
set_option linter.all false
open Go Go.Sx Go.Proofs
set_option linter.all false
namespace Go.Proofs.YtjfmelmiegnmjaaGreatDoor
set_option maxRecDepth 1000000
theorem run_q27 : ∀ E, q27.chk (xcall Tryz.prog okT hk27 dhC 100000 100 q27.f q27.args (q27.st0 E)) = true := fun E => by kernel_rfl
theorem run_q41 : ∀ E, q41.chk (xcall Tryz.prog okT hk41 dhC 100000 100 q41.f q41.args (q41.st0 E)) = true := fun E => by kernel_rfl
theorem run_q55 : ∀ E, q55.chk (xcall Tryz.prog okT hk55 dhC 100000 100 q55.f q55.args (q55.st0 E)) = true := fun E => by kernel_rfl
theorem run_q69 : ∀ E, q69.chk (xcall Tryz.prog okT hk69 dhC 100000 100 q69.f q69.args (q69.st0 E)) = true := fun E => by kernel_rfl
theorem run_q34 : ∀ E, q34.chk (xcall Tryz.prog okT hk34 dhC 100000 100 q34.f q34.args (q34.st0 E)) = true := fun E => by kernel_rfl
theorem run_q5 : ∀ E, q5.chk (xcall Tryz.prog okT hk5 dhC 100000 100 q5.f q5.args (q5.st0 E)) = true := fun E => by kernel_rfl
end Go.Proofs.YtjfmelmiegnmjaaGreatDoor
