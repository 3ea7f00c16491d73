/- Calls, run by the kernel. -/
import Derived.Test.YtjfmelmiegnmjaaGreatDoorXTrXh
set_option linter.all false
open Go Go.Sx Go.Proofs
set_option linter.all false
namespace Go.Proofs.YtjfmelmiegnmjaaGreatDoor
set_option maxRecDepth 1000000
theorem run_q95 : ∀ E, q95.chk (xcall Tryz.prog okT hk95 dhC 100000 100 q95.f q95.args (q95.st0 E)) = true := fun E => by kernel_rfl
theorem run_q117 : ∀ E, q117.chk (xcall Tryz.prog okT hk117 dhC 100000 100 q117.f q117.args (q117.st0 E)) = true := fun E => by kernel_rfl
theorem run_q159 : ∀ E, q159.chk (xcall Tryz.prog okT hk159 dhC 100000 100 q159.f q159.args (q159.st0 E)) = true := fun E => by kernel_rfl
theorem run_q6 : ∀ E, q6.chk (xcall Tryz.prog okT hk6 dhC 100000 100 q6.f q6.args (q6.st0 E)) = true := fun E => by kernel_rfl
end Go.Proofs.YtjfmelmiegnmjaaGreatDoor
