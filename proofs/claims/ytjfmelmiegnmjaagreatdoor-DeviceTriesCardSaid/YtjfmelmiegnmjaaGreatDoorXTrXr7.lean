/- Calls, run by the kernel. -/
import Derived.Test.YtjfmelmiegnmjaaGreatDoorXTrXh
set_option linter.all false
open Go Go.Sx Go.Proofs
set_option linter.all false
namespace Go.Proofs.YtjfmelmiegnmjaaGreatDoor
set_option maxRecDepth 1000000
theorem run_q29 : ∀ E, q29.chk (xcall Tryz.prog okT hk29 dhC 100000 100 q29.f q29.args (q29.st0 E)) = true := fun E => by kernel_rfl
theorem run_q78 : ∀ E, q78.chk (xcall Tryz.prog okT hk78 dhC 100000 100 q78.f q78.args (q78.st0 E)) = true := fun E => by kernel_rfl
theorem run_q22 : ∀ E, q22.chk (xcall Tryz.prog okT hk22 dhC 100000 100 q22.f q22.args (q22.st0 E)) = true := fun E => by kernel_rfl
theorem run_q43 : ∀ E, q43.chk (xcall Tryz.prog okT hk43 dhC 100000 100 q43.f q43.args (q43.st0 E)) = true := fun E => by kernel_rfl
theorem run_q99 : ∀ E, q99.chk (xcall Tryz.prog okT hk99 dhC 100000 100 q99.f q99.args (q99.st0 E)) = true := fun E => by kernel_rfl
theorem run_q36 : ∀ E, q36.chk (xcall Tryz.prog okT hk36 dhC 100000 100 q36.f q36.args (q36.st0 E)) = true := fun E => by kernel_rfl
theorem run_q72 : ∀ E, q72.chk (xcall Tryz.prog okT hk72 dhC 100000 100 q72.f q72.args (q72.st0 E)) = true := fun E => by kernel_rfl
end Go.Proofs.YtjfmelmiegnmjaaGreatDoor
