/- Calls, run by the kernel. -/
import Derived.Test.YtjfmelmiegnmjaaGreatDoorXTrXh
set_option linter.all false
open Go Go.Sx Go.Proofs
set_option linter.all false
namespace Go.Proofs.YtjfmelmiegnmjaaGreatDoor
set_option maxRecDepth 1000000
theorem run_q121 : ∀ E, q121.chk (xcall Tryz.prog okT hk121 dhC 100000 100 q121.f q121.args (q121.st0 E)) = true := fun E => by kernel_rfl
theorem run_q98 : ∀ E, q98.chk (xcall Tryz.prog okT hk98 dhC 100000 100 q98.f q98.args (q98.st0 E)) = true := fun E => by kernel_rfl
theorem run_q2 : ∀ E, q2.chk (xcall Tryz.prog okT hk2 dhC 100000 100 q2.f q2.args (q2.st0 E)) = true := fun E => by kernel_rfl
theorem run_q13 : ∀ E, q13.chk (xcall Tryz.prog okT hk13 dhC 100000 100 q13.f q13.args (q13.st0 E)) = true := fun E => by kernel_rfl
theorem run_q24 : ∀ E, q24.chk (xcall Tryz.prog okT hk24 dhC 100000 100 q24.f q24.args (q24.st0 E)) = true := fun E => by kernel_rfl
end Go.Proofs.YtjfmelmiegnmjaaGreatDoor
