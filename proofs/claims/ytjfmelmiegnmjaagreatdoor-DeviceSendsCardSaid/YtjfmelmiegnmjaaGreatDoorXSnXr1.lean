/- Calls, run by the kernel. -/
import Derived.Test.YtjfmelmiegnmjaaGreatDoorXSnXh
set_option linter.all false
open Go Go.Sx Go.Proofs
set_option linter.all false
namespace Go.Proofs.YtjfmelmiegnmjaaGreatDoor
set_option maxRecDepth 1000000
theorem run_q11 : ∀ E, q11.chk (xcall Tryz.prog okT hk11 dhC 100000 100 q11.f q11.args (q11.st0 E)) = true := fun E => by kernel_rfl
theorem run_q23 : ∀ E, q23.chk (xcall Tryz.prog okT hk23 dhC 100000 100 q23.f q23.args (q23.st0 E)) = true := fun E => by kernel_rfl
theorem run_q29 : ∀ E, q29.chk (xcall Tryz.prog okT hk29 dhC 100000 100 q29.f q29.args (q29.st0 E)) = true := fun E => by kernel_rfl
theorem run_q17 : ∀ E, q17.chk (xcall Tryz.prog okT hk17 dhC 100000 100 q17.f q17.args (q17.st0 E)) = true := fun E => by kernel_rfl
theorem run_q1 : ∀ E, q1.chk (xcall Tryz.prog okT hk1 dhC 100000 100 q1.f q1.args (q1.st0 E)) = true := fun E => by kernel_rfl
theorem run_q10 : ∀ E, q10.chk (xcall Tryz.prog okT hk10 dhC 100000 100 q10.f q10.args (q10.st0 E)) = true := fun E => by kernel_rfl
end Go.Proofs.YtjfmelmiegnmjaaGreatDoor
