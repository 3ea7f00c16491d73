/- Calls, run by the kernel. -/
import Derived.Test.YtjfmelmiegnmjaaGreatDoorXStOk2
set_option linter.all false
open Go Go.Sx Go.Proofs
set_option linter.all false
namespace Go.Proofs.YtjfmelmiegnmjaaGreatDoor
set_option maxRecDepth 1000000
theorem run_q1 : ∀ E, q1.chk (xcall Tryz.prog okT2 hk1 dhC 100000 100 q1.f q1.args (q1.st0 E)) = true := fun E => by kernel_rfl
theorem run_q16 : ∀ E, q16.chk (xcall Tryz.prog okT2 hk16 dhC 100000 100 q16.f q16.args (q16.st0 E)) = true := fun E => by kernel_rfl
theorem run_q5 : ∀ E, q5.chk (xcall Tryz.prog okT2 hk5 dhC 100000 100 q5.f q5.args (q5.st0 E)) = true := fun E => by kernel_rfl
theorem run_q9 : ∀ E, q9.chk (xcall Tryz.prog okT2 hk9 dhC 100000 100 q9.f q9.args (q9.st0 E)) = true := fun E => by kernel_rfl
theorem run_q13 : ∀ E, q13.chk (xcall Tryz.prog okT2 hk13 dhC 100000 100 q13.f q13.args (q13.st0 E)) = true := fun E => by kernel_rfl
theorem run_q43 : ∀ E, q43.chk (xcall Tryz.prog okT2 hk43 dhC 100000 100 q43.f q43.args (q43.st0 E)) = true := fun E => by kernel_rfl
theorem run_q38 : ∀ E, q38.chk (xcall Tryz.prog okT2 hk38 dhC 100000 100 q38.f q38.args (q38.st0 E)) = true := fun E => by kernel_rfl
end Go.Proofs.YtjfmelmiegnmjaaGreatDoor
