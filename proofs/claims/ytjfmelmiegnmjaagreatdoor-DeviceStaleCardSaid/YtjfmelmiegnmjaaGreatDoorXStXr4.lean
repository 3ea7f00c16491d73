/- Calls, run by the kernel. -/
import Derived.Test.YtjfmelmiegnmjaaGreatDoorXStOk2
set_option linter.all false
open Go Go.Sx Go.Proofs
set_option linter.all false
namespace Go.Proofs.YtjfmelmiegnmjaaGreatDoor
set_option maxRecDepth 1000000
theorem run_q23 : ∀ E, q23.chk (xcall Tryz.prog okT2 hk23 dhC 100000 100 q23.f q23.args (q23.st0 E)) = true := fun E => by kernel_rfl
theorem run_q26 : ∀ E, q26.chk (xcall Tryz.prog okT2 hk26 dhC 100000 100 q26.f q26.args (q26.st0 E)) = true := fun E => by kernel_rfl
theorem run_q17 : ∀ E, q17.chk (xcall Tryz.prog okT2 hk17 dhC 100000 100 q17.f q17.args (q17.st0 E)) = true := fun E => by kernel_rfl
theorem run_q3 : ∀ E, q3.chk (xcall Tryz.prog okT2 hk3 dhC 100000 100 q3.f q3.args (q3.st0 E)) = true := fun E => by kernel_rfl
end Go.Proofs.YtjfmelmiegnmjaaGreatDoor
