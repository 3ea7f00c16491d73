/- Calls, run by the kernel. -/
import Derived.Test.YtjfmelmiegnmjaaGreatDoorXSnXh
set_option linter.all false
open Go Go.Sx Go.Proofs
set_option linter.all false
namespace Go.Proofs.YtjfmelmiegnmjaaGreatDoor
set_option maxRecDepth 1000000
theorem run_q26 : ∀ E, q26.chk (xcall Tryz.prog okT hk26 dhC 100000 100 q26.f q26.args (q26.st0 E)) = true := fun E => by kernel_rfl
theorem run_q14 : ∀ E, q14.chk (xcall Tryz.prog okT hk14 dhC 100000 100 q14.f q14.args (q14.st0 E)) = true := fun E => by kernel_rfl
theorem run_q25 : ∀ E, q25.chk (xcall Tryz.prog okT hk25 dhC 100000 100 q25.f q25.args (q25.st0 E)) = true := fun E => by kernel_rfl
theorem run_q0 : ∀ E, q0.chk (xcall Tryz.prog okT hk0 dhC 100000 100 q0.f q0.args (q0.st0 E)) = true := fun E => by kernel_rfl
theorem run_q31 : ∀ E, q31.chk (xcall Tryz.prog okT hk31 dhC 100000 100 q31.f q31.args (q31.st0 E)) = true := fun E => by kernel_rfl
end Go.Proofs.YtjfmelmiegnmjaaGreatDoor
