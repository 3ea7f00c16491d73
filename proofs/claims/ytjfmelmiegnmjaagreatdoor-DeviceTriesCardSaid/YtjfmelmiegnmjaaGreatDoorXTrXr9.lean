/- Calls, run by the kernel. -/
import Derived.Test.YtjfmelmiegnmjaaGreatDoorXTrXh
set_option linter.all false
open Go Go.Sx Go.Proofs
set_option linter.all false
namespace Go.Proofs.YtjfmelmiegnmjaaGreatDoor
set_option maxRecDepth 1000000
theorem run_q139 : ∀ E, q139.chk (xcall Tryz.prog okT hk139 dhC 100000 100 q139.f q139.args (q139.st0 E)) = true := fun E => by kernel_rfl
theorem run_q57 : ∀ E, q57.chk (xcall Tryz.prog okT hk57 dhC 100000 100 q57.f q57.args (q57.st0 E)) = true := fun E => by kernel_rfl
theorem run_q125 : ∀ E, q125.chk (xcall Tryz.prog okT hk125 dhC 100000 100 q125.f q125.args (q125.st0 E)) = true := fun E => by kernel_rfl
theorem run_q8 : ∀ E, q8.chk (xcall Tryz.prog okT hk8 dhC 100000 100 q8.f q8.args (q8.st0 E)) = true := fun E => by kernel_rfl
theorem run_q50 : ∀ E, q50.chk (xcall Tryz.prog okT hk50 dhC 100000 100 q50.f q50.args (q50.st0 E)) = true := fun E => by kernel_rfl
theorem run_q71 : ∀ E, q71.chk (xcall Tryz.prog okT hk71 dhC 100000 100 q71.f q71.args (q71.st0 E)) = true := fun E => by kernel_rfl
theorem run_q61 : ∀ E, q61.chk (xcall Tryz.prog okT hk61 dhC 100000 100 q61.f q61.args (q61.st0 E)) = true := fun E => by kernel_rfl
end Go.Proofs.YtjfmelmiegnmjaaGreatDoor
