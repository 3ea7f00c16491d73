/- Calls, run by the kernel. -/
import Derived.Test.YtjfmelmiegnmjaaGreatDoorXTrXh
set_option linter.all false
open Go Go.Sx Go.Proofs
set_option linter.all false
namespace Go.Proofs.YtjfmelmiegnmjaaGreatDoor
set_option maxRecDepth 1000000
theorem run_q122 : ∀ E, q122.chk (xcall Tryz.prog okT hk122 dhC 100000 100 q122.f q122.args (q122.st0 E)) = true := fun E => by kernel_rfl
theorem run_q94 : ∀ E, q94.chk (xcall Tryz.prog okT hk94 dhC 100000 100 q94.f q94.args (q94.st0 E)) = true := fun E => by kernel_rfl
theorem run_q116 : ∀ E, q116.chk (xcall Tryz.prog okT hk116 dhC 100000 100 q116.f q116.args (q116.st0 E)) = true := fun E => by kernel_rfl
theorem run_q120 : ∀ E, q120.chk (xcall Tryz.prog okT hk120 dhC 100000 100 q120.f q120.args (q120.st0 E)) = true := fun E => by kernel_rfl
theorem run_q12 : ∀ E, q12.chk (xcall Tryz.prog okT hk12 dhC 100000 100 q12.f q12.args (q12.st0 E)) = true := fun E => by kernel_rfl
theorem run_q54 : ∀ E, q54.chk (xcall Tryz.prog okT hk54 dhC 100000 100 q54.f q54.args (q54.st0 E)) = true := fun E => by kernel_rfl
theorem run_q68 : ∀ E, q68.chk (xcall Tryz.prog okT hk68 dhC 100000 100 q68.f q68.args (q68.st0 E)) = true := fun E => by kernel_rfl
end Go.Proofs.YtjfmelmiegnmjaaGreatDoor
