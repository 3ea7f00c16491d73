/- Calls, run by the kernel. -/
import Derived.Test.YtjfmelmiegnmjaaGreatDoorXTrOk2
set_option linter.all false
open Go Go.Sx Go.Proofs
set_option linter.all false
namespace Go.Proofs.YtjfmelmiegnmjaaGreatDoor
set_option maxRecDepth 1000000
theorem run_q115 : ∀ E, q115.chk (xcall Tryz.prog okT hk115 dhC 100000 100 q115.f q115.args (q115.st0 E)) = true := fun E => by kernel_rfl
theorem run_q106 : ∀ E, q106.chk (xcall Tryz.prog okT2 hk106 dhC 100000 100 q106.f q106.args (q106.st0 E)) = true := fun E => by kernel_rfl
theorem run_q85 : ∀ E, q85.chk (xcall Tryz.prog okT2 hk85 dhC 100000 100 q85.f q85.args (q85.st0 E)) = true := fun E => by kernel_rfl
theorem run_q1 : ∀ E, q1.chk (xcall Tryz.prog okT hk1 dhC 100000 100 q1.f q1.args (q1.st0 E)) = true := fun E => by kernel_rfl
theorem run_q132 : ∀ E, q132.chk (xcall Tryz.prog okT2 hk132 dhC 100000 100 q132.f q132.args (q132.st0 E)) = true := fun E => by kernel_rfl
theorem run_q151 : ∀ (n : Nat) (h : n % 2 = 1 ∧ n < 256) E, q151.chk (xcall Tryz.prog okT hk151 dhC 100000 100 q151.f (.par .u8 n 2 1 h :: q151.args.tail) (q151.st0 E)) = true := fun n h E => by kernel_rfl
theorem run_q0 : ∀ E, q0.chk (xcall Tryz.prog okT hk0 dhC 100000 100 q0.f q0.args (q0.st0 E)) = true := fun E => by kernel_rfl
end Go.Proofs.YtjfmelmiegnmjaaGreatDoor
