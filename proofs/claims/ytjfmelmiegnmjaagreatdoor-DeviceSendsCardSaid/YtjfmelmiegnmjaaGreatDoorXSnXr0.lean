/- Calls, run by the kernel. -/
import Derived.Test.YtjfmelmiegnmjaaGreatDoorXSnXh
set_option linter.all false
open Go Go.Sx Go.Proofs
set_option linter.all false
namespace Go.Proofs.YtjfmelmiegnmjaaGreatDoor
set_option maxRecDepth 1000000
theorem run_q21 : ∀ E, q21.chk (xcall Tryz.prog okT hk21 dhC 100000 100 q21.f q21.args (q21.st0 E)) = true := fun E => by kernel_rfl
theorem run_q9 : ∀ E, q9.chk (xcall Tryz.prog okT hk9 dhC 100000 100 q9.f q9.args (q9.st0 E)) = true := fun E => by kernel_rfl
theorem run_q30 : ∀ (n : Nat) (h : n % 2 = 0 ∧ n < 256) E, q30.chk (xcall Tryz.prog okT hk30 dhC 100000 100 q30.f (.par .u8 n 2 0 h :: q30.args.tail) (q30.st0 E)) = true := fun n h E => by kernel_rfl
theorem run_q4 : ∀ E, q4.chk (xcall Tryz.prog okT hk4 dhC 100000 100 q4.f q4.args (q4.st0 E)) = true := fun E => by kernel_rfl
theorem run_q2 : ∀ E, q2.chk (xcall Tryz.prog okT hk2 dhC 100000 100 q2.f q2.args (q2.st0 E)) = true := fun E => by kernel_rfl
end Go.Proofs.YtjfmelmiegnmjaaGreatDoor
