/- Calls, run by the kernel. -/
import Derived.Test.YtjfmelmiegnmjaaGreatDoorXStOk2
set_option linter.all false
open Go Go.Sx Go.Proofs
set_option linter.all false
namespace Go.Proofs.YtjfmelmiegnmjaaGreatDoor
set_option maxRecDepth 1000000
theorem run_q39 : ∀ (n : Nat) (h : n % 2 = 1 ∧ n < 256) E, q39.chk (xcall Tryz.prog okT2 hk39 dhC 100000 100 q39.f (.par .u8 n 2 1 h :: q39.args.tail) (q39.st0 E)) = true := fun n h E => by kernel_rfl
theorem run_q41 : ∀ E, q41.chk (xcall Tryz.prog okT2 hk41 dhC 100000 100 q41.f q41.args (q41.st0 E)) = true := fun E => by kernel_rfl
theorem run_q0 : ∀ E, q0.chk (xcall Tryz.prog okT2 hk0 dhC 100000 100 q0.f q0.args (q0.st0 E)) = true := fun E => by kernel_rfl
theorem run_q47 : ∀ E, q47.chk (xcall Tryz.prog okT2 hk47 dhC 100000 100 q47.f q47.args (q47.st0 E)) = true := fun E => by kernel_rfl
end Go.Proofs.YtjfmelmiegnmjaaGreatDoor
