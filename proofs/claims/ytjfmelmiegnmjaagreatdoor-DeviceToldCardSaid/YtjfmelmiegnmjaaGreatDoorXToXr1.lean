/- Calls, run by the kernel. -/
import Derived.Test.YtjfmelmiegnmjaaGreatDoorXToXh
set_option linter.all false
open Go Go.Sx Go.Proofs
set_option linter.all false
namespace Go.Proofs.YtjfmelmiegnmjaaGreatDoor
set_option maxRecDepth 1000000
theorem run_q1 : ∀ E, q1.chk (xcall Tryz.prog okT hk1 dhC 100000 100 q1.f q1.args (q1.st0 E)) = true := fun E => by kernel_rfl
theorem run_q8 : ∀ (n : Nat) (h : n % 2 = 1 ∧ n < 256) E, q8.chk (xcall Tryz.prog okT hk8 dhC 100000 100 q8.f (.par .u8 n 2 1 h :: q8.args.tail) (q8.st0 E)) = true := fun n h E => by kernel_rfl
theorem run_q3 : ∀ E, q3.chk (xcall Tryz.prog okT hk3 dhC 100000 100 q3.f q3.args (q3.st0 E)) = true := fun E => by kernel_rfl
theorem run_q26 : ∀ (n : Nat) (h : n % 2 = 0 ∧ n < 256) E, q26.chk (xcall Tryz.prog okT hk26 dhC 100000 100 q26.f (.par .u8 n 2 0 h :: q26.args.tail) (q26.st0 E)) = true := fun n h E => by kernel_rfl
theorem run_q19 : ∀ E, q19.chk (xcall Tryz.prog okT hk19 dhC 100000 100 q19.f q19.args (q19.st0 E)) = true := fun E => by kernel_rfl
theorem run_q10 : ∀ E, q10.chk (xcall Tryz.prog okT hk10 dhC 100000 100 q10.f q10.args (q10.st0 E)) = true := fun E => by kernel_rfl
theorem run_q21 : ∀ E, q21.chk (xcall Tryz.prog okT hk21 dhC 100000 100 q21.f q21.args (q21.st0 E)) = true := fun E => by kernel_rfl
theorem run_q13 : ∀ E, q13.chk (xcall Tryz.prog okT hk13 dhC 100000 100 q13.f q13.args (q13.st0 E)) = true := fun E => by kernel_rfl
end Go.Proofs.YtjfmelmiegnmjaaGreatDoor
