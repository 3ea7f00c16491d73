/- Calls, run by the kernel. -/
import Derived.Test.YtjfmelmiegnmjaaGreatDoorXSnXh
set_option linter.all false
open Go Go.Sx Go.Proofs
set_option linter.all false
namespace Go.Proofs.YtjfmelmiegnmjaaGreatDoor
set_option maxRecDepth 1000000
theorem run_q32 : ∀ (n : Nat) (h : n % 2 = 1 ∧ n < 256) E, q32.chk (xcall Tryz.prog okT hk32 dhC 100000 100 q32.f (.par .u8 n 2 1 h :: q32.args.tail) (q32.st0 E)) = true := fun n h E => by kernel_rfl
theorem run_q24 : ∀ E, q24.chk (xcall Tryz.prog okT hk24 dhC 100000 100 q24.f q24.args (q24.st0 E)) = true := fun E => by kernel_rfl
theorem run_q18 : ∀ E, q18.chk (xcall Tryz.prog okT hk18 dhC 100000 100 q18.f q18.args (q18.st0 E)) = true := fun E => by kernel_rfl
theorem run_q12 : ∀ E, q12.chk (xcall Tryz.prog okT hk12 dhC 100000 100 q12.f q12.args (q12.st0 E)) = true := fun E => by kernel_rfl
theorem run_q6 : ∀ E, q6.chk (xcall Tryz.prog okT hk6 dhC 100000 100 q6.f q6.args (q6.st0 E)) = true := fun E => by kernel_rfl
theorem run_q22 : ∀ E, q22.chk (xcall Tryz.prog okT hk22 dhC 100000 100 q22.f q22.args (q22.st0 E)) = true := fun E => by kernel_rfl
theorem run_q20 : ∀ E, q20.chk (xcall Tryz.prog okT hk20 dhC 100000 100 q20.f q20.args (q20.st0 E)) = true := fun E => by kernel_rfl
end Go.Proofs.YtjfmelmiegnmjaaGreatDoor
