/- DeviceTakes: data and runs. -/
import Derived.Test.YtjfmelmiegnmjaaGreatDoorXTkXh
set_option linter.all false
open Go Go.Sx Go.Proofs
set_option linter.all false
namespace Go.Proofs.YtjfmelmiegnmjaaGreatDoor
set_option maxRecDepth 1000000
theorem run_q2 : Rn q2 hk2 := fun E => by kernel_rfl
theorem run_q9 : Rn q9 hk9 := fun E => by kernel_rfl
theorem run_q13 : Rn q13 hk13 := fun E => by kernel_rfl
theorem run_q26 : Rn q26 hk26 := fun E => by kernel_rfl
theorem run_q33 : Rn q33 hk33 := fun E => by kernel_rfl
theorem run_q41 : Rn q41 hk41 := fun E => by kernel_rfl
theorem run_q48 : Rn q48 hk48 := fun E => by kernel_rfl
theorem run_q15 : ∀ (n : Nat) (h : n % 2 = 0 ∧ n < 256) E, q15.chk (xcall Tryz.prog okT2 hk15 dhC 100000 100 q15.f (.par .u8 n 2 0 h :: q15.args.tail) (q15.st0 E)) = true := fun n h E => by kernel_rfl
end Go.Proofs.YtjfmelmiegnmjaaGreatDoor
