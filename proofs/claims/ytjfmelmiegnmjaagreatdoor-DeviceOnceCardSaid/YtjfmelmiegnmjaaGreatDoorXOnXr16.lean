/- DeviceOnce: data and runs. -/
import Derived.Test.YtjfmelmiegnmjaaGreatDoorXOnXh
set_option linter.all false
open Go Go.Sx Go.Proofs
set_option linter.all false
namespace Go.Proofs.YtjfmelmiegnmjaaGreatDoor
set_option maxRecDepth 1000000
theorem run_q10 : ∀ (n : Nat) (h : n % 2 = 0 ∧ n < 256) E, q10.chk (xcall Tryz.prog okT2 hk10 dhC 100000 100 q10.f (.par .u8 n 2 0 h :: q10.args.tail) (q10.st0 E)) = true := fun n h E => by kernel_rfl
theorem run_q86 : Rn q86 hk86 := fun E => by kernel_rfl
theorem run_q105 : Rn q105 hk105 := fun E => by kernel_rfl
theorem run_q11 : Rn q11 hk11 := fun E => by kernel_rfl
theorem run_q29 : Rn q29 hk29 := fun E => by kernel_rfl
theorem run_q47 : Rn q47 hk47 := fun E => by kernel_rfl
theorem run_q66 : Rn q66 hk66 := fun E => by kernel_rfl
theorem run_q56 : Rn q56 hk56 := fun E => by kernel_rfl
end Go.Proofs.YtjfmelmiegnmjaaGreatDoor
