/- DeviceOnce: data and runs. -/
import Derived.Test.YtjfmelmiegnmjaaGreatDoorXOnXh
set_option linter.all false
open Go Go.Sx Go.Proofs
set_option linter.all false
namespace Go.Proofs.YtjfmelmiegnmjaaGreatDoor
set_option maxRecDepth 1000000
theorem run_q147 : Rn q147 hk147 := fun E => by kernel_rfl
theorem run_q159 : Rn q159 hk159 := fun E => by kernel_rfl
theorem run_q2 : Rn q2 hk2 := fun E => by kernel_rfl
theorem run_q123 : ∀ (n : Nat) (h : n % 2 = 1 ∧ n < 256) E, q123.chk (xcall Tryz.prog okT2 hk123 dhC 100000 100 q123.f (.par .u8 n 2 1 h :: q123.args.tail) (q123.st0 E)) = true := fun n h E => by kernel_rfl
theorem run_q22 : Rn q22 hk22 := fun E => by kernel_rfl
end Go.Proofs.YtjfmelmiegnmjaaGreatDoor
