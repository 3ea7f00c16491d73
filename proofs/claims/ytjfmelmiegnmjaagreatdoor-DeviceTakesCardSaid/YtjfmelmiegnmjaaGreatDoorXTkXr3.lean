/- DeviceTakes: data and runs. -/
import Derived.Test.YtjfmelmiegnmjaaGreatDoorXTkXh
set_option linter.all false
open Go Go.Sx Go.Proofs
set_option linter.all false
namespace Go.Proofs.YtjfmelmiegnmjaaGreatDoor
set_option maxRecDepth 1000000
theorem run_q19 : Rn q19 hk19 := fun E => by kernel_rfl
theorem run_q57 : Rn q57 hk57 := fun E => by kernel_rfl
theorem run_q56 : ∀ (n : Nat) (h : n % 2 = 1 ∧ n < 256) E, q56.chk (xcall Tryz.prog okT2 hk56 dhC 100000 100 q56.f (.par .u8 n 2 1 h :: q56.args.tail) (q56.st0 E)) = true := fun n h E => by kernel_rfl
theorem run_q27 : Rn q27 hk27 := fun E => by kernel_rfl
theorem run_q68 : Rn q68 hk68 := fun E => by kernel_rfl
theorem run_q72 : Rn q72 hk72 := fun E => by kernel_rfl
theorem run_q75 : Rn q75 hk75 := fun E => by kernel_rfl
end Go.Proofs.YtjfmelmiegnmjaaGreatDoor
