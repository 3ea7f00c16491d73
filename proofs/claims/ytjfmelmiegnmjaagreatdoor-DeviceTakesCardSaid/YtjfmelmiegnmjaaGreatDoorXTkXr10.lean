/- DeviceTakes: data and runs. -/
import Derived.Test.YtjfmelmiegnmjaaGreatDoorXTkXh
set_option linter.all false
open Go Go.Sx Go.Proofs
set_option linter.all false
namespace Go.Proofs.YtjfmelmiegnmjaaGreatDoor
set_option maxRecDepth 1000000
theorem run_q49 : Rn q49 hk49 := fun E => by kernel_rfl
theorem run_q55 : Rn q55 hk55 := fun E => by kernel_rfl
theorem run_q61 : Rn q61 hk61 := fun E => by kernel_rfl
theorem run_q65 : Rn q65 hk65 := fun E => by kernel_rfl
theorem run_q70 : Rn q70 hk70 := fun E => by kernel_rfl
theorem run_q74 : Rn q74 hk74 := fun E => by kernel_rfl
theorem run_q77 : Rn q77 hk77 := fun E => by kernel_rfl
end Go.Proofs.YtjfmelmiegnmjaaGreatDoor
