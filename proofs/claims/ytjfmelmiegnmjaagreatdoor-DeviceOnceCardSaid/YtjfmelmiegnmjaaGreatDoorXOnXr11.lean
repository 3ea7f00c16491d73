/- DeviceOnce: data and runs. -/
import Derived.Test.YtjfmelmiegnmjaaGreatDoorXOnXh
set_option linter.all false
open Go Go.Sx Go.Proofs
set_option linter.all false
namespace Go.Proofs.YtjfmelmiegnmjaaGreatDoor
set_option maxRecDepth 1000000
theorem run_q72 : Rn q72 hk72 := fun E => by kernel_rfl
theorem run_q91 : Rn q91 hk91 := fun E => by kernel_rfl
theorem run_q110 : Rn q110 hk110 := fun E => by kernel_rfl
theorem run_q30 : Rn q30 hk30 := fun E => by kernel_rfl
end Go.Proofs.YtjfmelmiegnmjaaGreatDoor
