/- DeviceOnce: data and runs. -/
import Derived.Test.YtjfmelmiegnmjaaGreatDoorXOnXh
set_option linter.all false
open Go Go.Sx Go.Proofs
set_option linter.all false
namespace Go.Proofs.YtjfmelmiegnmjaaGreatDoor
set_option maxRecDepth 1000000
theorem run_q31 : Rn q31 hk31 := fun E => by kernel_rfl
theorem run_q34 : Rn q34 hk34 := fun E => by kernel_rfl
theorem run_q36 : Rn q36 hk36 := fun E => by kernel_rfl
theorem run_q199 : Rn q199 hk199 := fun E => by kernel_rfl
end Go.Proofs.YtjfmelmiegnmjaaGreatDoor
