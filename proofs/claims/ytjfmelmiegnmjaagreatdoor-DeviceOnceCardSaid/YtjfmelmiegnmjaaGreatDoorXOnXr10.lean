/- DeviceOnce: data and runs. -/
import Derived.Test.YtjfmelmiegnmjaaGreatDoorXOnXh
set_option linter.all false
open Go Go.Sx Go.Proofs
set_option linter.all false
namespace Go.Proofs.YtjfmelmiegnmjaaGreatDoor
set_option maxRecDepth 1000000
theorem run_q17 : Rn q17 hk17 := fun E => by kernel_rfl
theorem run_q35 : Rn q35 hk35 := fun E => by kernel_rfl
theorem run_q53 : Rn q53 hk53 := fun E => by kernel_rfl
theorem run_q12 : Rn q12 hk12 := fun E => by kernel_rfl
end Go.Proofs.YtjfmelmiegnmjaaGreatDoor
