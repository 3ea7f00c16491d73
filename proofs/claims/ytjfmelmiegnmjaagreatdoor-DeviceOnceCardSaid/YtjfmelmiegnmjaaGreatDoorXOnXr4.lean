/- DeviceOnce: data and runs. -/
import Derived.Test.YtjfmelmiegnmjaaGreatDoorXOnXh
set_option linter.all false
open Go Go.Sx Go.Proofs
set_option linter.all false
namespace Go.Proofs.YtjfmelmiegnmjaaGreatDoor
set_option maxRecDepth 1000000
theorem run_q87 : Rn q87 hk87 := fun E => by kernel_rfl
theorem run_q90 : Rn q90 hk90 := fun E => by kernel_rfl
theorem run_q92 : Rn q92 hk92 := fun E => by kernel_rfl
theorem run_q20 : Rn q20 hk20 := fun E => by kernel_rfl
end Go.Proofs.YtjfmelmiegnmjaaGreatDoor
