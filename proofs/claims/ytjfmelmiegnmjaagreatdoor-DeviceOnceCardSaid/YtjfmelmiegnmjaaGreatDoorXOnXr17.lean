/- DeviceOnce: data and runs. -/
import Derived.Test.YtjfmelmiegnmjaaGreatDoorXOnXh
set_option linter.all false
open Go Go.Sx Go.Proofs
set_option linter.all false
namespace Go.Proofs.YtjfmelmiegnmjaaGreatDoor
set_option maxRecDepth 1000000
theorem run_q85 : Rn q85 hk85 := fun E => by kernel_rfl
theorem run_q104 : Rn q104 hk104 := fun E => by kernel_rfl
theorem run_q5 : Rn q5 hk5 := fun E => by kernel_rfl
theorem run_q9 : Rn q9 hk9 := fun E => by kernel_rfl
theorem run_q99 : Rn q99 hk99 := fun E => by kernel_rfl
theorem run_q118 : Rn q118 hk118 := fun E => by kernel_rfl
theorem run_q98 : Rn q98 hk98 := fun E => by kernel_rfl
theorem run_q95 : Rn q95 hk95 := fun E => by kernel_rfl
end Go.Proofs.YtjfmelmiegnmjaaGreatDoor
