/- DeviceOnce: data and runs. -/
import Derived.Test.YtjfmelmiegnmjaaGreatDoorXOnXh
set_option linter.all false
open Go Go.Sx Go.Proofs
set_option linter.all false
namespace Go.Proofs.YtjfmelmiegnmjaaGreatDoor
set_option maxRecDepth 1000000
theorem run_q68 : Rn q68 hk68 := fun E => by kernel_rfl
theorem run_q71 : Rn q71 hk71 := fun E => by kernel_rfl
theorem run_q73 : Rn q73 hk73 := fun E => by kernel_rfl
theorem run_q204 : Rn q204 hk204 := fun E => by kernel_rfl
end Go.Proofs.YtjfmelmiegnmjaaGreatDoor
