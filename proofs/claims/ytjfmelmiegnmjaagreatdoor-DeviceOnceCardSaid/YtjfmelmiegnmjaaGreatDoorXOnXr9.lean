/- DeviceOnce: data and runs. -/
import Derived.Test.YtjfmelmiegnmjaaGreatDoorXOnXh
set_option linter.all false
open Go Go.Sx Go.Proofs
set_option linter.all false
namespace Go.Proofs.YtjfmelmiegnmjaaGreatDoor
set_option maxRecDepth 1000000
theorem run_q146 : Rn q146 hk146 := fun E => by kernel_rfl
theorem run_q158 : Rn q158 hk158 := fun E => by kernel_rfl
theorem run_q1 : Rn q1 hk1 := fun E => by kernel_rfl
theorem run_q19 : Rn q19 hk19 := fun E => by kernel_rfl
end Go.Proofs.YtjfmelmiegnmjaaGreatDoor
