/- DeviceOnce: data and runs. -/
import Derived.Test.YtjfmelmiegnmjaaGreatDoorXOnXh
set_option linter.all false
open Go Go.Sx Go.Proofs
set_option linter.all false
namespace Go.Proofs.YtjfmelmiegnmjaaGreatDoor
set_option maxRecDepth 1000000
theorem run_q170 : Rn q170 hk170 := fun E => by kernel_rfl
theorem run_q182 : Rn q182 hk182 := fun E => by kernel_rfl
theorem run_q125 : Rn q125 hk125 := fun E => by kernel_rfl
theorem run_q136 : Rn q136 hk136 := fun E => by kernel_rfl
end Go.Proofs.YtjfmelmiegnmjaaGreatDoor
