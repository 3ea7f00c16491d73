/- DeviceOnce: data and runs. -/
import Derived.Test.YtjfmelmiegnmjaaGreatDoorXOnXh
set_option linter.all false
open Go Go.Sx Go.Proofs
set_option linter.all false
namespace Go.Proofs.YtjfmelmiegnmjaaGreatDoor
set_option maxRecDepth 1000000
theorem run_q49 : Rn q49 hk49 := fun E => by kernel_rfl
theorem run_q52 : Rn q52 hk52 := fun E => by kernel_rfl
theorem run_q54 : Rn q54 hk54 := fun E => by kernel_rfl
theorem run_q200 : Rn q200 hk200 := fun E => by kernel_rfl
end Go.Proofs.YtjfmelmiegnmjaaGreatDoor
