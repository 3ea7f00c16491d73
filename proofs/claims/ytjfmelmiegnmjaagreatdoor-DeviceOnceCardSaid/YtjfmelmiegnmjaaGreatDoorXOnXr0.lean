/- DeviceOnce: data and runs. -/
import Derived.Test.YtjfmelmiegnmjaaGreatDoorXOnXh
set_option linter.all false
open Go Go.Sx Go.Proofs
set_option linter.all false
namespace Go.Proofs.YtjfmelmiegnmjaaGreatDoor
set_option maxRecDepth 1000000
theorem run_q13 : Rn q13 hk13 := fun E => by kernel_rfl
theorem run_q16 : Rn q16 hk16 := fun E => by kernel_rfl
theorem run_q18 : Rn q18 hk18 := fun E => by kernel_rfl
theorem run_q195 : Rn q195 hk195 := fun E => by kernel_rfl
end Go.Proofs.YtjfmelmiegnmjaaGreatDoor
