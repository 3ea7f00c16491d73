/- DeviceTakes: data and runs. -/
import Derived.Test.YtjfmelmiegnmjaaGreatDoorXTkXh
set_option linter.all false
open Go Go.Sx Go.Proofs
set_option linter.all false
namespace Go.Proofs.YtjfmelmiegnmjaaGreatDoor
set_option maxRecDepth 1000000
theorem run_q0 : Rn q0 hk0 := fun E => by kernel_rfl
theorem run_q1 : Rn q1 hk1 := fun E => by kernel_rfl
theorem run_q24 : Rn q24 hk24 := fun E => by kernel_rfl
theorem run_q5 : Rn q5 hk5 := fun E => by kernel_rfl
end Go.Proofs.YtjfmelmiegnmjaaGreatDoor
