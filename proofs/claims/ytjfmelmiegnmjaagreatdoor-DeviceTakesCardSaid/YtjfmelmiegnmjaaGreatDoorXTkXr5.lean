/- DeviceTakes: data and runs. -/
import Derived.Test.YtjfmelmiegnmjaaGreatDoorXTkXh
set_option linter.all false
open Go Go.Sx Go.Proofs
set_option linter.all false
namespace Go.Proofs.YtjfmelmiegnmjaaGreatDoor
set_option maxRecDepth 1000000
theorem run_q31 : Rn q31 hk31 := fun E => by kernel_rfl
theorem run_q39 : Rn q39 hk39 := fun E => by kernel_rfl
theorem run_q46 : Rn q46 hk46 := fun E => by kernel_rfl
theorem run_q17 : Rn q17 hk17 := fun E => by kernel_rfl
theorem run_q43 : Rn q43 hk43 := fun E => by kernel_rfl
end Go.Proofs.YtjfmelmiegnmjaaGreatDoor
