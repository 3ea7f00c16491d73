/- DeviceOnce: data and runs. -/
import Derived.Test.YtjfmelmiegnmjaaGreatDoorXOnXh
set_option linter.all false
open Go Go.Sx Go.Proofs
set_option linter.all false
namespace Go.Proofs.YtjfmelmiegnmjaaGreatDoor
set_option maxRecDepth 1000000
theorem run_q79 : Rn q79 hk79 := fun E => by kernel_rfl
theorem run_q100 : Rn q100 hk100 := fun E => by kernel_rfl
theorem run_q119 : Rn q119 hk119 := fun E => by kernel_rfl
theorem run_q25 : Rn q25 hk25 := fun E => by kernel_rfl
theorem run_q26 : Rn q26 hk26 := fun E => by kernel_rfl
theorem run_q27 : Rn q27 hk27 := fun E => by kernel_rfl
theorem run_q43 : Rn q43 hk43 := fun E => by kernel_rfl
theorem run_q44 : Rn q44 hk44 := fun E => by kernel_rfl
theorem run_q102 : Rn q102 hk102 := fun E => by kernel_rfl
end Go.Proofs.YtjfmelmiegnmjaaGreatDoor
