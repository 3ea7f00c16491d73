/- DeviceOnce: data and runs. -/
import Derived.Test.YtjfmelmiegnmjaaGreatDoorXOnXh
set_option linter.all false
open Go Go.Sx Go.Proofs
set_option linter.all false
namespace Go.Proofs.YtjfmelmiegnmjaaGreatDoor
set_option maxRecDepth 1000000
theorem run_q255 : Rn q255 hk255 := fun E => by kernel_rfl
theorem run_q89 : Rn q89 hk89 := fun E => by kernel_rfl
theorem run_q108 : Rn q108 hk108 := fun E => by kernel_rfl
theorem run_q21 : Rn q21 hk21 := fun E => by kernel_rfl
theorem run_q39 : Rn q39 hk39 := fun E => by kernel_rfl
theorem run_q57 : Rn q57 hk57 := fun E => by kernel_rfl
theorem run_q76 : Rn q76 hk76 := fun E => by kernel_rfl
theorem run_q127 : Rn q127 hk127 := fun E => by kernel_rfl
theorem run_q138 : Rn q138 hk138 := fun E => by kernel_rfl
theorem run_q149 : Rn q149 hk149 := fun E => by kernel_rfl
theorem run_q6 : Rn q6 hk6 := fun E => by kernel_rfl
end Go.Proofs.YtjfmelmiegnmjaaGreatDoor
