/- DeviceOnce: data and runs. -/
import Derived.Test.YtjfmelmiegnmjaaGreatDoorXOnXh
set_option linter.all false
open Go Go.Sx Go.Proofs
set_option linter.all false
namespace Go.Proofs.YtjfmelmiegnmjaaGreatDoor
set_option maxRecDepth 1000000
theorem run_q45 : Rn q45 hk45 := fun E => by kernel_rfl
theorem run_q61 : Rn q61 hk61 := fun E => by kernel_rfl
theorem run_q62 : Rn q62 hk62 := fun E => by kernel_rfl
theorem run_q63 : Rn q63 hk63 := fun E => by kernel_rfl
theorem run_q80 : Rn q80 hk80 := fun E => by kernel_rfl
theorem run_q81 : Rn q81 hk81 := fun E => by kernel_rfl
theorem run_q82 : Rn q82 hk82 := fun E => by kernel_rfl
theorem run_q101 : Rn q101 hk101 := fun E => by kernel_rfl
theorem run_q28 : Rn q28 hk28 := fun E => by kernel_rfl
end Go.Proofs.YtjfmelmiegnmjaaGreatDoor
