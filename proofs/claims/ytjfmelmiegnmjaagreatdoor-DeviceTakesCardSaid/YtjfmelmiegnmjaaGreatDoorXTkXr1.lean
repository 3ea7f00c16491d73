/- DeviceTakes: data and runs. -/
import Derived.Test.YtjfmelmiegnmjaaGreatDoorXTkXh
set_option linter.all false
open Go Go.Sx Go.Proofs
set_option linter.all false
namespace Go.Proofs.YtjfmelmiegnmjaaGreatDoor
set_option maxRecDepth 1000000
theorem run_q30 : Rn q30 hk30 := fun E => by kernel_rfl
theorem run_q38 : Rn q38 hk38 := fun E => by kernel_rfl
theorem run_q32 : Rn q32 hk32 := fun E => by kernel_rfl
theorem run_q28 : Rn q28 hk28 := fun E => by kernel_rfl
theorem run_q62 : Rn q62 hk62 := fun E => by kernel_rfl
theorem run_q22 : Rn q22 hk22 := fun E => by kernel_rfl
theorem run_q29 : Rn q29 hk29 := fun E => by kernel_rfl
theorem run_q37 : Rn q37 hk37 := fun E => by kernel_rfl
end Go.Proofs.YtjfmelmiegnmjaaGreatDoor
