/- DeviceOnce: data and runs. -/
import Derived.Test.YtjfmelmiegnmjaaGreatDoorXOnXh
set_option linter.all false
open Go Go.Sx Go.Proofs
set_option linter.all false
namespace Go.Proofs.YtjfmelmiegnmjaaGreatDoor
set_option maxRecDepth 1000000
theorem run_q117 : Rn q117 hk117 := fun E => by kernel_rfl
theorem run_q97 : Rn q97 hk97 := fun E => by kernel_rfl
theorem run_q116 : Rn q116 hk116 := fun E => by kernel_rfl
theorem run_q96 : Rn q96 hk96 := fun E => by kernel_rfl
theorem run_q115 : Rn q115 hk115 := fun E => by kernel_rfl
theorem run_q24 : Rn q24 hk24 := fun E => by kernel_rfl
theorem run_q42 : Rn q42 hk42 := fun E => by kernel_rfl
theorem run_q60 : Rn q60 hk60 := fun E => by kernel_rfl
end Go.Proofs.YtjfmelmiegnmjaaGreatDoor
