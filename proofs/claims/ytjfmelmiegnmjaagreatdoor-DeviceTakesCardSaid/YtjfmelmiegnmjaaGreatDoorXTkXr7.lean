/- DeviceTakes: data and runs. -/
import Derived.Test.YtjfmelmiegnmjaaGreatDoorXTkXh
set_option linter.all false
open Go Go.Sx Go.Proofs
set_option linter.all false
namespace Go.Proofs.YtjfmelmiegnmjaaGreatDoor
set_option maxRecDepth 1000000
theorem run_q64 : Rn q64 hk64 := fun E => by kernel_rfl
theorem run_q69 : Rn q69 hk69 := fun E => by kernel_rfl
theorem run_q73 : Rn q73 hk73 := fun E => by kernel_rfl
theorem run_q76 : Rn q76 hk76 := fun E => by kernel_rfl
theorem run_q16 : Rn q16 hk16 := fun E => by kernel_rfl
end Go.Proofs.YtjfmelmiegnmjaaGreatDoor
