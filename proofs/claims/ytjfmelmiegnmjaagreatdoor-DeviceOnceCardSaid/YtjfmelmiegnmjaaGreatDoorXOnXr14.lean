/- DeviceOnce: data and runs. -/
import Derived.Test.YtjfmelmiegnmjaaGreatDoorXOnXh
set_option linter.all false
open Go Go.Sx Go.Proofs
set_option linter.all false
namespace Go.Proofs.YtjfmelmiegnmjaaGreatDoor
set_option maxRecDepth 1000000
theorem run_q171 : Rn q171 hk171 := fun E => by kernel_rfl
theorem run_q183 : Rn q183 hk183 := fun E => by kernel_rfl
theorem run_q23 : Rn q23 hk23 := fun E => by kernel_rfl
theorem run_q40 : Rn q40 hk40 := fun E => by kernel_rfl
theorem run_q41 : Rn q41 hk41 := fun E => by kernel_rfl
theorem run_q37 : Rn q37 hk37 := fun E => by kernel_rfl
end Go.Proofs.YtjfmelmiegnmjaaGreatDoor
