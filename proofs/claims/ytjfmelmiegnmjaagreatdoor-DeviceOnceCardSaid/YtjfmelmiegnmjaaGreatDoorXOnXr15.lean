/- DeviceOnce: data and runs. -/
import Derived.Test.YtjfmelmiegnmjaaGreatDoorXOnXh
set_option linter.all false
open Go Go.Sx Go.Proofs
set_option linter.all false
namespace Go.Proofs.YtjfmelmiegnmjaaGreatDoor
set_option maxRecDepth 1000000
theorem run_q58 : Rn q58 hk58 := fun E => by kernel_rfl
theorem run_q59 : Rn q59 hk59 := fun E => by kernel_rfl
theorem run_q77 : Rn q77 hk77 := fun E => by kernel_rfl
theorem run_q78 : Rn q78 hk78 := fun E => by kernel_rfl
theorem run_q48 : Rn q48 hk48 := fun E => by kernel_rfl
theorem run_q67 : Rn q67 hk67 := fun E => by kernel_rfl
theorem run_q228 : Rn q228 hk228 := fun E => by kernel_rfl
end Go.Proofs.YtjfmelmiegnmjaaGreatDoor
