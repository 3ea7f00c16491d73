/- DeviceOnce: data and runs. -/
import Derived.Test.YtjfmelmiegnmjaaGreatDoorXOnXh
set_option linter.all false
open Go Go.Sx Go.Proofs
set_option linter.all false
namespace Go.Proofs.YtjfmelmiegnmjaaGreatDoor
set_option maxRecDepth 1000000
theorem run_q106 : Rn q106 hk106 := fun E => by kernel_rfl
theorem run_q109 : Rn q109 hk109 := fun E => by kernel_rfl
theorem run_q111 : Rn q111 hk111 := fun E => by kernel_rfl
theorem run_q38 : Rn q38 hk38 := fun E => by kernel_rfl
end Go.Proofs.YtjfmelmiegnmjaaGreatDoor
