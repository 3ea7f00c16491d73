/- DeviceOnce: data and runs. -/
import Derived.Test.YtjfmelmiegnmjaaGreatDoorXOnXh
set_option linter.all false
open Go Go.Sx Go.Proofs
set_option linter.all false
namespace Go.Proofs.YtjfmelmiegnmjaaGreatDoor
set_option maxRecDepth 1000000
theorem run_q120 : Rn q120 hk120 := fun E => by kernel_rfl
theorem run_q55 : Rn q55 hk55 := fun E => by kernel_rfl
theorem run_q74 : Rn q74 hk74 := fun E => by kernel_rfl
theorem run_q114 : Rn q114 hk114 := fun E => by kernel_rfl
theorem run_q173 : Rn q173 hk173 := fun E => by kernel_rfl
theorem run_q185 : Rn q185 hk185 := fun E => by kernel_rfl
theorem run_q7 : Rn q7 hk7 := fun E => by kernel_rfl
theorem run_q3 : Rn q3 hk3 := fun E => by kernel_rfl
theorem run_q93 : Rn q93 hk93 := fun E => by kernel_rfl
end Go.Proofs.YtjfmelmiegnmjaaGreatDoor
