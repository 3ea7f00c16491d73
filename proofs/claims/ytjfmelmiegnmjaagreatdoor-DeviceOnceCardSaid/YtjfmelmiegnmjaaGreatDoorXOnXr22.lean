/- DeviceOnce: data and runs. -/
import Derived.Test.YtjfmelmiegnmjaaGreatDoorXOnXh
set_option linter.all false
open Go Go.Sx Go.Proofs
set_option linter.all false
namespace Go.Proofs.YtjfmelmiegnmjaaGreatDoor
set_option maxRecDepth 1000000
theorem run_q112 : Rn q112 hk112 := fun E => by kernel_rfl
theorem run_q216 : Rn q216 hk216 := fun E => by kernel_rfl
theorem run_q217 : Rn q217 hk217 := fun E => by kernel_rfl
theorem run_q222 : Rn q222 hk222 := fun E => by kernel_rfl
theorem run_q223 : Rn q223 hk223 := fun E => by kernel_rfl
theorem run_q214 : Rn q214 hk214 := fun E => by kernel_rfl
theorem run_q215 : Rn q215 hk215 := fun E => by kernel_rfl
theorem run_q220 : Rn q220 hk220 := fun E => by kernel_rfl
theorem run_q221 : Rn q221 hk221 := fun E => by kernel_rfl
theorem run_q15 : Rn q15 hk15 := fun E => by kernel_rfl
theorem run_q205 : Rn q205 hk205 := fun E => by kernel_rfl
end Go.Proofs.YtjfmelmiegnmjaaGreatDoor
