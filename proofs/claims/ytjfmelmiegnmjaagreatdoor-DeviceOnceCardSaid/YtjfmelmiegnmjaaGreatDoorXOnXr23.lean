/- DeviceOnce: data and runs. -/
import Derived.Test.YtjfmelmiegnmjaaGreatDoorXOnXh
set_option linter.all false
open Go Go.Sx Go.Proofs
set_option linter.all false
namespace Go.Proofs.YtjfmelmiegnmjaaGreatDoor
set_option maxRecDepth 1000000
theorem run_q33 : Rn q33 hk33 := fun E => by kernel_rfl
theorem run_q51 : Rn q51 hk51 := fun E => by kernel_rfl
theorem run_q70 : Rn q70 hk70 := fun E => by kernel_rfl
theorem run_q250 : Rn q250 hk250 := fun E => by kernel_rfl
theorem run_q251 : Rn q251 hk251 := fun E => by kernel_rfl
theorem run_q256 : Rn q256 hk256 := fun E => by kernel_rfl
theorem run_q257 : Rn q257 hk257 := fun E => by kernel_rfl
theorem run_q248 : Rn q248 hk248 := fun E => by kernel_rfl
theorem run_q249 : Rn q249 hk249 := fun E => by kernel_rfl
theorem run_q254 : Rn q254 hk254 := fun E => by kernel_rfl
theorem run_q229 : Rn q229 hk229 := fun E => by kernel_rfl
end Go.Proofs.YtjfmelmiegnmjaaGreatDoor
