/- DeviceOnce: data and runs. -/
import Derived.Test.YtjfmelmiegnmjaaGreatDoorXOnXh
set_option linter.all false
open Go Go.Sx Go.Proofs
set_option linter.all false
namespace Go.Proofs.YtjfmelmiegnmjaaGreatDoor
set_option maxRecDepth 1000000
theorem run_q166 : Rn q166 hk166 := fun E => by kernel_rfl
theorem run_q167 : Rn q167 hk167 := fun E => by kernel_rfl
theorem run_q178 : Rn q178 hk178 := fun E => by kernel_rfl
theorem run_q179 : Rn q179 hk179 := fun E => by kernel_rfl
theorem run_q190 : Rn q190 hk190 := fun E => by kernel_rfl
theorem run_q191 : Rn q191 hk191 := fun E => by kernel_rfl
theorem run_q233 : Rn q233 hk233 := fun E => by kernel_rfl
theorem run_q234 : Rn q234 hk234 := fun E => by kernel_rfl
theorem run_q238 : Rn q238 hk238 := fun E => by kernel_rfl
theorem run_q239 : Rn q239 hk239 := fun E => by kernel_rfl
theorem run_q244 : Rn q244 hk244 := fun E => by kernel_rfl
theorem run_q245 : Rn q245 hk245 := fun E => by kernel_rfl
theorem run_q226 : Rn q226 hk226 := fun E => by kernel_rfl
theorem run_q227 : Rn q227 hk227 := fun E => by kernel_rfl
theorem run_q231 : Rn q231 hk231 := fun E => by kernel_rfl
theorem run_q232 : Rn q232 hk232 := fun E => by kernel_rfl
theorem run_q236 : Rn q236 hk236 := fun E => by kernel_rfl
theorem run_q237 : Rn q237 hk237 := fun E => by kernel_rfl
end Go.Proofs.YtjfmelmiegnmjaaGreatDoor
