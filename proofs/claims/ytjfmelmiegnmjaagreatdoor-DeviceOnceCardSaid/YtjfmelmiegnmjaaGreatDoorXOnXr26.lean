/- DeviceOnce: data and runs. -/
import Derived.Test.YtjfmelmiegnmjaaGreatDoorXOnXh
set_option linter.all false
open Go Go.Sx Go.Proofs
set_option linter.all false
namespace Go.Proofs.YtjfmelmiegnmjaaGreatDoor
set_option maxRecDepth 1000000
theorem run_q186 : Rn q186 hk186 := fun E => by kernel_rfl
theorem run_q187 : Rn q187 hk187 := fun E => by kernel_rfl
theorem run_q130 : Rn q130 hk130 := fun E => by kernel_rfl
theorem run_q131 : Rn q131 hk131 := fun E => by kernel_rfl
theorem run_q132 : Rn q132 hk132 := fun E => by kernel_rfl
theorem run_q133 : Rn q133 hk133 := fun E => by kernel_rfl
theorem run_q141 : Rn q141 hk141 := fun E => by kernel_rfl
theorem run_q142 : Rn q142 hk142 := fun E => by kernel_rfl
theorem run_q143 : Rn q143 hk143 := fun E => by kernel_rfl
theorem run_q144 : Rn q144 hk144 := fun E => by kernel_rfl
theorem run_q152 : Rn q152 hk152 := fun E => by kernel_rfl
theorem run_q153 : Rn q153 hk153 := fun E => by kernel_rfl
theorem run_q154 : Rn q154 hk154 := fun E => by kernel_rfl
theorem run_q155 : Rn q155 hk155 := fun E => by kernel_rfl
theorem run_q164 : Rn q164 hk164 := fun E => by kernel_rfl
theorem run_q165 : Rn q165 hk165 := fun E => by kernel_rfl
end Go.Proofs.YtjfmelmiegnmjaaGreatDoor
