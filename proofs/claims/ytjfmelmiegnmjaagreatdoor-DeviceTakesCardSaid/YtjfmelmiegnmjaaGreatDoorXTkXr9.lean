/- DeviceTakes: data and runs. -/
import Derived.Test.YtjfmelmiegnmjaaGreatDoorXTkXh
set_option linter.all false
open Go Go.Sx Go.Proofs
set_option linter.all false
namespace Go.Proofs.YtjfmelmiegnmjaaGreatDoor
set_option maxRecDepth 1000000
theorem run_q54 : Rn q54 hk54 := fun E => by kernel_rfl
theorem run_q7 : Rn q7 hk7 := fun E => by kernel_rfl
theorem run_q3 : Rn q3 hk3 := fun E => by kernel_rfl
theorem run_q11 : Rn q11 hk11 := fun E => by kernel_rfl
theorem run_q20 : Rn q20 hk20 := fun E => by kernel_rfl
theorem run_q6 : Rn q6 hk6 := fun E => by kernel_rfl
theorem run_q10 : Rn q10 hk10 := fun E => by kernel_rfl
theorem run_q14 : Rn q14 hk14 := fun E => by kernel_rfl
theorem run_q4 : Rn q4 hk4 := fun E => by kernel_rfl
theorem run_q8 : Rn q8 hk8 := fun E => by kernel_rfl
theorem run_q12 : Rn q12 hk12 := fun E => by kernel_rfl
theorem run_q34 : Rn q34 hk34 := fun E => by kernel_rfl
theorem run_q42 : Rn q42 hk42 := fun E => by kernel_rfl
theorem run_q67 : Rn q67 hk67 := fun E => by kernel_rfl
end Go.Proofs.YtjfmelmiegnmjaaGreatDoor
