/- DeviceTakes: data and runs. -/
import Derived.Test.YtjfmelmiegnmjaaGreatDoorXTkXh
set_option linter.all false
open Go Go.Sx Go.Proofs
set_option linter.all false
namespace Go.Proofs.YtjfmelmiegnmjaaGreatDoor
set_option maxRecDepth 1000000
theorem run_q52 : Rn q52 hk52 := fun E => by kernel_rfl
theorem run_q47 : Rn q47 hk47 := fun E => by kernel_rfl
theorem run_q53 : Rn q53 hk53 := fun E => by kernel_rfl
theorem run_q60 : Rn q60 hk60 := fun E => by kernel_rfl
theorem run_q71 : Rn q71 hk71 := fun E => by kernel_rfl
theorem run_q36 : Rn q36 hk36 := fun E => by kernel_rfl
end Go.Proofs.YtjfmelmiegnmjaaGreatDoor
