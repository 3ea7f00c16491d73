/- DeviceTakes: data and runs. -/
import Derived.Test.YtjfmelmiegnmjaaGreatDoorXTkXh
set_option linter.all false
open Go Go.Sx Go.Proofs
set_option linter.all false
namespace Go.Proofs.YtjfmelmiegnmjaaGreatDoor
set_option maxRecDepth 1000000
theorem run_q18 : Rn q18 hk18 := fun E => by kernel_rfl
theorem run_q23 : Rn q23 hk23 := fun E => by kernel_rfl
theorem run_q25 : Rn q25 hk25 := fun E => by kernel_rfl
theorem run_q21 : Rn q21 hk21 := fun E => by kernel_rfl
theorem run_q58 : Rn q58 hk58 := fun E => by kernel_rfl
end Go.Proofs.YtjfmelmiegnmjaaGreatDoor
