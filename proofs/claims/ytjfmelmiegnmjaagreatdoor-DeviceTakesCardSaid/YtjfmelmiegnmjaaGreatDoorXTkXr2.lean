/- DeviceTakes: data and runs. -/
import Derived.Test.YtjfmelmiegnmjaaGreatDoorXTkXh
set_option linter.all false
open Go Go.Sx Go.Proofs
set_option linter.all false
namespace Go.Proofs.YtjfmelmiegnmjaaGreatDoor
set_option maxRecDepth 1000000
theorem run_q45 : Rn q45 hk45 := fun E => by kernel_rfl
theorem run_q51 : Rn q51 hk51 := fun E => by kernel_rfl
theorem run_q40 : Rn q40 hk40 := fun E => by kernel_rfl
theorem run_q35 : Rn q35 hk35 := fun E => by kernel_rfl
theorem run_q66 : Rn q66 hk66 := fun E => by kernel_rfl
theorem run_q44 : Rn q44 hk44 := fun E => by kernel_rfl
theorem run_q50 : Rn q50 hk50 := fun E => by kernel_rfl
theorem run_q59 : Rn q59 hk59 := fun E => by kernel_rfl
theorem run_q63 : Rn q63 hk63 := fun E => by kernel_rfl
end Go.Proofs.YtjfmelmiegnmjaaGreatDoor
