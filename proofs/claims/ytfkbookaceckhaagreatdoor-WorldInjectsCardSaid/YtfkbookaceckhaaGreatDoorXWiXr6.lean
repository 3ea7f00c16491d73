/- WorldInjects: data and runs. -/
import Derived.Test.YtfkbookaceckhaaGreatDoorXWiXh
set_option linter.all false
open Go Go.Sx Go.Proofs
set_option linter.all false
namespace Go.Proofs.YtfkbookaceckhaaGreatDoor
set_option maxRecDepth 1000000
theorem run_q11 : Rn q11 hk11 := fun E => by kernel_rfl
theorem run_q4 : Rn q4 hk4 := fun E => by kernel_rfl
theorem run_q26 : Rn q26 hk26 := fun E => by kernel_rfl
theorem run_q7 : Rn q7 hk7 := fun E => by kernel_rfl
theorem run_q10 : Rn q10 hk10 := fun E => by kernel_rfl
theorem run_q31 : Rn q31 hk31 := fun E => by kernel_rfl
theorem run_q8 : Rn q8 hk8 := fun E => by kernel_rfl
theorem run_q5 : Rn q5 hk5 := fun E => by kernel_rfl
end Go.Proofs.YtfkbookaceckhaaGreatDoor
