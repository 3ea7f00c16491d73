/- WorldInjects: data and runs. -/
import Derived.Test.YtfkbookaceckhaaGreatDoorXWiXh
set_option linter.all false
open Go Go.Sx Go.Proofs
set_option linter.all false
namespace Go.Proofs.YtfkbookaceckhaaGreatDoor
set_option maxRecDepth 1000000
theorem run_q1 : Rn q1 hk1 := fun E => by kernel_rfl
theorem run_q23 : Rn q23 hk23 := fun E => by kernel_rfl
theorem run_q27 : Rn q27 hk27 := fun E => by kernel_rfl
theorem run_q6 : Rn q6 hk6 := fun E => by kernel_rfl
theorem run_q9 : Rn q9 hk9 := fun E => by kernel_rfl
end Go.Proofs.YtfkbookaceckhaaGreatDoor
