/- WorldInjects: data and runs. -/
import Derived.Test.YtfkbookaceckhaaGreatDoorXWiXh
set_option linter.all false
open Go Go.Sx Go.Proofs
set_option linter.all false
namespace Go.Proofs.YtfkbookaceckhaaGreatDoor
set_option maxRecDepth 1000000
theorem run_q2 : Rn q2 hk2 := fun E => by kernel_rfl
theorem run_q24 : Rn q24 hk24 := fun E => by kernel_rfl
theorem run_q18 : Rn q18 hk18 := fun E => by kernel_rfl
end Go.Proofs.YtfkbookaceckhaaGreatDoor
