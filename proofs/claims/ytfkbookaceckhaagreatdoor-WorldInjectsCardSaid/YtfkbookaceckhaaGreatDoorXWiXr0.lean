/- WorldInjects: data and runs. -/
import Derived.Test.YtfkbookaceckhaaGreatDoorXWiXh
set_option linter.all false
open Go Go.Sx Go.Proofs
set_option linter.all false
namespace Go.Proofs.YtfkbookaceckhaaGreatDoor
set_option maxRecDepth 1000000
theorem run_q15 : Rn q15 hk15 := fun E => by kernel_rfl
theorem run_q17 : Rn q17 hk17 := fun E => by kernel_rfl
theorem run_q0 : Rn q0 hk0 := fun E => by kernel_rfl
end Go.Proofs.YtfkbookaceckhaaGreatDoor
