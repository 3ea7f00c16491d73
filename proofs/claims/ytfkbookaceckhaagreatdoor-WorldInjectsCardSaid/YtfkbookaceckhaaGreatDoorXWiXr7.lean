/- WorldInjects: data and runs. -/
import Derived.Test.YtfkbookaceckhaaGreatDoorXWiXh
set_option linter.all false
open Go Go.Sx Go.Proofs
set_option linter.all false
namespace Go.Proofs.YtfkbookaceckhaaGreatDoor
set_option maxRecDepth 1000000
theorem run_q34 : Rn q34 hk34 := fun E => by kernel_rfl
theorem run_q33 : Rn q33 hk33 := fun E => by kernel_rfl
theorem run_q35 : Rn q35 hk35 := fun E => by kernel_rfl
theorem run_q36 : Rn q36 hk36 := fun E => by kernel_rfl
end Go.Proofs.YtfkbookaceckhaaGreatDoor
