/- WorldInjects: data and runs. -/
import Derived.Test.YtfkbookaceckhaaGreatDoorXWiXh
set_option linter.all false
open Go Go.Sx Go.Proofs
set_option linter.all false
namespace Go.Proofs.YtfkbookaceckhaaGreatDoor
set_option maxRecDepth 1000000
theorem run_q22 : Rn q22 hk22 := fun E => by kernel_rfl
theorem run_q19 : Rn q19 hk19 := fun E => by kernel_rfl
theorem run_q3 : Rn q3 hk3 := fun E => by kernel_rfl
theorem run_q25 : Rn q25 hk25 := fun E => by kernel_rfl
end Go.Proofs.YtfkbookaceckhaaGreatDoor
