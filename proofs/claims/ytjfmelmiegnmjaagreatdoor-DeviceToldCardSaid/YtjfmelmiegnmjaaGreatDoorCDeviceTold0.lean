/- Closed facts of the card of DeviceTold, part 0: written by a program of ours. -/
import Derived.Test.YtjfmelmiegnmjaaGreatDoorRows
import Derived.Test.YtjfmelmiegnmjaaGreatDoorCards
import Derived.SevenTiedAt
import Derived.KernelRfl
set_option linter.all false
namespace Go.Proofs.YtjfmelmiegnmjaaGreatDoor.deviceTold
open Go
set_option maxRecDepth 100000
theorem c1 : Rows.deviceToldRow.wfByText (OpenSpec.ofChange Rows.deviceToldSpec) = true := by kernel_rfl
theorem c3 : Tryz.prog.funcNamed Rows.deviceToldRow.func = some 3 := by kernel_rfl
theorem c5 : ([5, 5, 4, 30].all fun u => !Tryz.prog.wantsStandIn u) = true := by kernel_rfl
end Go.Proofs.YtjfmelmiegnmjaaGreatDoor.deviceTold
