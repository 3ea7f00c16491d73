/- Closed facts of the card of DeviceStale, part 0: written by a program of ours. -/
import Derived.Test.YtjfmelmiegnmjaaGreatDoorRows
import Derived.Test.YtjfmelmiegnmjaaGreatDoorCards
import Derived.SevenTiedAt
import Derived.KernelRfl
set_option linter.all false
namespace Go.Proofs.YtjfmelmiegnmjaaGreatDoor.deviceStale
open Go
set_option maxRecDepth 100000
theorem c1 : Rows.deviceStaleRow.wfByText (OpenSpec.ofChange Rows.deviceStaleSpec) = true := by kernel_rfl
theorem c3 : Tryz.prog.funcNamed Rows.deviceStaleRow.func = some 6 := by kernel_rfl
theorem c5 : ([5, 47, 47].all fun u => !Tryz.prog.wantsStandIn u) = true := by kernel_rfl
end Go.Proofs.YtjfmelmiegnmjaaGreatDoor.deviceStale
