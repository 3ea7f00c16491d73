/- Closed facts of the card of DeviceSends, part 0: written by a program of ours. -/
import Derived.Test.YtjfmelmiegnmjaaGreatDoorRows
import Derived.Test.YtjfmelmiegnmjaaGreatDoorCards
import Derived.SevenTiedAt
import Derived.KernelRfl
set_option linter.all false
namespace Go.Proofs.YtjfmelmiegnmjaaGreatDoor.deviceSends
open Go
set_option maxRecDepth 100000
theorem c1 : Rows.deviceSendsRow.wfByText (OpenSpec.ofChange Rows.deviceSendsSpec) = true := by kernel_rfl
theorem c3 : Tryz.prog.funcNamed Rows.deviceSendsRow.func = some 5 := by kernel_rfl
theorem c5 : ([5, 3, 50].all fun u => !Tryz.prog.wantsStandIn u) = true := by kernel_rfl
end Go.Proofs.YtjfmelmiegnmjaaGreatDoor.deviceSends
