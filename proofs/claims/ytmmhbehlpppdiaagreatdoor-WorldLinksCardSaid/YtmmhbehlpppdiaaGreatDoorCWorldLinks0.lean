/- Closed facts of the card of WorldLinks, part 0: written by a program of ours. -/
import Derived.Test.YtmmhbehlpppdiaaGreatDoorRows
import Derived.Test.YtmmhbehlpppdiaaGreatDoorCards
import Derived.SevenTiedAt
import Derived.KernelRfl
set_option linter.all false
namespace Go.Proofs.YtmmhbehlpppdiaaGreatDoor.worldLinks
open Go
set_option maxRecDepth 100000
theorem c1 : Rows.worldLinksRow.wfByText (OpenSpec.ofChange Rows.worldLinksSpec) = true := by kernel_rfl
theorem c3 : Tryz.prog.funcNamed Rows.worldLinksRow.func = some 3 := by kernel_rfl
theorem c5 : ([22].all fun u => !Tryz.prog.wantsStandIn u) = true := by kernel_rfl
end Go.Proofs.YtmmhbehlpppdiaaGreatDoor.worldLinks
