/- Closed facts of the card of WorldTime, part 0: written by a program of ours. -/
import Derived.Test.YtdkcmjifkhcfcaaGreatDoorRows
import Derived.Test.YtdkcmjifkhcfcaaGreatDoorCards
import Derived.SevenTiedAt
import Derived.KernelRfl
set_option linter.all false
namespace Go.Proofs.YtdkcmjifkhcfcaaGreatDoor.worldTime
open Go
set_option maxRecDepth 100000
theorem c1 : Rows.worldTimeRow.wfByText (OpenSpec.ofChange Rows.worldTimeSpec) = true := by kernel_rfl
theorem c3 : Tryz.prog.funcNamed Rows.worldTimeRow.func = some 3 := by kernel_rfl
theorem c5 : ([22].all fun u => !Tryz.prog.wantsStandIn u) = true := by kernel_rfl
end Go.Proofs.YtdkcmjifkhcfcaaGreatDoor.worldTime
