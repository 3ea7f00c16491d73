/- Closed facts of the card of WorldNil, part 0: written by a program of ours. -/
import Derived.Test.YtdkcmjifkhcfcaaGreatDoorRows
import Derived.Test.YtdkcmjifkhcfcaaGreatDoorCards
import Derived.SevenTiedAt
import Derived.KernelRfl
set_option linter.all false
namespace Go.Proofs.YtdkcmjifkhcfcaaGreatDoor.worldNil
open Go
set_option maxRecDepth 100000
theorem c1 : Rows.worldNilRow.wfByText (OpenSpec.ofChange Rows.worldNilSpec) = true := by kernel_rfl
theorem c3 : Tryz.prog.funcNamed Rows.worldNilRow.func = some 4 := by kernel_rfl
theorem c5 : ([5, 31, 3].all fun u => !Tryz.prog.wantsStandIn u) = true := by kernel_rfl
end Go.Proofs.YtdkcmjifkhcfcaaGreatDoor.worldNil
