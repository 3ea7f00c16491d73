/- Closed facts of the card of WorldErrs, part 0: written by a program of ours. -/
import Derived.Test.YtadbbdnjcpaooaaGreatDoorRows
import Derived.Test.YtadbbdnjcpaooaaGreatDoorCards
import Derived.SevenTiedAt
import Derived.KernelRfl
set_option linter.all false
namespace Go.Proofs.YtadbbdnjcpaooaaGreatDoor.worldErrs
open Go
set_option maxRecDepth 100000
theorem c1 : Rows.worldErrsRow.wfByText (OpenSpec.ofChange Rows.worldErrsSpec) = true := by kernel_rfl
theorem c3 : Tryz.prog.funcNamed Rows.worldErrsRow.func = some 3 := by kernel_rfl
theorem c5 : ([25, 4].all fun u => !Tryz.prog.wantsStandIn u) = true := by kernel_rfl
end Go.Proofs.YtadbbdnjcpaooaaGreatDoor.worldErrs
