/- Closed facts of the card of FairRaces, part 0: written by a program of ours. -/
import Derived.Test.YtapjommjopfbiaaGreatDoorRows
import Derived.Test.YtapjommjopfbiaaGreatDoorCards
import Derived.SevenTiedAt
import Derived.KernelRfl
set_option linter.all false
namespace Go.Proofs.YtapjommjopfbiaaGreatDoor.fairRaces
open Go
set_option maxRecDepth 100000
theorem c1 : Rows.fairRacesRow.wfByText (OpenSpec.ofChange Rows.fairRacesSpec) = true := by kernel_rfl
theorem c3 : Tryz.prog.funcNamed Rows.fairRacesRow.func = some 4 := by kernel_rfl
theorem c5 : ([5, 4].all fun u => !Tryz.prog.wantsStandIn u) = true := by kernel_rfl
end Go.Proofs.YtapjommjopfbiaaGreatDoor.fairRaces
