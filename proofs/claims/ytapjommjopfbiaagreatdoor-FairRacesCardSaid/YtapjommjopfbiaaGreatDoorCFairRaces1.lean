/- Closed facts of the card of FairRaces, part 1: written by a program of ours. -/
import Derived.Test.YtapjommjopfbiaaGreatDoorRows
import Derived.Test.YtapjommjopfbiaaGreatDoorCards
import Derived.SevenTiedAt
import Derived.KernelRfl
set_option linter.all false
namespace Go.Proofs.YtapjommjopfbiaaGreatDoor.fairRaces
open Go
set_option maxRecDepth 100000
theorem c2 : Tryz.pinned.checked.prog.mainIs = some ((true, "5f033d208b9e4f54bb9448cb9c34bf0812d319354feff043d60be8ff03d276b3").1, (true, "5f033d208b9e4f54bb9448cb9c34bf0812d319354feff043d60be8ff03d276b3").2.toList) := by kernel_rfl
end Go.Proofs.YtapjommjopfbiaaGreatDoor.fairRaces
