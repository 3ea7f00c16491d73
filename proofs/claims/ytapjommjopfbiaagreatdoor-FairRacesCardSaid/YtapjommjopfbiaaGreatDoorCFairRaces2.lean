/- Closed facts of the card of FairRaces, part 2: written by a program of ours. -/
import Derived.Test.YtapjommjopfbiaaGreatDoorRows
import Derived.Test.YtapjommjopfbiaaGreatDoorCards
import Derived.SevenTiedAt
import Derived.KernelRfl
set_option linter.all false
namespace Go.Proofs.YtapjommjopfbiaaGreatDoor.fairRaces
open Go
set_option maxRecDepth 100000
theorem c4 : true = Tryz.pinned.checked.prog.looks [] := by kernel_rfl
end Go.Proofs.YtapjommjopfbiaaGreatDoor.fairRaces
