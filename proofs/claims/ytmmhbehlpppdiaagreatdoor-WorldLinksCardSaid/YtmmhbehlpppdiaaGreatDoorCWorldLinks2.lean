/- Closed facts of the card of WorldLinks, part 2: written by a program of ours. -/
import Derived.Test.YtmmhbehlpppdiaaGreatDoorRows
import Derived.Test.YtmmhbehlpppdiaaGreatDoorCards
import Derived.SevenTiedAt
import Derived.KernelRfl
set_option linter.all false
namespace Go.Proofs.YtmmhbehlpppdiaaGreatDoor.worldLinks
open Go
set_option maxRecDepth 100000
theorem c4 : true = Tryz.pinned.checked.prog.looks [] := by kernel_rfl
end Go.Proofs.YtmmhbehlpppdiaaGreatDoor.worldLinks
