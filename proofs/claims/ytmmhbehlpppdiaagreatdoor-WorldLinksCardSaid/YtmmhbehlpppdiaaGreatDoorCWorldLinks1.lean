/- Closed facts of the card of WorldLinks, part 1: written by a program of ours. -/
import Derived.Test.YtmmhbehlpppdiaaGreatDoorRows
import Derived.Test.YtmmhbehlpppdiaaGreatDoorCards
import Derived.SevenTiedAt
import Derived.KernelRfl
set_option linter.all false
namespace Go.Proofs.YtmmhbehlpppdiaaGreatDoor.worldLinks
open Go
set_option maxRecDepth 100000
theorem c2 : Tryz.pinned.checked.prog.mainIs = some ((true, "ce5555ec14d422bb4d95a70a393629bb0e4181470dfcf8e18a286174842f0c56").1, (true, "ce5555ec14d422bb4d95a70a393629bb0e4181470dfcf8e18a286174842f0c56").2.toList) := by kernel_rfl
end Go.Proofs.YtmmhbehlpppdiaaGreatDoor.worldLinks
