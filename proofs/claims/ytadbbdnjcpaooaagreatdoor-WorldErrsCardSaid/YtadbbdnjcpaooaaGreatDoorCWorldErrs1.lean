/- Closed facts of the card of WorldErrs, part 1: written by a program of ours. -/
import Derived.Test.YtadbbdnjcpaooaaGreatDoorRows
import Derived.Test.YtadbbdnjcpaooaaGreatDoorCards
import Derived.SevenTiedAt
import Derived.KernelRfl
set_option linter.all false
namespace Go.Proofs.YtadbbdnjcpaooaaGreatDoor.worldErrs
open Go
set_option maxRecDepth 100000
theorem c2 : Tryz.pinned.checked.prog.mainIs = some ((true, "d4c95cf5e523a4af0f8d8683232982c548788487a9eb71792799ae36c49ee320").1, (true, "d4c95cf5e523a4af0f8d8683232982c548788487a9eb71792799ae36c49ee320").2.toList) := by kernel_rfl
end Go.Proofs.YtadbbdnjcpaooaaGreatDoor.worldErrs
