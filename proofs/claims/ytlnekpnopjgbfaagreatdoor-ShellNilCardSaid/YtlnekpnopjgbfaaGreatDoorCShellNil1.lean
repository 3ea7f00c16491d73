/- Closed facts of the card of ShellNil, part 1: written by a program of ours. -/
import Derived.Test.YtlnekpnopjgbfaaGreatDoorRows
import Derived.Test.YtlnekpnopjgbfaaGreatDoorCards
import Derived.SevenTiedAt
import Derived.KernelRfl
set_option linter.all false
namespace Go.Proofs.YtlnekpnopjgbfaaGreatDoor.shellNil
open Go
set_option maxRecDepth 100000
theorem c2 : Tryz.pinned.checked.prog.mainIs = some ((true, "9124069f3626f414332e8c60157535a295bc02156e5516df1be17bba0c3470df").1, (true, "9124069f3626f414332e8c60157535a295bc02156e5516df1be17bba0c3470df").2.toList) := by kernel_rfl
end Go.Proofs.YtlnekpnopjgbfaaGreatDoor.shellNil
