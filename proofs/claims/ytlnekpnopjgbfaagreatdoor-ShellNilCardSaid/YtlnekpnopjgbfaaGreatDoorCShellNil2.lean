/- Closed facts of the card of ShellNil, part 2: written by a program of ours. -/
import Derived.Test.YtlnekpnopjgbfaaGreatDoorRows
import Derived.Test.YtlnekpnopjgbfaaGreatDoorCards
import Derived.SevenTiedAt
import Derived.KernelRfl
set_option linter.all false
namespace Go.Proofs.YtlnekpnopjgbfaaGreatDoor.shellNil
open Go
set_option maxRecDepth 100000
theorem c4 : true = Tryz.pinned.checked.prog.looks [] := by kernel_rfl
end Go.Proofs.YtlnekpnopjgbfaaGreatDoor.shellNil
