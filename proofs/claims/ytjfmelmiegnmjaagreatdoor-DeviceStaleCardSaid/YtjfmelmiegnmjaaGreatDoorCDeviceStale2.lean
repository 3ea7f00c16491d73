/- Closed facts of the card of DeviceStale, part 2: written by a program of ours. -/
import Derived.Test.YtjfmelmiegnmjaaGreatDoorRows
import Derived.Test.YtjfmelmiegnmjaaGreatDoorCards
import Derived.SevenTiedAt
import Derived.KernelRfl
set_option linter.all false
namespace Go.Proofs.YtjfmelmiegnmjaaGreatDoor.deviceStale
open Go
set_option maxRecDepth 100000
theorem c4 : true = Tryz.pinned.checked.prog.looks [] := by kernel_rfl
end Go.Proofs.YtjfmelmiegnmjaaGreatDoor.deviceStale
