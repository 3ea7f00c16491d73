/- Closed facts of the card of DeviceStale, part 1: written by a program of ours. -/
import Derived.Test.YtjfmelmiegnmjaaGreatDoorRows
import Derived.Test.YtjfmelmiegnmjaaGreatDoorCards
import Derived.SevenTiedAt
import Derived.KernelRfl
set_option linter.all false
namespace Go.Proofs.YtjfmelmiegnmjaaGreatDoor.deviceStale
open Go
set_option maxRecDepth 100000
theorem c2 : Tryz.pinned.checked.prog.mainIs = some ((true, "43fd9c24f37b97519e4e02445eaed747166dd7836b839f0c4d9bdfe464ad79df").1, (true, "43fd9c24f37b97519e4e02445eaed747166dd7836b839f0c4d9bdfe464ad79df").2.toList) := by kernel_rfl
end Go.Proofs.YtjfmelmiegnmjaaGreatDoor.deviceStale
