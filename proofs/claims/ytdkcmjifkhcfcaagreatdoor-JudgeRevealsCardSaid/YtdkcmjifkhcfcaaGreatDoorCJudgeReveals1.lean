/- Closed facts of the card of JudgeReveals, part 1: written by a program of ours. -/
import Derived.Test.YtdkcmjifkhcfcaaGreatDoorRows
import Derived.Test.YtdkcmjifkhcfcaaGreatDoorCards
import Derived.SevenTiedAt
import Derived.KernelRfl
set_option linter.all false
namespace Go.Proofs.YtdkcmjifkhcfcaaGreatDoor.judgeReveals
open Go
set_option maxRecDepth 100000
theorem c2 : Tryz.pinned.checked.prog.mainIs = some ((true, "7d6da06738491256d6fb5a364a52edce606a10e7dcad3edc304f008a4fbaf496").1, (true, "7d6da06738491256d6fb5a364a52edce606a10e7dcad3edc304f008a4fbaf496").2.toList) := by kernel_rfl
end Go.Proofs.YtdkcmjifkhcfcaaGreatDoor.judgeReveals
