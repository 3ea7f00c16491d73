/- Closed facts of the card of JudgeReveals, part 0: written by a program of ours. -/
import Derived.Test.YtdkcmjifkhcfcaaGreatDoorRows
import Derived.Test.YtdkcmjifkhcfcaaGreatDoorCards
import Derived.SevenTiedAt
import Derived.KernelRfl
set_option linter.all false
namespace Go.Proofs.YtdkcmjifkhcfcaaGreatDoor.judgeReveals
open Go
set_option maxRecDepth 100000
theorem c1 : Rows.judgeRevealsRow.wfByText (OpenSpec.ofChange Rows.judgeRevealsSpec) = true := by kernel_rfl
theorem c3 : Tryz.prog.funcNamed Rows.judgeRevealsRow.func = some 5 := by kernel_rfl
theorem c5 : ([48, 3, 52].all fun u => !Tryz.prog.wantsStandIn u) = true := by kernel_rfl
end Go.Proofs.YtdkcmjifkhcfcaaGreatDoor.judgeReveals
