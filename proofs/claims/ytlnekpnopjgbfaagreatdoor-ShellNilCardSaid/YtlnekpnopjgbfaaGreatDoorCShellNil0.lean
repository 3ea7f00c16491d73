/- Closed facts of the card of ShellNil, part 0: written by a program of ours. -/
import Derived.Test.YtlnekpnopjgbfaaGreatDoorRows
import Derived.Test.YtlnekpnopjgbfaaGreatDoorCards
import Derived.SevenTiedAt
import Derived.KernelRfl
set_option linter.all false
namespace Go.Proofs.YtlnekpnopjgbfaaGreatDoor.shellNil
open Go
set_option maxRecDepth 100000
theorem c1 : Rows.shellNilRow.wfByText (OpenSpec.ofChange Rows.shellNilSpec) = true := by kernel_rfl
theorem c3 : Tryz.prog.funcNamed Rows.shellNilRow.func = some 3 := by kernel_rfl
theorem c5 : ([9].all fun u => !Tryz.prog.wantsStandIn u) = true := by kernel_rfl
end Go.Proofs.YtlnekpnopjgbfaaGreatDoor.shellNil
