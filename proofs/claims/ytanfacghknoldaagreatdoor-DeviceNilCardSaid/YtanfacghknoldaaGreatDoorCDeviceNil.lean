/- Closed facts of the card of DeviceNil: written by a program of ours. -/
import Derived.Test.YtanfacghknoldaaGreatDoorRows
import Derived.Test.YtanfacghknoldaaGreatDoorCards
import Derived.SevenTiedAt
import Derived.KernelRfl
set_option linter.all false
namespace Go.Proofs.YtanfacghknoldaaGreatDoor.deviceNil
open Go
set_option maxRecDepth 100000
theorem c1 : Rows.deviceNilRow.wfByText (OpenSpec.ofChange Rows.deviceNilSpec) = true := by kernel_rfl
theorem c2 : Tryz.pinned.checked.prog.mainIs = some ((true, "80ebe5b30cac33fd274a9c3539abd60c8379366e0465d510e4865bdc452fdce6").1, (true, "80ebe5b30cac33fd274a9c3539abd60c8379366e0465d510e4865bdc452fdce6").2.toList) := by kernel_rfl
theorem c3 : Tryz.prog.funcNamed Rows.deviceNilRow.func = some 9 := by kernel_rfl
theorem c4 : true = Tryz.pinned.checked.prog.looks [] := by kernel_rfl
theorem c5 : ([47, 3, 50, 30].all fun u => !Tryz.prog.wantsStandIn u) = true := by kernel_rfl
theorem c6 : false = Rows.deviceNilRow.goesBy Tryz.pinned.checked.prog := by kernel_rfl
end Go.Proofs.YtanfacghknoldaaGreatDoor.deviceNil
