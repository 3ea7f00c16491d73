/- The tie of the listed variables: where they are named. -/
import Derived.Test.YtlnekpnopjgbfaaGreatDoorXTa
set_option linter.all false
namespace Go.Proofs.YtlnekpnopjgbfaaGreatDoor.tied
open Go
set_option maxRecDepth 100000
theorem f6 : varsNamedLaterB Tryz.prog (varsId Tryz.prog) vs = true := by kernel_rfl
end Go.Proofs.YtlnekpnopjgbfaaGreatDoor.tied
