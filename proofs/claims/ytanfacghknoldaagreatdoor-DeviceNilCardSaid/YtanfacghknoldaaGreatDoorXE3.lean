/- A call is run by the kernel. -/
import Derived.Test.YtanfacghknoldaaGreatDoorXE0
set_option linter.all false
open Go Go.Sx Go.Proofs
namespace Go.Proofs.YtanfacghknoldaaGreatDoor
set_option maxRecDepth 1000000
theorem run2 : ∀ E, i2.chk (xcall Tryz.prog okT (fun _ _ _ => none) dh 100000 100 i2.f i2.args (i2.st0 E)) = true := fun E => by kernel_rfl
end Go.Proofs.YtanfacghknoldaaGreatDoor
