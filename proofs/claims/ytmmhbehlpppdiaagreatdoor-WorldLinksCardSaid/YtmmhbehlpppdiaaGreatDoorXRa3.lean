/- A call's run, by the kernel: (pawl/device.Device).Told ops 28761 small 23 kept 23 -/
import Derived.Test.YtmmhbehlpppdiaaGreatDoorXDa
set_option linter.all false
open Go Go.Sx Go.Proofs
namespace Go.Proofs.YtmmhbehlpppdiaaGreatDoor
set_option maxRecDepth 1000000
theorem run_a3 : ∀ E, a3.chk (xcall Tryz.prog okT (hooksL [a2, a1, a0]) dhC 100000 100 a3.f a3.args (a3.st0 E)) = true := fun E => by kernel_rfl
end Go.Proofs.YtmmhbehlpppdiaaGreatDoor
