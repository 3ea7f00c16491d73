/- A call's run, by the kernel: (pawl/world.World).Do ops 4465 small 12 kept 12 -/
import Derived.Test.YtmmhbehlpppdiaaGreatDoorXDa
set_option linter.all false
open Go Go.Sx Go.Proofs
namespace Go.Proofs.YtmmhbehlpppdiaaGreatDoor
set_option maxRecDepth 1000000
theorem run_a5 : ∀ E, a5.chk (xcall Tryz.prog okT (hooksL [a4, a3, a2, a1, a0]) dhC 100000 100 a5.f a5.args (a5.st0 E)) = true := fun E => by kernel_rfl
end Go.Proofs.YtmmhbehlpppdiaaGreatDoor
