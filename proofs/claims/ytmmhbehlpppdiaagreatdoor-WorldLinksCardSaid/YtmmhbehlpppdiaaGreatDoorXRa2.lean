/- A call's run, by the kernel: (pawl/world.World).Do ops 6597 small 18 kept 18 -/
import Derived.Test.YtmmhbehlpppdiaaGreatDoorXDa
set_option linter.all false
open Go Go.Sx Go.Proofs
namespace Go.Proofs.YtmmhbehlpppdiaaGreatDoor
set_option maxRecDepth 1000000
theorem run_a2 : ∀ E, a2.chk (xcall Tryz.prog okT (hooksL [a1, a0]) dhC 100000 100 a2.f a2.args (a2.st0 E)) = true := fun E => by kernel_rfl
end Go.Proofs.YtmmhbehlpppdiaaGreatDoor
