/- A call's run, by the kernel: (pawl/world.World).Do ops 28860 small 33 kept 14 -/
import Derived.Test.YtmmhbehlpppdiaaGreatDoorXDa
set_option linter.all false
open Go Go.Sx Go.Proofs
namespace Go.Proofs.YtmmhbehlpppdiaaGreatDoor
set_option maxRecDepth 1000000
theorem run_a6 : ∀ E, a6.chk (xcall Tryz.prog okT (hooksL [a5, a4, a3, a2, a1, a0]) dhC 100000 100 a6.f a6.args (a6.st0 E)) = true := fun E => by kernel_rfl
end Go.Proofs.YtmmhbehlpppdiaaGreatDoor
