/- A call's run, by the kernel: (pawl/world.World).Do ops 42827 small 32 kept 19 -/
import Derived.Test.YtmmhbehlpppdiaaGreatDoorXDa
set_option linter.all false
open Go Go.Sx Go.Proofs
namespace Go.Proofs.YtmmhbehlpppdiaaGreatDoor
set_option maxRecDepth 1000000
theorem run_a4 : ∀ E, a4.chk (xcall Tryz.prog okT (hooksL [a3, a2, a1, a0]) dhC 100000 100 a4.f a4.args (a4.st0 E)) = true := fun E => by kernel_rfl
end Go.Proofs.YtmmhbehlpppdiaaGreatDoor
