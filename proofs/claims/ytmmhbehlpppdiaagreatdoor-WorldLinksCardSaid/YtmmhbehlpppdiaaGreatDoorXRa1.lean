/- A call's run, by the kernel: (pawl/world.World).Do ops 36748 small 15 kept 36 -/
import Derived.Test.YtmmhbehlpppdiaaGreatDoorXDa
set_option linter.all false
open Go Go.Sx Go.Proofs
namespace Go.Proofs.YtmmhbehlpppdiaaGreatDoor
set_option maxRecDepth 1000000
theorem run_a1 : ∀ E, a1.chk (xcall Tryz.prog okT (hooksL [a0]) dhC 100000 100 a1.f a1.args (a1.st0 E)) = true := fun E => by kernel_rfl
end Go.Proofs.YtmmhbehlpppdiaaGreatDoor
