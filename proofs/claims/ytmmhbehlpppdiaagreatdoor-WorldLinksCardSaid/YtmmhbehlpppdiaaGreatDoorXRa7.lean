/- A call's run, by the kernel: pawl/pawllaw24.awake ops 157111 small 1 kept 0 -/
import Derived.Test.YtmmhbehlpppdiaaGreatDoorXDa
set_option linter.all false
open Go Go.Sx Go.Proofs
namespace Go.Proofs.YtmmhbehlpppdiaaGreatDoor
set_option maxRecDepth 1000000
theorem run_a7 : ∀ E, a7.chk (xcall Tryz.prog okT (hooksL [a6, a5, a4, a3, a2, a1, a0]) dhC 100000 100 a7.f a7.args (a7.st0 E)) = true := fun E => by kernel_rfl
end Go.Proofs.YtmmhbehlpppdiaaGreatDoor
