/- A call's run, by the kernel: (pawl/world.World).Do ops 32477 small 9 kept 24 -/
import Derived.Test.YtmmhbehlpppdiaaGreatDoorXDa
set_option linter.all false
open Go Go.Sx Go.Proofs
namespace Go.Proofs.YtmmhbehlpppdiaaGreatDoor
set_option maxRecDepth 1000000
theorem run_a0 : ∀ E, a0.chk (xcall Tryz.prog okT (fun _ _ _ => none) dhC 100000 100 a0.f a0.args (a0.st0 E)) = true := fun E => by kernel_rfl
end Go.Proofs.YtmmhbehlpppdiaaGreatDoor
