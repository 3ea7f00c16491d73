/- A call's run, by the kernel: (pawl/world.World).Do ops 6597 small 18 kept 18 -/
import Derived.Test.YtdkcmjifkhcfcaaGreatDoorXDb
set_option linter.all false
open Go Go.Sx Go.Proofs
namespace Go.Proofs.YtdkcmjifkhcfcaaGreatDoor
set_option maxRecDepth 1000000
theorem run_b2 : ∀ E, b2.chk (xcall Tryz.prog okT (hooksL [b1, b0]) dhC 100000 100 b2.f b2.args (b2.st0 E)) = true := fun E => by kernel_rfl
end Go.Proofs.YtdkcmjifkhcfcaaGreatDoor
