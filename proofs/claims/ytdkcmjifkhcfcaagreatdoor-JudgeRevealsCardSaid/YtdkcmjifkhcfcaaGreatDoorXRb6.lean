/- A call's run, by the kernel: (pawl/world.World).Do ops 28860 small 33 kept 14 -/
import Derived.Test.YtdkcmjifkhcfcaaGreatDoorXDb
set_option linter.all false
open Go Go.Sx Go.Proofs
namespace Go.Proofs.YtdkcmjifkhcfcaaGreatDoor
set_option maxRecDepth 1000000
theorem run_b6 : ∀ E, b6.chk (xcall Tryz.prog okT (hooksL [b5, b4, b3, b2, b1, b0]) dhC 100000 100 b6.f b6.args (b6.st0 E)) = true := fun E => by kernel_rfl
end Go.Proofs.YtdkcmjifkhcfcaaGreatDoor
