/- A call's run, by the kernel: (pawl/world.World).Do ops 36748 small 15 kept 36 -/
import Derived.Test.YtdkcmjifkhcfcaaGreatDoorXDb
set_option linter.all false
open Go Go.Sx Go.Proofs
namespace Go.Proofs.YtdkcmjifkhcfcaaGreatDoor
set_option maxRecDepth 1000000
theorem run_b1 : ∀ E, b1.chk (xcall Tryz.prog okT (hooksL [b0]) dhC 100000 100 b1.f b1.args (b1.st0 E)) = true := fun E => by kernel_rfl
end Go.Proofs.YtdkcmjifkhcfcaaGreatDoor
