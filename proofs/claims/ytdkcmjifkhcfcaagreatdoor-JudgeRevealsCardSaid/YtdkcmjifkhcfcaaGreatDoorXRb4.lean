/- A call's run, by the kernel: (pawl/world.World).Do ops 42827 small 32 kept 19 -/
import Derived.Test.YtdkcmjifkhcfcaaGreatDoorXDb
set_option linter.all false
open Go Go.Sx Go.Proofs
namespace Go.Proofs.YtdkcmjifkhcfcaaGreatDoor
set_option maxRecDepth 1000000
theorem run_b4 : ∀ E, b4.chk (xcall Tryz.prog okT (hooksL [b3, b2, b1, b0]) dhC 100000 100 b4.f b4.args (b4.st0 E)) = true := fun E => by kernel_rfl
end Go.Proofs.YtdkcmjifkhcfcaaGreatDoor
