/- A call's run, by the kernel: (pawl/world.World).Do ops 4465 small 12 kept 13 -/
import Derived.Test.YtdkcmjifkhcfcaaGreatDoorXDb
set_option linter.all false
open Go Go.Sx Go.Proofs
namespace Go.Proofs.YtdkcmjifkhcfcaaGreatDoor
set_option maxRecDepth 1000000
theorem run_b5 : ∀ E, b5.chk (xcall Tryz.prog okT (hooksL [b4, b3, b2, b1, b0]) dhC 100000 100 b5.f b5.args (b5.st0 E)) = true := fun E => by kernel_rfl
end Go.Proofs.YtdkcmjifkhcfcaaGreatDoor
