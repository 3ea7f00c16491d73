/- A call's run, by the kernel: pawl/pawllaw26.awake ops 159053 small 1 kept 0 -/
import Derived.Test.YtdkcmjifkhcfcaaGreatDoorXDb
set_option linter.all false
open Go Go.Sx Go.Proofs
namespace Go.Proofs.YtdkcmjifkhcfcaaGreatDoor
set_option maxRecDepth 1000000
theorem run_b7 : ∀ E, b7.chk (xcall Tryz.prog okT (hooksL [b6, b5, b4, b3, b2, b1, b0]) dhC 100000 100 b7.f b7.args (b7.st0 E)) = true := fun E => by kernel_rfl
end Go.Proofs.YtdkcmjifkhcfcaaGreatDoor
