/- A call's run, by the kernel: (pawl/device.Device).Told ops 28761 small 23 kept 23 -/
import Derived.Test.YtdkcmjifkhcfcaaGreatDoorXDb
set_option linter.all false
open Go Go.Sx Go.Proofs
namespace Go.Proofs.YtdkcmjifkhcfcaaGreatDoor
set_option maxRecDepth 1000000
theorem run_b3 : ∀ E, b3.chk (xcall Tryz.prog okT (hooksL [b2, b1, b0]) dhC 100000 100 b3.f b3.args (b3.st0 E)) = true := fun E => by kernel_rfl
end Go.Proofs.YtdkcmjifkhcfcaaGreatDoor
