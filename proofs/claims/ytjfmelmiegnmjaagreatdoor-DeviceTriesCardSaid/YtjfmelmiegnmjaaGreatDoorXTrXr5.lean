/- Calls, run by the kernel. -/
import Derived.Test.YtjfmelmiegnmjaaGreatDoorXTrXh
set_option linter.all false
open Go Go.Sx Go.Proofs
set_option linter.all false
namespace Go.Proofs.YtjfmelmiegnmjaaGreatDoor
set_option maxRecDepth 1000000
theorem run_q97 : ∀ E, q97.chk (xcall Tryz.prog okT hk97 dhC 100000 100 q97.f q97.args (q97.st0 E)) = true := fun E => by kernel_rfl
theorem run_q119 : ∀ E, q119.chk (xcall Tryz.prog okT hk119 dhC 100000 100 q119.f q119.args (q119.st0 E)) = true := fun E => by kernel_rfl
theorem run_q123 : ∀ E, q123.chk (xcall Tryz.prog okT hk123 dhC 100000 100 q123.f q123.args (q123.st0 E)) = true := fun E => by kernel_rfl
theorem run_q156 : ∀ E, q156.chk (xcall Tryz.prog okT hk156 dhC 100000 100 q156.f q156.args (q156.st0 E)) = true := fun E => by kernel_rfl
theorem run_q141 : ∀ E, q141.chk (xcall Tryz.prog okT hk141 dhC 100000 100 q141.f q141.args (q141.st0 E)) = true := fun E => by kernel_rfl
theorem run_q153 : ∀ E, q153.chk (xcall Tryz.prog okT hk153 dhC 100000 100 q153.f q153.args (q153.st0 E)) = true := fun E => by kernel_rfl
end Go.Proofs.YtjfmelmiegnmjaaGreatDoor
