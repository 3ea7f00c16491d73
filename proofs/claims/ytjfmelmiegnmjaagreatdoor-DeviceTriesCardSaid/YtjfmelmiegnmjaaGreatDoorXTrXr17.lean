/- Calls, run by the kernel. -/
import Derived.Test.YtjfmelmiegnmjaaGreatDoorXTrXh
set_option linter.all false
open Go Go.Sx Go.Proofs
set_option linter.all false
namespace Go.Proofs.YtjfmelmiegnmjaaGreatDoor
set_option maxRecDepth 1000000
theorem run_q59 : ∀ E, q59.chk (xcall Tryz.prog okT hk59 dhC 100000 100 q59.f q59.args (q59.st0 E)) = true := fun E => by kernel_rfl
theorem run_q73 : ∀ E, q73.chk (xcall Tryz.prog okT hk73 dhC 100000 100 q73.f q73.args (q73.st0 E)) = true := fun E => by kernel_rfl
theorem run_q80 : ∀ E, q80.chk (xcall Tryz.prog okT hk80 dhC 100000 100 q80.f q80.args (q80.st0 E)) = true := fun E => by kernel_rfl
theorem run_q127 : ∀ E, q127.chk (xcall Tryz.prog okT hk127 dhC 100000 100 q127.f q127.args (q127.st0 E)) = true := fun E => by kernel_rfl
theorem run_q133 : ∀ E, q133.chk (xcall Tryz.prog okT hk133 dhC 100000 100 q133.f q133.args (q133.st0 E)) = true := fun E => by kernel_rfl
theorem run_q134 : ∀ E, q134.chk (xcall Tryz.prog okT hk134 dhC 100000 100 q134.f q134.args (q134.st0 E)) = true := fun E => by kernel_rfl
theorem run_q17 : ∀ E, q17.chk (xcall Tryz.prog okT hk17 dhC 100000 100 q17.f q17.args (q17.st0 E)) = true := fun E => by kernel_rfl
theorem run_q30 : ∀ E, q30.chk (xcall Tryz.prog okT hk30 dhC 100000 100 q30.f q30.args (q30.st0 E)) = true := fun E => by kernel_rfl
theorem run_q74 : ∀ E, q74.chk (xcall Tryz.prog okT hk74 dhC 100000 100 q74.f q74.args (q74.st0 E)) = true := fun E => by kernel_rfl
theorem run_q79 : ∀ E, q79.chk (xcall Tryz.prog okT hk79 dhC 100000 100 q79.f q79.args (q79.st0 E)) = true := fun E => by kernel_rfl
theorem run_q137 : ∀ E, q137.chk (xcall Tryz.prog okT hk137 dhC 100000 100 q137.f q137.args (q137.st0 E)) = true := fun E => by kernel_rfl
theorem run_q152 : ∀ E, q152.chk (xcall Tryz.prog okT hk152 dhC 100000 100 q152.f q152.args (q152.st0 E)) = true := fun E => by kernel_rfl
end Go.Proofs.YtjfmelmiegnmjaaGreatDoor
