/- Calls, run by the kernel. -/
import Derived.Test.YtjfmelmiegnmjaaGreatDoorXTrXh
set_option linter.all false
open Go Go.Sx Go.Proofs
set_option linter.all false
namespace Go.Proofs.YtjfmelmiegnmjaaGreatDoor
set_option maxRecDepth 1000000
theorem run_q64 : ∀ E, q64.chk (xcall Tryz.prog okT hk64 dhC 100000 100 q64.f q64.args (q64.st0 E)) = true := fun E => by kernel_rfl
theorem run_q140 : ∀ E, q140.chk (xcall Tryz.prog okT hk140 dhC 100000 100 q140.f q140.args (q140.st0 E)) = true := fun E => by kernel_rfl
theorem run_q93 : ∀ E, q93.chk (xcall Tryz.prog okT hk93 dhC 100000 100 q93.f q93.args (q93.st0 E)) = true := fun E => by kernel_rfl
theorem run_q114 : ∀ E, q114.chk (xcall Tryz.prog okT hk114 dhC 100000 100 q114.f q114.args (q114.st0 E)) = true := fun E => by kernel_rfl
theorem run_q96 : ∀ E, q96.chk (xcall Tryz.prog okT hk96 dhC 100000 100 q96.f q96.args (q96.st0 E)) = true := fun E => by kernel_rfl
theorem run_q118 : ∀ E, q118.chk (xcall Tryz.prog okT hk118 dhC 100000 100 q118.f q118.args (q118.st0 E)) = true := fun E => by kernel_rfl
theorem run_q53 : ∀ E, q53.chk (xcall Tryz.prog okT hk53 dhC 100000 100 q53.f q53.args (q53.st0 E)) = true := fun E => by kernel_rfl
end Go.Proofs.YtjfmelmiegnmjaaGreatDoor
