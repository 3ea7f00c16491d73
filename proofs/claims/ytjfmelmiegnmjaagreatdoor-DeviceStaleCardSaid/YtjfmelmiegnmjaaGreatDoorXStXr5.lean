/- Calls, run by the kernel. -/
import Derived.Test.YtjfmelmiegnmjaaGreatDoorXStOk2
set_option linter.all false
open Go Go.Sx Go.Proofs
set_option linter.all false
namespace Go.Proofs.YtjfmelmiegnmjaaGreatDoor
set_option maxRecDepth 1000000
theorem run_q28 : ∀ E, q28.chk (xcall Tryz.prog okT2 hk28 dhC 100000 100 q28.f q28.args (q28.st0 E)) = true := fun E => by kernel_rfl
theorem run_q32 : ∀ E, q32.chk (xcall Tryz.prog okT2 hk32 dhC 100000 100 q32.f q32.args (q32.st0 E)) = true := fun E => by kernel_rfl
theorem run_q18 : ∀ E, q18.chk (xcall Tryz.prog okT2 hk18 dhC 100000 100 q18.f q18.args (q18.st0 E)) = true := fun E => by kernel_rfl
theorem run_q11 : ∀ E, q11.chk (xcall Tryz.prog okT2 hk11 dhC 100000 100 q11.f q11.args (q11.st0 E)) = true := fun E => by kernel_rfl
theorem run_q33 : ∀ E, q33.chk (xcall Tryz.prog okT2 hk33 dhC 100000 100 q33.f q33.args (q33.st0 E)) = true := fun E => by kernel_rfl
end Go.Proofs.YtjfmelmiegnmjaaGreatDoor
