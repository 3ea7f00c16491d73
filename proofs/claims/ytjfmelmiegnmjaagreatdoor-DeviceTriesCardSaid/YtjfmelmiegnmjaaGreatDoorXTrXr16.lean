/- Calls, run by the kernel. -/
import Derived.Test.YtjfmelmiegnmjaaGreatDoorXTrXh
set_option linter.all false
open Go Go.Sx Go.Proofs
set_option linter.all false
namespace Go.Proofs.YtjfmelmiegnmjaaGreatDoor
set_option maxRecDepth 1000000
theorem run_q33 : ∀ E, q33.chk (xcall Tryz.prog okT hk33 dhC 100000 100 q33.f q33.args (q33.st0 E)) = true := fun E => by kernel_rfl
theorem run_q82 : ∀ E, q82.chk (xcall Tryz.prog okT hk82 dhC 100000 100 q82.f q82.args (q82.st0 E)) = true := fun E => by kernel_rfl
theorem run_q45 : ∀ E, q45.chk (xcall Tryz.prog okT hk45 dhC 100000 100 q45.f q45.args (q45.st0 E)) = true := fun E => by kernel_rfl
theorem run_q101 : ∀ E, q101.chk (xcall Tryz.prog okT hk101 dhC 100000 100 q101.f q101.args (q101.st0 E)) = true := fun E => by kernel_rfl
theorem run_q86 : ∀ E, q86.chk (xcall Tryz.prog okT hk86 dhC 100000 100 q86.f q86.args (q86.st0 E)) = true := fun E => by kernel_rfl
theorem run_q87 : ∀ E, q87.chk (xcall Tryz.prog okT hk87 dhC 100000 100 q87.f q87.args (q87.st0 E)) = true := fun E => by kernel_rfl
theorem run_q16 : ∀ E, q16.chk (xcall Tryz.prog okT hk16 dhC 100000 100 q16.f q16.args (q16.st0 E)) = true := fun E => by kernel_rfl
theorem run_q18 : ∀ E, q18.chk (xcall Tryz.prog okT hk18 dhC 100000 100 q18.f q18.args (q18.st0 E)) = true := fun E => by kernel_rfl
theorem run_q19 : ∀ E, q19.chk (xcall Tryz.prog okT hk19 dhC 100000 100 q19.f q19.args (q19.st0 E)) = true := fun E => by kernel_rfl
theorem run_q90 : ∀ E, q90.chk (xcall Tryz.prog okT hk90 dhC 100000 100 q90.f q90.args (q90.st0 E)) = true := fun E => by kernel_rfl
theorem run_q31 : ∀ E, q31.chk (xcall Tryz.prog okT hk31 dhC 100000 100 q31.f q31.args (q31.st0 E)) = true := fun E => by kernel_rfl
end Go.Proofs.YtjfmelmiegnmjaaGreatDoor
