/- Calls, run by the kernel. -/
import Derived.Test.YtjfmelmiegnmjaaGreatDoorXSnXh
set_option linter.all false
open Go Go.Sx Go.Proofs
set_option linter.all false
namespace Go.Proofs.YtjfmelmiegnmjaaGreatDoor
set_option maxRecDepth 1000000
theorem run_q5 : ∀ E, q5.chk (xcall Tryz.prog okT hk5 dhC 100000 100 q5.f q5.args (q5.st0 E)) = true := fun E => by kernel_rfl
theorem run_q19 : ∀ E, q19.chk (xcall Tryz.prog okT hk19 dhC 100000 100 q19.f q19.args (q19.st0 E)) = true := fun E => by kernel_rfl
theorem run_q7 : ∀ E, q7.chk (xcall Tryz.prog okT hk7 dhC 100000 100 q7.f q7.args (q7.st0 E)) = true := fun E => by kernel_rfl
theorem run_q8 : ∀ E, q8.chk (xcall Tryz.prog okT hk8 dhC 100000 100 q8.f q8.args (q8.st0 E)) = true := fun E => by kernel_rfl
theorem run_q3 : ∀ E, q3.chk (xcall Tryz.prog okT hk3 dhC 100000 100 q3.f q3.args (q3.st0 E)) = true := fun E => by kernel_rfl
theorem run_q27 : ∀ E, q27.chk (xcall Tryz.prog okT hk27 dhC 100000 100 q27.f q27.args (q27.st0 E)) = true := fun E => by kernel_rfl
theorem run_q28 : ∀ E, q28.chk (xcall Tryz.prog okT hk28 dhC 100000 100 q28.f q28.args (q28.st0 E)) = true := fun E => by kernel_rfl
theorem run_q13 : ∀ E, q13.chk (xcall Tryz.prog okT hk13 dhC 100000 100 q13.f q13.args (q13.st0 E)) = true := fun E => by kernel_rfl
theorem run_q15 : ∀ E, q15.chk (xcall Tryz.prog okT hk15 dhC 100000 100 q15.f q15.args (q15.st0 E)) = true := fun E => by kernel_rfl
theorem run_q16 : ∀ E, q16.chk (xcall Tryz.prog okT hk16 dhC 100000 100 q16.f q16.args (q16.st0 E)) = true := fun E => by kernel_rfl
end Go.Proofs.YtjfmelmiegnmjaaGreatDoor
