/- Calls, run by the kernel. -/
import Derived.Test.YtadbbdnjcpaooaaGreatDoorXXd0
set_option linter.all false
open Go Go.Sx Go.Proofs
set_option linter.all false
namespace Go.Proofs.YtadbbdnjcpaooaaGreatDoor
set_option maxRecDepth 1000000
theorem run_q8 : ∀ E, q8.chk (xcall Tryz.prog okT hB dhC 100000 100 q8.f q8.args (q8.st0 E)) = true := fun E => by kernel_rfl
theorem run_q0 : ∀ E, q0.chk (xcall Tryz.prog okT hB dhC 100000 100 q0.f q0.args (q0.st0 E)) = true := fun E => by kernel_rfl
theorem run_q7 : ∀ E, q7.chk (xcall Tryz.prog okT hB dhC 100000 100 q7.f q7.args (q7.st0 E)) = true := fun E => by kernel_rfl
theorem run_q28 : ∀ E, q28.chk (xcall Tryz.prog okT hB dhC 100000 100 q28.f q28.args (q28.st0 E)) = true := fun E => by kernel_rfl
theorem run_q29 : ∀ E, q29.chk (xcall Tryz.prog okT hB dhC 100000 100 q29.f q29.args (q29.st0 E)) = true := fun E => by kernel_rfl
theorem run_q26 : ∀ E, q26.chk (xcall Tryz.prog okT hB dhC 100000 100 q26.f q26.args (q26.st0 E)) = true := fun E => by kernel_rfl
theorem run_q27 : ∀ E, q27.chk (xcall Tryz.prog okT hB dhC 100000 100 q27.f q27.args (q27.st0 E)) = true := fun E => by kernel_rfl
theorem run_q30 : ∀ E, q30.chk (xcall Tryz.prog okT hB dhC 100000 100 q30.f q30.args (q30.st0 E)) = true := fun E => by kernel_rfl
end Go.Proofs.YtadbbdnjcpaooaaGreatDoor
