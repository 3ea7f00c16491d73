/- Calls, run by the kernel. -/
import Derived.Test.YtjfmelmiegnmjaaGreatDoorXToXh
set_option linter.all false
open Go Go.Sx Go.Proofs
set_option linter.all false
namespace Go.Proofs.YtjfmelmiegnmjaaGreatDoor
set_option maxRecDepth 1000000
theorem run_q4 : ∀ E, q4.chk (xcall Tryz.prog okT hk4 dhC 100000 100 q4.f q4.args (q4.st0 E)) = true := fun E => by kernel_rfl
theorem run_q23 : ∀ E, q23.chk (xcall Tryz.prog okT hk23 dhC 100000 100 q23.f q23.args (q23.st0 E)) = true := fun E => by kernel_rfl
theorem run_q24 : ∀ E, q24.chk (xcall Tryz.prog okT hk24 dhC 100000 100 q24.f q24.args (q24.st0 E)) = true := fun E => by kernel_rfl
theorem run_q9 : ∀ E, q9.chk (xcall Tryz.prog okT hk9 dhC 100000 100 q9.f q9.args (q9.st0 E)) = true := fun E => by kernel_rfl
theorem run_q14 : ∀ E, q14.chk (xcall Tryz.prog okT hk14 dhC 100000 100 q14.f q14.args (q14.st0 E)) = true := fun E => by kernel_rfl
theorem run_q15 : ∀ E, q15.chk (xcall Tryz.prog okT hk15 dhC 100000 100 q15.f q15.args (q15.st0 E)) = true := fun E => by kernel_rfl
theorem run_q16 : ∀ E, q16.chk (xcall Tryz.prog okT hk16 dhC 100000 100 q16.f q16.args (q16.st0 E)) = true := fun E => by kernel_rfl
theorem run_q22 : ∀ E, q22.chk (xcall Tryz.prog okT hk22 dhC 100000 100 q22.f q22.args (q22.st0 E)) = true := fun E => by kernel_rfl
theorem run_q18 : ∀ E, q18.chk (xcall Tryz.prog okT hk18 dhC 100000 100 q18.f q18.args (q18.st0 E)) = true := fun E => by kernel_rfl
theorem run_q12 : ∀ E, q12.chk (xcall Tryz.prog okT hk12 dhC 100000 100 q12.f q12.args (q12.st0 E)) = true := fun E => by kernel_rfl
theorem run_q6 : ∀ E, q6.chk (xcall Tryz.prog okT hk6 dhC 100000 100 q6.f q6.args (q6.st0 E)) = true := fun E => by kernel_rfl
end Go.Proofs.YtjfmelmiegnmjaaGreatDoor
