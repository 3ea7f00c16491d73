/- Calls, run by the kernel. -/
import Derived.Test.YtjfmelmiegnmjaaGreatDoorXToXh
set_option linter.all false
open Go Go.Sx Go.Proofs
set_option linter.all false
namespace Go.Proofs.YtjfmelmiegnmjaaGreatDoor
set_option maxRecDepth 1000000
theorem run_q2 : ∀ E, q2.chk (xcall Tryz.prog okT hk2 dhC 100000 100 q2.f q2.args (q2.st0 E)) = true := fun E => by kernel_rfl
theorem run_q11 : ∀ E, q11.chk (xcall Tryz.prog okT hk11 dhC 100000 100 q11.f q11.args (q11.st0 E)) = true := fun E => by kernel_rfl
theorem run_q20 : ∀ E, q20.chk (xcall Tryz.prog okT hk20 dhC 100000 100 q20.f q20.args (q20.st0 E)) = true := fun E => by kernel_rfl
theorem run_q25 : ∀ E, q25.chk (xcall Tryz.prog okT hk25 dhC 100000 100 q25.f q25.args (q25.st0 E)) = true := fun E => by kernel_rfl
theorem run_q17 : ∀ E, q17.chk (xcall Tryz.prog okT hk17 dhC 100000 100 q17.f q17.args (q17.st0 E)) = true := fun E => by kernel_rfl
theorem run_q5 : ∀ E, q5.chk (xcall Tryz.prog okT hk5 dhC 100000 100 q5.f q5.args (q5.st0 E)) = true := fun E => by kernel_rfl
end Go.Proofs.YtjfmelmiegnmjaaGreatDoor
