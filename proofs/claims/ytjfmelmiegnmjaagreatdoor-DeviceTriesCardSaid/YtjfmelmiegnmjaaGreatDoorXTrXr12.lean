/- Calls, run by the kernel. -/
import Derived.Test.YtjfmelmiegnmjaaGreatDoorXTrXh
set_option linter.all false
open Go Go.Sx Go.Proofs
set_option linter.all false
namespace Go.Proofs.YtjfmelmiegnmjaaGreatDoor
set_option maxRecDepth 1000000
theorem run_q26 : ∀ E, q26.chk (xcall Tryz.prog okT hk26 dhC 100000 100 q26.f q26.args (q26.st0 E)) = true := fun E => by kernel_rfl
theorem run_q157 : ∀ E, q157.chk (xcall Tryz.prog okT hk157 dhC 100000 100 q157.f q157.args (q157.st0 E)) = true := fun E => by kernel_rfl
theorem run_q3 : ∀ E, q3.chk (xcall Tryz.prog okT hk3 dhC 100000 100 q3.f q3.args (q3.st0 E)) = true := fun E => by kernel_rfl
theorem run_q39 : ∀ E, q39.chk (xcall Tryz.prog okT hk39 dhC 100000 100 q39.f q39.args (q39.st0 E)) = true := fun E => by kernel_rfl
theorem run_q25 : ∀ E, q25.chk (xcall Tryz.prog okT hk25 dhC 100000 100 q25.f q25.args (q25.st0 E)) = true := fun E => by kernel_rfl
theorem run_q11 : ∀ E, q11.chk (xcall Tryz.prog okT hk11 dhC 100000 100 q11.f q11.args (q11.st0 E)) = true := fun E => by kernel_rfl
theorem run_q67 : ∀ E, q67.chk (xcall Tryz.prog okT hk67 dhC 100000 100 q67.f q67.args (q67.st0 E)) = true := fun E => by kernel_rfl
theorem run_q65 : ∀ E, q65.chk (xcall Tryz.prog okT hk65 dhC 100000 100 q65.f q65.args (q65.st0 E)) = true := fun E => by kernel_rfl
theorem run_q144 : ∀ E, q144.chk (xcall Tryz.prog okT hk144 dhC 100000 100 q144.f q144.args (q144.st0 E)) = true := fun E => by kernel_rfl
end Go.Proofs.YtjfmelmiegnmjaaGreatDoor
