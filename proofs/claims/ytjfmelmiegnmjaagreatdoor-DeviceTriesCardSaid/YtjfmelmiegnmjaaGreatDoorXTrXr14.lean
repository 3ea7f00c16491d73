/- Calls, run by the kernel. -/
import Derived.Test.YtjfmelmiegnmjaaGreatDoorXTrXh
set_option linter.all false
open Go Go.Sx Go.Proofs
set_option linter.all false
namespace Go.Proofs.YtjfmelmiegnmjaaGreatDoor
set_option maxRecDepth 1000000
theorem run_q66 : ∀ E, q66.chk (xcall Tryz.prog okT hk66 dhC 100000 100 q66.f q66.args (q66.st0 E)) = true := fun E => by kernel_rfl
theorem run_q52 : ∀ E, q52.chk (xcall Tryz.prog okT hk52 dhC 100000 100 q52.f q52.args (q52.st0 E)) = true := fun E => by kernel_rfl
theorem run_q4 : ∀ E, q4.chk (xcall Tryz.prog okT hk4 dhC 100000 100 q4.f q4.args (q4.st0 E)) = true := fun E => by kernel_rfl
theorem run_q63 : ∀ E, q63.chk (xcall Tryz.prog okT hk63 dhC 100000 100 q63.f q63.args (q63.st0 E)) = true := fun E => by kernel_rfl
theorem run_q35 : ∀ E, q35.chk (xcall Tryz.prog okT hk35 dhC 100000 100 q35.f q35.args (q35.st0 E)) = true := fun E => by kernel_rfl
theorem run_q21 : ∀ E, q21.chk (xcall Tryz.prog okT hk21 dhC 100000 100 q21.f q21.args (q21.st0 E)) = true := fun E => by kernel_rfl
theorem run_q7 : ∀ E, q7.chk (xcall Tryz.prog okT hk7 dhC 100000 100 q7.f q7.args (q7.st0 E)) = true := fun E => by kernel_rfl
theorem run_q49 : ∀ E, q49.chk (xcall Tryz.prog okT hk49 dhC 100000 100 q49.f q49.args (q49.st0 E)) = true := fun E => by kernel_rfl
theorem run_q129 : ∀ E, q129.chk (xcall Tryz.prog okT hk129 dhC 100000 100 q129.f q129.args (q129.st0 E)) = true := fun E => by kernel_rfl
theorem run_q128 : ∀ E, q128.chk (xcall Tryz.prog okT hk128 dhC 100000 100 q128.f q128.args (q128.st0 E)) = true := fun E => by kernel_rfl
theorem run_q154 : ∀ E, q154.chk (xcall Tryz.prog okT hk154 dhC 100000 100 q154.f q154.args (q154.st0 E)) = true := fun E => by kernel_rfl
end Go.Proofs.YtjfmelmiegnmjaaGreatDoor
