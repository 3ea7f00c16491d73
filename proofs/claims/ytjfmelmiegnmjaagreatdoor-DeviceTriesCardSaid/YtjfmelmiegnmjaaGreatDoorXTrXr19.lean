/- Calls, run by the kernel. -/
import Derived.Test.YtjfmelmiegnmjaaGreatDoorXTrXh
set_option linter.all false
open Go Go.Sx Go.Proofs
set_option linter.all false
namespace Go.Proofs.YtjfmelmiegnmjaaGreatDoor
set_option maxRecDepth 1000000
theorem run_q148 : ∀ E, q148.chk (xcall Tryz.prog okT hk148 dhC 100000 100 q148.f q148.args (q148.st0 E)) = true := fun E => by kernel_rfl
theorem run_q150 : ∀ E, q150.chk (xcall Tryz.prog okT hk150 dhC 100000 100 q150.f q150.args (q150.st0 E)) = true := fun E => by kernel_rfl
theorem run_q142 : ∀ E, q142.chk (xcall Tryz.prog okT hk142 dhC 100000 100 q142.f q142.args (q142.st0 E)) = true := fun E => by kernel_rfl
theorem run_q147 : ∀ E, q147.chk (xcall Tryz.prog okT hk147 dhC 100000 100 q147.f q147.args (q147.st0 E)) = true := fun E => by kernel_rfl
theorem run_q149 : ∀ E, q149.chk (xcall Tryz.prog okT hk149 dhC 100000 100 q149.f q149.args (q149.st0 E)) = true := fun E => by kernel_rfl
theorem run_q143 : ∀ E, q143.chk (xcall Tryz.prog okT hk143 dhC 100000 100 q143.f q143.args (q143.st0 E)) = true := fun E => by kernel_rfl
theorem run_q155 : ∀ E, q155.chk (xcall Tryz.prog okT hk155 dhC 100000 100 q155.f q155.args (q155.st0 E)) = true := fun E => by kernel_rfl
theorem run_q158 : ∀ E, q158.chk (xcall Tryz.prog okT hk158 dhC 100000 100 q158.f q158.args (q158.st0 E)) = true := fun E => by kernel_rfl
theorem run_q124 : ∀ E, q124.chk (xcall Tryz.prog okT hk124 dhC 100000 100 q124.f q124.args (q124.st0 E)) = true := fun E => by kernel_rfl
end Go.Proofs.YtjfmelmiegnmjaaGreatDoor
