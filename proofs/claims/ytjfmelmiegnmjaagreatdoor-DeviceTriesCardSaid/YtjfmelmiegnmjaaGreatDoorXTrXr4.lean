/- Calls, run by the kernel. -/
import Derived.Test.YtjfmelmiegnmjaaGreatDoorXTrXh
set_option linter.all false
open Go Go.Sx Go.Proofs
set_option linter.all false
namespace Go.Proofs.YtjfmelmiegnmjaaGreatDoor
set_option maxRecDepth 1000000
theorem run_q76 : ∀ E, q76.chk (xcall Tryz.prog okT hk76 dhC 100000 100 q76.f q76.args (q76.st0 E)) = true := fun E => by kernel_rfl
theorem run_q20 : ∀ E, q20.chk (xcall Tryz.prog okT hk20 dhC 100000 100 q20.f q20.args (q20.st0 E)) = true := fun E => by kernel_rfl
theorem run_q91 : ∀ E, q91.chk (xcall Tryz.prog okT hk91 dhC 100000 100 q91.f q91.args (q91.st0 E)) = true := fun E => by kernel_rfl
theorem run_q112 : ∀ E, q112.chk (xcall Tryz.prog okT hk112 dhC 100000 100 q112.f q112.args (q112.st0 E)) = true := fun E => by kernel_rfl
theorem run_q138 : ∀ E, q138.chk (xcall Tryz.prog okT hk138 dhC 100000 100 q138.f q138.args (q138.st0 E)) = true := fun E => by kernel_rfl
theorem run_q40 : ∀ E, q40.chk (xcall Tryz.prog okT hk40 dhC 100000 100 q40.f q40.args (q40.st0 E)) = true := fun E => by kernel_rfl
end Go.Proofs.YtjfmelmiegnmjaaGreatDoor
