/- Calls, run by the kernel. -/
import Derived.Test.YtjfmelmiegnmjaaGreatDoorXTrXh
set_option linter.all false
open Go Go.Sx Go.Proofs
set_option linter.all false
namespace Go.Proofs.YtjfmelmiegnmjaaGreatDoor
set_option maxRecDepth 1000000
theorem run_q44 : ∀ E, q44.chk (xcall Tryz.prog okT hk44 dhC 100000 100 q44.f q44.args (q44.st0 E)) = true := fun E => by kernel_rfl
theorem run_q100 : ∀ E, q100.chk (xcall Tryz.prog okT hk100 dhC 100000 100 q100.f q100.args (q100.st0 E)) = true := fun E => by kernel_rfl
theorem run_q75 : ∀ E, q75.chk (xcall Tryz.prog okT hk75 dhC 100000 100 q75.f q75.args (q75.st0 E)) = true := fun E => by kernel_rfl
theorem run_q58 : ∀ E, q58.chk (xcall Tryz.prog okT hk58 dhC 100000 100 q58.f q58.args (q58.st0 E)) = true := fun E => by kernel_rfl
theorem run_q126 : ∀ E, q126.chk (xcall Tryz.prog okT hk126 dhC 100000 100 q126.f q126.args (q126.st0 E)) = true := fun E => by kernel_rfl
theorem run_q46 : ∀ E, q46.chk (xcall Tryz.prog okT hk46 dhC 100000 100 q46.f q46.args (q46.st0 E)) = true := fun E => by kernel_rfl
theorem run_q102 : ∀ E, q102.chk (xcall Tryz.prog okT hk102 dhC 100000 100 q102.f q102.args (q102.st0 E)) = true := fun E => by kernel_rfl
theorem run_q32 : ∀ E, q32.chk (xcall Tryz.prog okT hk32 dhC 100000 100 q32.f q32.args (q32.st0 E)) = true := fun E => by kernel_rfl
theorem run_q47 : ∀ E, q47.chk (xcall Tryz.prog okT hk47 dhC 100000 100 q47.f q47.args (q47.st0 E)) = true := fun E => by kernel_rfl
theorem run_q81 : ∀ E, q81.chk (xcall Tryz.prog okT hk81 dhC 100000 100 q81.f q81.args (q81.st0 E)) = true := fun E => by kernel_rfl
theorem run_q103 : ∀ E, q103.chk (xcall Tryz.prog okT hk103 dhC 100000 100 q103.f q103.args (q103.st0 E)) = true := fun E => by kernel_rfl
end Go.Proofs.YtjfmelmiegnmjaaGreatDoor
