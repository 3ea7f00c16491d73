/- Calls, run by the kernel. -/
import Derived.Test.YtjfmelmiegnmjaaGreatDoorXStOk2
set_option linter.all false
open Go Go.Sx Go.Proofs
set_option linter.all false
namespace Go.Proofs.YtjfmelmiegnmjaaGreatDoor
set_option maxRecDepth 1000000
theorem run_q42 : ∀ E, q42.chk (xcall Tryz.prog okT2 hk42 dhC 100000 100 q42.f q42.args (q42.st0 E)) = true := fun E => by kernel_rfl
theorem run_q15 : ∀ (n : Nat) (h : n % 2 = 0 ∧ n < 256) E, q15.chk (xcall Tryz.prog okT2 hk15 dhC 100000 100 q15.f (.par .u8 n 2 0 h :: q15.args.tail) (q15.st0 E)) = true := fun n h E => by kernel_rfl
theorem run_q6 : ∀ E, q6.chk (xcall Tryz.prog okT2 hk6 dhC 100000 100 q6.f q6.args (q6.st0 E)) = true := fun E => by kernel_rfl
theorem run_q10 : ∀ E, q10.chk (xcall Tryz.prog okT2 hk10 dhC 100000 100 q10.f q10.args (q10.st0 E)) = true := fun E => by kernel_rfl
theorem run_q14 : ∀ E, q14.chk (xcall Tryz.prog okT2 hk14 dhC 100000 100 q14.f q14.args (q14.st0 E)) = true := fun E => by kernel_rfl
theorem run_q30 : ∀ E, q30.chk (xcall Tryz.prog okT2 hk30 dhC 100000 100 q30.f q30.args (q30.st0 E)) = true := fun E => by kernel_rfl
theorem run_q44 : ∀ E, q44.chk (xcall Tryz.prog okT2 hk44 dhC 100000 100 q44.f q44.args (q44.st0 E)) = true := fun E => by kernel_rfl
theorem run_q4 : ∀ E, q4.chk (xcall Tryz.prog okT2 hk4 dhC 100000 100 q4.f q4.args (q4.st0 E)) = true := fun E => by kernel_rfl
theorem run_q8 : ∀ E, q8.chk (xcall Tryz.prog okT2 hk8 dhC 100000 100 q8.f q8.args (q8.st0 E)) = true := fun E => by kernel_rfl
theorem run_q12 : ∀ E, q12.chk (xcall Tryz.prog okT2 hk12 dhC 100000 100 q12.f q12.args (q12.st0 E)) = true := fun E => by kernel_rfl
theorem run_q34 : ∀ E, q34.chk (xcall Tryz.prog okT2 hk34 dhC 100000 100 q34.f q34.args (q34.st0 E)) = true := fun E => by kernel_rfl
theorem run_q46 : ∀ E, q46.chk (xcall Tryz.prog okT2 hk46 dhC 100000 100 q46.f q46.args (q46.st0 E)) = true := fun E => by kernel_rfl
theorem run_q48 : ∀ E, q48.chk (xcall Tryz.prog okT2 hk48 dhC 100000 100 q48.f q48.args (q48.st0 E)) = true := fun E => by kernel_rfl
theorem run_q37 : ∀ E, q37.chk (xcall Tryz.prog okT2 hk37 dhC 100000 100 q37.f q37.args (q37.st0 E)) = true := fun E => by kernel_rfl
end Go.Proofs.YtjfmelmiegnmjaaGreatDoor
