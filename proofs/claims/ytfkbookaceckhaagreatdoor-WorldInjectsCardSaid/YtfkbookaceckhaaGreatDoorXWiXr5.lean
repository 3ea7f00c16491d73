/- WorldInjects: data and runs. -/
import Derived.Test.YtfkbookaceckhaaGreatDoorXWiXh
set_option linter.all false
open Go Go.Sx Go.Proofs
set_option linter.all false
namespace Go.Proofs.YtfkbookaceckhaaGreatDoor
set_option maxRecDepth 1000000
theorem run_q30 : Rn q30 hk30 := fun E => by kernel_rfl
theorem run_q21 : Rn q21 hk21 := fun E => by kernel_rfl
theorem run_q14 : Rn q14 hk14 := fun E => by kernel_rfl
theorem run_q12 : ∀ (n : Nat) (h : n % 2 = 0 ∧ n < 256) E, q12.chk (xcall Tryz.prog okT2 hk12 dhC 100000 100 q12.f (.par .u8 n 2 0 h :: q12.args.tail) (q12.st0 E)) = true := fun n h E => by kernel_rfl
theorem run_q20 : Rn q20 hk20 := fun E => by kernel_rfl
theorem run_q13 : Rn q13 hk13 := fun E => by kernel_rfl
theorem run_q32 : Rn q32 hk32 := fun E => by kernel_rfl
end Go.Proofs.YtfkbookaceckhaaGreatDoor
