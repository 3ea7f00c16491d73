/- WorldInjects: data and runs. -/
import Derived.Test.YtfkbookaceckhaaGreatDoorXWiXh
set_option linter.all false
open Go Go.Sx Go.Proofs
set_option linter.all false
namespace Go.Proofs.YtfkbookaceckhaaGreatDoor
set_option maxRecDepth 1000000
theorem run_q29 : Rn q29 hk29 := fun E => by kernel_rfl
theorem run_q16 : Rn q16 hk16 := fun E => by kernel_rfl
theorem run_q28 : ∀ (n : Nat) (h : n % 2 = 1 ∧ n < 256) E, q28.chk (xcall Tryz.prog okT2 hk28 dhC 100000 100 q28.f (.par .u8 n 2 1 h :: q28.args.tail) (q28.st0 E)) = true := fun n h E => by kernel_rfl
end Go.Proofs.YtfkbookaceckhaaGreatDoor
