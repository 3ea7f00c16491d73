/- Calls, run by the kernel. -/
import Derived.Test.YtjfmelmiegnmjaaGreatDoorXTrXh
set_option linter.all false
open Go Go.Sx Go.Proofs
set_option linter.all false
namespace Go.Proofs.YtjfmelmiegnmjaaGreatDoor
set_option maxRecDepth 1000000
theorem run_q83 : ∀ E, q83.chk (xcall Tryz.prog okT hk83 dhC 100000 100 q83.f q83.args (q83.st0 E)) = true := fun E => by kernel_rfl
theorem run_q48 : ∀ E, q48.chk (xcall Tryz.prog okT hk48 dhC 100000 100 q48.f q48.args (q48.st0 E)) = true := fun E => by kernel_rfl
theorem run_q62 : ∀ E, q62.chk (xcall Tryz.prog okT hk62 dhC 100000 100 q62.f q62.args (q62.st0 E)) = true := fun E => by kernel_rfl
theorem run_q104 : ∀ E, q104.chk (xcall Tryz.prog okT hk104 dhC 100000 100 q104.f q104.args (q104.st0 E)) = true := fun E => by kernel_rfl
theorem run_q130 : ∀ E, q130.chk (xcall Tryz.prog okT hk130 dhC 100000 100 q130.f q130.args (q130.st0 E)) = true := fun E => by kernel_rfl
theorem run_q77 : ∀ (n : Nat) (h : n % 2 = 0 ∧ n < 256) E, q77.chk (xcall Tryz.prog okT hk77 dhC 100000 100 q77.f (.par .u8 n 2 0 h :: q77.args.tail) (q77.st0 E)) = true := fun n h E => by kernel_rfl
end Go.Proofs.YtjfmelmiegnmjaaGreatDoor
