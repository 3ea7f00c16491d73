/- Calls, run by the kernel. -/
import Derived.Test.YtjfmelmiegnmjaaGreatDoorXTrXh
set_option linter.all false
open Go Go.Sx Go.Proofs
set_option linter.all false
namespace Go.Proofs.YtjfmelmiegnmjaaGreatDoor
set_option maxRecDepth 1000000
theorem run_q15 : ∀ E, q15.chk (xcall Tryz.prog okT hk15 dhC 100000 100 q15.f q15.args (q15.st0 E)) = true := fun E => by kernel_rfl
theorem run_q88 : ∀ E, q88.chk (xcall Tryz.prog okT hk88 dhC 100000 100 q88.f q88.args (q88.st0 E)) = true := fun E => by kernel_rfl
theorem run_q92 : ∀ E, q92.chk (xcall Tryz.prog okT hk92 dhC 100000 100 q92.f q92.args (q92.st0 E)) = true := fun E => by kernel_rfl
theorem run_q109 : ∀ E, q109.chk (xcall Tryz.prog okT hk109 dhC 100000 100 q109.f q109.args (q109.st0 E)) = true := fun E => by kernel_rfl
theorem run_q113 : ∀ E, q113.chk (xcall Tryz.prog okT hk113 dhC 100000 100 q113.f q113.args (q113.st0 E)) = true := fun E => by kernel_rfl
theorem run_q135 : ∀ E, q135.chk (xcall Tryz.prog okT hk135 dhC 100000 100 q135.f q135.args (q135.st0 E)) = true := fun E => by kernel_rfl
theorem run_q60 : ∀ E, q60.chk (xcall Tryz.prog okT hk60 dhC 100000 100 q60.f q60.args (q60.st0 E)) = true := fun E => by kernel_rfl
end Go.Proofs.YtjfmelmiegnmjaaGreatDoor
