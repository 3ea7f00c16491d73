/- Calls, run by the kernel. -/
import Derived.Test.YtjfmelmiegnmjaaGreatDoorXTrXh
set_option linter.all false
open Go Go.Sx Go.Proofs
set_option linter.all false
namespace Go.Proofs.YtjfmelmiegnmjaaGreatDoor
set_option maxRecDepth 1000000
theorem run_q14 : ∀ E, q14.chk (xcall Tryz.prog okT hk14 dhC 100000 100 q14.f q14.args (q14.st0 E)) = true := fun E => by kernel_rfl
theorem run_q28 : ∀ E, q28.chk (xcall Tryz.prog okT hk28 dhC 100000 100 q28.f q28.args (q28.st0 E)) = true := fun E => by kernel_rfl
theorem run_q42 : ∀ E, q42.chk (xcall Tryz.prog okT hk42 dhC 100000 100 q42.f q42.args (q42.st0 E)) = true := fun E => by kernel_rfl
theorem run_q56 : ∀ E, q56.chk (xcall Tryz.prog okT hk56 dhC 100000 100 q56.f q56.args (q56.st0 E)) = true := fun E => by kernel_rfl
theorem run_q70 : ∀ E, q70.chk (xcall Tryz.prog okT hk70 dhC 100000 100 q70.f q70.args (q70.st0 E)) = true := fun E => by kernel_rfl
theorem run_q107 : ∀ E, q107.chk (xcall Tryz.prog okT hk107 dhC 100000 100 q107.f q107.args (q107.st0 E)) = true := fun E => by kernel_rfl
theorem run_q108 : ∀ E, q108.chk (xcall Tryz.prog okT hk108 dhC 100000 100 q108.f q108.args (q108.st0 E)) = true := fun E => by kernel_rfl
theorem run_q111 : ∀ E, q111.chk (xcall Tryz.prog okT hk111 dhC 100000 100 q111.f q111.args (q111.st0 E)) = true := fun E => by kernel_rfl
theorem run_q89 : ∀ E, q89.chk (xcall Tryz.prog okT hk89 dhC 100000 100 q89.f q89.args (q89.st0 E)) = true := fun E => by kernel_rfl
theorem run_q110 : ∀ E, q110.chk (xcall Tryz.prog okT hk110 dhC 100000 100 q110.f q110.args (q110.st0 E)) = true := fun E => by kernel_rfl
theorem run_q136 : ∀ E, q136.chk (xcall Tryz.prog okT hk136 dhC 100000 100 q136.f q136.args (q136.st0 E)) = true := fun E => by kernel_rfl
theorem run_q145 : ∀ E, q145.chk (xcall Tryz.prog okT hk145 dhC 100000 100 q145.f q145.args (q145.st0 E)) = true := fun E => by kernel_rfl
end Go.Proofs.YtjfmelmiegnmjaaGreatDoor
