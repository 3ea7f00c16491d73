/- Calls, run by the kernel. -/
import Derived.Test.YtjfmelmiegnmjaaGreatDoorXTrXh
set_option linter.all false
open Go Go.Sx Go.Proofs
set_option linter.all false
namespace Go.Proofs.YtjfmelmiegnmjaaGreatDoor
set_option maxRecDepth 1000000
theorem run_q23 : ∀ E, q23.chk (xcall Tryz.prog okT hk23 dhC 100000 100 q23.f q23.args (q23.st0 E)) = true := fun E => by kernel_rfl
theorem run_q84 : ∀ E, q84.chk (xcall Tryz.prog okT hk84 dhC 100000 100 q84.f q84.args (q84.st0 E)) = true := fun E => by kernel_rfl
theorem run_q9 : ∀ E, q9.chk (xcall Tryz.prog okT hk9 dhC 100000 100 q9.f q9.args (q9.st0 E)) = true := fun E => by kernel_rfl
theorem run_q37 : ∀ E, q37.chk (xcall Tryz.prog okT hk37 dhC 100000 100 q37.f q37.args (q37.st0 E)) = true := fun E => by kernel_rfl
theorem run_q105 : ∀ E, q105.chk (xcall Tryz.prog okT hk105 dhC 100000 100 q105.f q105.args (q105.st0 E)) = true := fun E => by kernel_rfl
theorem run_q51 : ∀ E, q51.chk (xcall Tryz.prog okT hk51 dhC 100000 100 q51.f q51.args (q51.st0 E)) = true := fun E => by kernel_rfl
theorem run_q131 : ∀ E, q131.chk (xcall Tryz.prog okT hk131 dhC 100000 100 q131.f q131.args (q131.st0 E)) = true := fun E => by kernel_rfl
theorem run_q38 : ∀ E, q38.chk (xcall Tryz.prog okT hk38 dhC 100000 100 q38.f q38.args (q38.st0 E)) = true := fun E => by kernel_rfl
theorem run_q10 : ∀ E, q10.chk (xcall Tryz.prog okT hk10 dhC 100000 100 q10.f q10.args (q10.st0 E)) = true := fun E => by kernel_rfl
theorem run_q146 : ∀ E, q146.chk (xcall Tryz.prog okT hk146 dhC 100000 100 q146.f q146.args (q146.st0 E)) = true := fun E => by kernel_rfl
end Go.Proofs.YtjfmelmiegnmjaaGreatDoor
