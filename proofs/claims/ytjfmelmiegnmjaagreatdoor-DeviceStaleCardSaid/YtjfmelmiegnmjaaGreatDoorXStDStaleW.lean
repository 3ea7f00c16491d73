/- DeviceStale: the law in the machine: ahead of the region of floats, and behind it. -/
import Derived.Test.YtjfmelmiegnmjaaGreatDoorXStXh
import Derived.Test.YtjfmelmiegnmjaaGreatDoorXStDl
import Derived.Test.YtjfmelmiegnmjaaGreatDoorXStO1
set_option linter.all false
open Go Go.Sx Go.Proofs Go.RowKit Go.Pw.Fl
set_option linter.all false
namespace Go.Proofs.YtjfmelmiegnmjaaGreatDoor
set_option maxRecDepth 1000000

noncomputable def rsS : List ResultVar := resultsOf Tryz.prog 6
theorem cS_fn : fnOf Tryz.prog 6 = some (nS, cS, rsS) := by kernel_rfl
noncomputable def clS : Nat → List AV → St → Ro := xcall Tryz.prog okT hW dhC 1000 60
noncomputable def aS (m : AV) (k : Nat) : List AV := [m, .vflt 201, .vfo 202 201 4621819117588971520 k]
noncomputable def yP (E : Nat → Nat) (m : AV) (k : Nat) : Rs := xcode Tryz.prog okT clS nS 1000 cPre (argsTr 0 (aS m k) .lf) [] (st0 roW E)
noncomputable def yC (t : Tr AV) (d : Ds) (st : St) : Rs := xcode Tryz.prog okT clS nS 1000 (.cond cO cR17 .skip) t d st
noncomputable def yZ (r : Rs) : Rs := xcode Tryz.prog okT clS nS 1000 cEnd r.t r.d r.s

noncomputable def yC0 (r : Rs) : Rs := yC (t16_0 r.t r.s) r.d r.s
noncomputable def yC1 (r : Rs) : Rs := yC (t16_1 r.t r.s) r.d r.s
noncomputable def yC2 (r : Rs) : Rs := yC (t16_2 r.t r.s) r.d (bumpS r.s)
noncomputable def yC3 (r : Rs) : Rs := yC (t16_3 r.t r.s) r.d (bumpS r.s)
noncomputable def yC4 (r : Rs) : Rs := yC (t16_4 r.t r.s) r.d (bumpS r.s)
end Go.Proofs.YtjfmelmiegnmjaaGreatDoor
