/- The hooks of each call; of the law. -/
import Derived.Test.YtjfmelmiegnmjaaGreatDoorXSnXd0
set_option linter.all false
open Go Go.Sx Go.Proofs
set_option linter.all false
namespace Go.Proofs.YtjfmelmiegnmjaaGreatDoor
set_option maxRecDepth 1000000
noncomputable def hk0 : Hk := hor (hooksL []) hC
noncomputable def hk1 : Hk := hor (hooksL [q0]) hC
noncomputable def hk2 : Hk := hor (hooksL []) hC
noncomputable def hk3 : Hk := hor (hooksL []) hC
noncomputable def hk4 : Hk := hor (hooksL [q3]) hC
noncomputable def hk5 : Hk := hor (hooksL [q1,q2,q4]) hC
noncomputable def hk6 : Hk := hor (hooksL []) hC
noncomputable def hk7 : Hk := hor (hooksL []) hC
noncomputable def hk8 : Hk := hor (hooksL []) hC
noncomputable def hk9 : Hk := hor (hooksL [q6,q7,q8]) hC
noncomputable def hk10 : Hk := hor (hooksL [q9]) hC
noncomputable def hk11 : Hk := hor (hooksL []) hC
noncomputable def hk12 : Hk := hor (hooksL []) hC
noncomputable def hk13 : Hk := hor (hooksL []) hC
noncomputable def hk14 : Hk := hor (hooksL []) hC
noncomputable def hk15 : Hk := hor (hooksL []) hC
noncomputable def hk16 : Hk := hor (hooksL []) hC
noncomputable def hk17 : Hk := hor (hooksL [q12,q13,q14,q15,q16]) hC
noncomputable def hk18 : Hk := hor (hooksL []) hC
noncomputable def hk19 : Hk := hor (hooksL []) hC
noncomputable def hk20 : Hk := hor (hooksL []) hC
noncomputable def hk21 : Hk := hor (hooksL [q18,q19,q20]) hC
noncomputable def hk22 : Hk := hor (hooksL [q21]) hC
noncomputable def hk23 : Hk := hor (hooksL []) hC
noncomputable def hk24 : Hk := hor (hooksL []) hC
noncomputable def hk25 : Hk := hor (hooksL []) hC
noncomputable def hk26 : Hk := hor (hooksL []) hC
noncomputable def hk27 : Hk := hor (hooksL []) hC
noncomputable def hk28 : Hk := hor (hooksL []) hC
noncomputable def hk29 : Hk := hor (hooksL [q24,q25,q26,q27,q28]) hC
noncomputable def hk30 : Hk := hor (hooksL [q10,q11,q17,q22,q23,q29]) hC
noncomputable def hk31 : Hk := hor (hooksL []) hC
noncomputable def hk32 : Hk := hor (hooksL [q31]) hC
noncomputable def aK : Inst := q5
noncomputable def hP : Hk := hor (q32.parHook 2 1) (hor (q30.parHook 2 0) (hor (hooksL [q5]) hC))
/-- The law's hooks. -/
noncomputable def hW : Hk := hor hP (hor aK.closed hT)
end Go.Proofs.YtjfmelmiegnmjaaGreatDoor
