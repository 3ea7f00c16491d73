/- The hooks of each call; of the law. -/
import Derived.Test.YtjfmelmiegnmjaaGreatDoorXToXd0
set_option linter.all false
open Go Go.Sx Go.Proofs
set_option linter.all false
namespace Go.Proofs.YtjfmelmiegnmjaaGreatDoor
set_option maxRecDepth 1000000
noncomputable def hk0 : Hk := hor (hooksL []) hCN
noncomputable def hk1 : Hk := hor (hooksL [q0]) hCN
noncomputable def hk2 : Hk := hor (hooksL []) hCN
noncomputable def hk3 : Hk := hor (hooksL [q2]) hCN
noncomputable def hk4 : Hk := hor (hooksL []) hCN
noncomputable def hk5 : Hk := hor (hooksL [q4]) hCN
noncomputable def hk6 : Hk := hor (hooksL [q1,q3,q5]) hCN
noncomputable def hk7 : Hk := hor (hooksL []) hCN
noncomputable def hk8 : Hk := hor (hooksL [q7]) hCN
noncomputable def hk9 : Hk := hor (hooksL []) hCN
noncomputable def hk10 : Hk := hor (hooksL [q9]) hCN
noncomputable def hk11 : Hk := hor (hooksL []) hCN
noncomputable def hk12 : Hk := hor (hooksL [q10,q11]) hCN
noncomputable def hk13 : Hk := hor (hooksL []) hCN
noncomputable def hk14 : Hk := hor (hooksL []) hCN
noncomputable def hk15 : Hk := hor (hooksL []) hCN
noncomputable def hk16 : Hk := hor (hooksL []) hCN
noncomputable def hk17 : Hk := hor (hooksL [q13,q14,q15,q16]) hCN
noncomputable def hk18 : Hk := hor (hooksL []) hCN
noncomputable def hk19 : Hk := hor (hooksL [q18]) hCN
noncomputable def hk20 : Hk := hor (hooksL []) hCN
noncomputable def hk21 : Hk := hor (hooksL []) hCN
noncomputable def hk22 : Hk := hor (hooksL []) hCN
noncomputable def hk23 : Hk := hor (hooksL []) hCN
noncomputable def hk24 : Hk := hor (hooksL []) hCN
noncomputable def hk25 : Hk := hor (hooksL [q21,q22,q23,q24]) hCN
noncomputable def hk26 : Hk := hor (hooksL [q12,q17,q19,q20,q25]) hCN
noncomputable def aK : Inst := q6
noncomputable def hP : Hk := hor (q26.parHook 2 0) (hor (q8.parHook 2 1) (hor (hooksL [q6]) hCN))
/-- The law's hooks. -/
noncomputable def hW : Hk := hor hP aK.closed
end Go.Proofs.YtjfmelmiegnmjaaGreatDoor
