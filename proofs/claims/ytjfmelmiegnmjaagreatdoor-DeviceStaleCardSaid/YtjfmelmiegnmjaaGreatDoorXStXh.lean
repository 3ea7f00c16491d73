/- The hooks of each call; of the law. -/
import Derived.Test.YtjfmelmiegnmjaaGreatDoorXStXd0
set_option linter.all false
open Go Go.Sx Go.Proofs
set_option linter.all false
namespace Go.Proofs.YtjfmelmiegnmjaaGreatDoor
set_option maxRecDepth 1000000
noncomputable def hk0 : Hk := hor (hooksL []) hCO
noncomputable def hk1 : Hk := hor (hooksL []) hCO
noncomputable def hk2 : Hk := hor (hooksL [q0,q1]) hCO
noncomputable def hk3 : Hk := hor (hooksL []) hCO
noncomputable def hk4 : Hk := hor (hooksL []) hCO
noncomputable def hk5 : Hk := hor (hooksL [q4]) hCO
noncomputable def hk6 : Hk := hor (hooksL [q3,q5]) hCO
noncomputable def hk7 : Hk := hor (hooksL []) hCO
noncomputable def hk8 : Hk := hor (hooksL []) hCO
noncomputable def hk9 : Hk := hor (hooksL [q8]) hCO
noncomputable def hk10 : Hk := hor (hooksL [q7,q9]) hCO
noncomputable def hk11 : Hk := hor (hooksL []) hCO
noncomputable def hk12 : Hk := hor (hooksL []) hCO
noncomputable def hk13 : Hk := hor (hooksL [q12]) hCO
noncomputable def hk14 : Hk := hor (hooksL [q11,q13]) hCO
noncomputable def hk15 : Hk := hor (hooksL [q6,q10,q14]) hCO
noncomputable def hk16 : Hk := hor (hooksL []) hCO
noncomputable def hk17 : Hk := hor (hooksL [q16]) hCO
noncomputable def hk18 : Hk := hor (hooksL []) hCO
noncomputable def hk19 : Hk := hor (hooksL [q18]) hCO
noncomputable def hk20 : Hk := hor (hooksL []) hCO
noncomputable def hk21 : Hk := hor (hooksL [q20]) hCO
noncomputable def hk22 : Hk := hor (hooksL []) hCO
noncomputable def hk23 : Hk := hor (hooksL [q22]) hCO
noncomputable def hk24 : Hk := hor (hooksL [q17,q19,q21,q23]) hCO
noncomputable def hk25 : Hk := hor (hooksL []) hCO
noncomputable def hk26 : Hk := hor (hooksL [q25]) hCO
noncomputable def hk27 : Hk := hor (hooksL []) hCO
noncomputable def hk28 : Hk := hor (hooksL [q27]) hCO
noncomputable def hk29 : Hk := hor (hooksL [q26,q28]) hCO
noncomputable def hk30 : Hk := hor (hooksL []) hCO
noncomputable def hk31 : Hk := hor (hooksL []) hCO
noncomputable def hk32 : Hk := hor (hooksL [q31]) hCO
noncomputable def hk33 : Hk := hor (hooksL [q32]) hCO
noncomputable def hk34 : Hk := hor (hooksL []) hCO
noncomputable def hk35 : Hk := hor (hooksL []) hCO
noncomputable def hk36 : Hk := hor (hooksL [q35]) hCO
noncomputable def hk37 : Hk := hor (hooksL [q36]) hCO
noncomputable def hk38 : Hk := hor (hooksL [q37]) hCO
noncomputable def hk39 : Hk := hor (hooksL []) hCO
noncomputable def hk40 : Hk := hor (hooksL []) hCO
noncomputable def hk41 : Hk := hor (hooksL [q40]) hCO
noncomputable def hk42 : Hk := hor (hooksL [q41]) hCO
noncomputable def hk43 : Hk := hor (hooksL []) hCO
noncomputable def hk44 : Hk := hor (hooksL []) hCO
noncomputable def hk45 : Hk := hor (hooksL []) hCO
noncomputable def hk46 : Hk := hor (hooksL []) hCO
noncomputable def hk47 : Hk := hor (hooksL []) hCO
noncomputable def hk48 : Hk := hor (hooksL [q47]) hCO
noncomputable def aK : Inst := q2
noncomputable def hP : Hk := hor (q39.parHook 2 1) (hor (q15.parHook 2 0) (hor (hooksL [q2,q24,q29,q30,q33,q34,q38,q37,q42,q43,q44,q45,q46,q48,q47]) hCO))
/-- The law's hooks. -/
noncomputable def hW : Hk := hor hP aK.closed
end Go.Proofs.YtjfmelmiegnmjaaGreatDoor
