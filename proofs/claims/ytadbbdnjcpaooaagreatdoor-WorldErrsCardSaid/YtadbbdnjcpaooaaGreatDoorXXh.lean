/- The hooks of awake and play; of the law. -/
import Derived.Test.YtadbbdnjcpaooaaGreatDoorXXd0
set_option linter.all false
open Go Go.Sx Go.Proofs
set_option linter.all false
namespace Go.Proofs.YtadbbdnjcpaooaaGreatDoor
set_option maxRecDepth 1000000
noncomputable def hD : Hk := hor (hooksL [q0,q1,q2,q3,q4,q5,q7,q8]) hB
noncomputable def aK : Inst := q6
noncomputable def hP : Hk := hor (hooksL [q6,q9,q10,q11,q12,q13,q14,q15,q16,q17,q18,q19,q20,q21,q22,q23,q24,q25,q26,q27,q28,q29,q30,q31]) hB
/-- The law's hooks. -/
noncomputable def hW : Hk := hor hP aK.closed
end Go.Proofs.YtadbbdnjcpaooaaGreatDoor
