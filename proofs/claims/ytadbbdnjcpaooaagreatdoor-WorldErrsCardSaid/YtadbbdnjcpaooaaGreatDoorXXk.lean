/- The hooks are good; awake as a closed call. -/
import Derived.Test.YtadbbdnjcpaooaaGreatDoorXXh
import Derived.Test.YtadbbdnjcpaooaaGreatDoorXXr0
import Derived.Test.YtadbbdnjcpaooaaGreatDoorXXr1
import Derived.Test.YtadbbdnjcpaooaaGreatDoorXXr2
import Derived.Test.YtadbbdnjcpaooaaGreatDoorXXr3
import Derived.Test.YtadbbdnjcpaooaaGreatDoorXXr4
import Derived.Test.YtadbbdnjcpaooaaGreatDoorXXr5
import Derived.Test.YtadbbdnjcpaooaaGreatDoorXXr6
import Derived.Test.YtadbbdnjcpaooaaGreatDoorXXr7
set_option linter.all false
open Go Go.Sx Go.Proofs
set_option linter.all false
namespace Go.Proofs.YtadbbdnjcpaooaaGreatDoor
set_option maxRecDepth 1000000
theorem hg_q0 : HkGood Tryz.prog q0.hook := inst_good okt callsOK mixed hB_good dhC_good q0 (by kernel_rfl) (by kernel_rfl) run_q0
theorem hg_q1 : HkGood Tryz.prog q1.hook := inst_good okt callsOK mixed hB_good dhC_good q1 (by kernel_rfl) (by kernel_rfl) run_q1
theorem hg_q2 : HkGood Tryz.prog q2.hook := inst_good okt callsOK mixed hB_good dhC_good q2 (by kernel_rfl) (by kernel_rfl) run_q2
theorem hg_q3 : HkGood Tryz.prog q3.hook := inst_good okt callsOK mixed hB_good dhC_good q3 (by kernel_rfl) (by kernel_rfl) run_q3
theorem hg_q4 : HkGood Tryz.prog q4.hook := inst_good okt callsOK mixed hB_good dhC_good q4 (by kernel_rfl) (by kernel_rfl) run_q4
theorem hg_q5 : HkGood Tryz.prog q5.hook := inst_good okt callsOK mixed hB_good dhC_good q5 (by kernel_rfl) (by kernel_rfl) run_q5
theorem hg_q7 : HkGood Tryz.prog q7.hook := inst_good okt callsOK mixed hB_good dhC_good q7 (by kernel_rfl) (by kernel_rfl) run_q7
theorem hg_q8 : HkGood Tryz.prog q8.hook := inst_good okt callsOK mixed hB_good dhC_good q8 (by kernel_rfl) (by kernel_rfl) run_q8
theorem hg_q10 : HkGood Tryz.prog q10.hook := inst_good okt callsOK mixed hB_good dhC_good q10 (by kernel_rfl) (by kernel_rfl) run_q10
theorem hg_q11 : HkGood Tryz.prog q11.hook := inst_good okt callsOK mixed hB_good dhC_good q11 (by kernel_rfl) (by kernel_rfl) run_q11
theorem hg_q12 : HkGood Tryz.prog q12.hook := inst_good okt callsOK mixed hB_good dhC_good q12 (by kernel_rfl) (by kernel_rfl) run_q12
theorem hg_q13 : HkGood Tryz.prog q13.hook := inst_good okt callsOK mixed hB_good dhC_good q13 (by kernel_rfl) (by kernel_rfl) run_q13
theorem hg_q14 : HkGood Tryz.prog q14.hook := inst_good okt callsOK mixed hB_good dhC_good q14 (by kernel_rfl) (by kernel_rfl) run_q14
theorem hg_q15 : HkGood Tryz.prog q15.hook := inst_good okt callsOK mixed hB_good dhC_good q15 (by kernel_rfl) (by kernel_rfl) run_q15
theorem hg_q16 : HkGood Tryz.prog q16.hook := inst_good okt callsOK mixed hB_good dhC_good q16 (by kernel_rfl) (by kernel_rfl) run_q16
theorem hg_q17 : HkGood Tryz.prog q17.hook := inst_good okt callsOK mixed hB_good dhC_good q17 (by kernel_rfl) (by kernel_rfl) run_q17
theorem hg_q18 : HkGood Tryz.prog q18.hook := inst_good okt callsOK mixed hB_good dhC_good q18 (by kernel_rfl) (by kernel_rfl) run_q18
theorem hg_q19 : HkGood Tryz.prog q19.hook := inst_good okt callsOK mixed hB_good dhC_good q19 (by kernel_rfl) (by kernel_rfl) run_q19
theorem hg_q20 : HkGood Tryz.prog q20.hook := inst_good okt callsOK mixed hB_good dhC_good q20 (by kernel_rfl) (by kernel_rfl) run_q20
theorem hg_q21 : HkGood Tryz.prog q21.hook := inst_good okt callsOK mixed hB_good dhC_good q21 (by kernel_rfl) (by kernel_rfl) run_q21
theorem hg_q22 : HkGood Tryz.prog q22.hook := inst_good okt callsOK mixed hB_good dhC_good q22 (by kernel_rfl) (by kernel_rfl) run_q22
theorem hg_q23 : HkGood Tryz.prog q23.hook := inst_good okt callsOK mixed hB_good dhC_good q23 (by kernel_rfl) (by kernel_rfl) run_q23
theorem hg_q24 : HkGood Tryz.prog q24.hook := inst_good okt callsOK mixed hB_good dhC_good q24 (by kernel_rfl) (by kernel_rfl) run_q24
theorem hg_q25 : HkGood Tryz.prog q25.hook := inst_good okt callsOK mixed hB_good dhC_good q25 (by kernel_rfl) (by kernel_rfl) run_q25
theorem hg_q26 : HkGood Tryz.prog q26.hook := inst_good okt callsOK mixed hB_good dhC_good q26 (by kernel_rfl) (by kernel_rfl) run_q26
theorem hg_q27 : HkGood Tryz.prog q27.hook := inst_good okt callsOK mixed hB_good dhC_good q27 (by kernel_rfl) (by kernel_rfl) run_q27
theorem hg_q28 : HkGood Tryz.prog q28.hook := inst_good okt callsOK mixed hB_good dhC_good q28 (by kernel_rfl) (by kernel_rfl) run_q28
theorem hg_q29 : HkGood Tryz.prog q29.hook := inst_good okt callsOK mixed hB_good dhC_good q29 (by kernel_rfl) (by kernel_rfl) run_q29
theorem hg_q30 : HkGood Tryz.prog q30.hook := inst_good okt callsOK mixed hB_good dhC_good q30 (by kernel_rfl) (by kernel_rfl) run_q30
theorem hg_q31 : HkGood Tryz.prog q31.hook := inst_good okt callsOK mixed hB_good dhC_good q31 (by kernel_rfl) (by kernel_rfl) run_q31
theorem hD_good : HkGood Tryz.prog hD := HkGood.or (hooks_good fun i hi => by
  simp only [List.mem_cons, List.not_mem_nil, or_false] at hi
  rcases hi with rfl | rfl | rfl | rfl | rfl | rfl | rfl | rfl
  · exact hg_q0
  · exact hg_q1
  · exact hg_q2
  · exact hg_q3
  · exact hg_q4
  · exact hg_q5
  · exact hg_q7
  · exact hg_q8) hB_good
theorem run_q6 : ∀ E, q6.chk (xcall Tryz.prog okT hD dhC 100000 100 q6.f q6.args (q6.st0 E)) = true := fun E => by kernel_rfl
theorem run_q9 : ∀ E, q9.chk (xcall Tryz.prog okT hD dhC 100000 100 q9.f q9.args (q9.st0 E)) = true := fun E => by kernel_rfl
theorem hg_q9 : HkGood Tryz.prog q9.hook := inst_good okt callsOK mixed hD_good dhC_good q9 (by kernel_rfl) (by kernel_rfl) run_q9
theorem hg_q6 : HkGood Tryz.prog q6.hook := inst_good okt callsOK mixed hD_good dhC_good q6 (by kernel_rfl) (by kernel_rfl) run_q6
theorem closed_w : HkGood Tryz.prog aK.closed := closed_good okt callsOK mixed hD_good dhC_good q6 (by kernel_rfl) (by kernel_rfl) rfl (by kernel_rfl) (by kernel_rfl) (by kernel_rfl) run_q6
theorem hP_good : HkGood Tryz.prog hP := HkGood.or (hooks_good fun i hi => by
  simp only [List.mem_cons, List.not_mem_nil, or_false] at hi
  rcases hi with rfl | rfl | rfl | rfl | rfl | rfl | rfl | rfl | rfl | rfl | rfl | rfl | rfl | rfl | rfl | rfl | rfl | rfl | rfl | rfl | rfl | rfl | rfl | rfl
  · exact hg_q6
  · exact hg_q9
  · exact hg_q10
  · exact hg_q11
  · exact hg_q12
  · exact hg_q13
  · exact hg_q14
  · exact hg_q15
  · exact hg_q16
  · exact hg_q17
  · exact hg_q18
  · exact hg_q19
  · exact hg_q20
  · exact hg_q21
  · exact hg_q22
  · exact hg_q23
  · exact hg_q24
  · exact hg_q25
  · exact hg_q26
  · exact hg_q27
  · exact hg_q28
  · exact hg_q29
  · exact hg_q30
  · exact hg_q31) hB_good
theorem hW_good : HkGood Tryz.prog hW := HkGood.or hP_good closed_w
end Go.Proofs.YtadbbdnjcpaooaaGreatDoor
