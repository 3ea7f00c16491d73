/- The hooks are good. -/
import Derived.Test.YtjfmelmiegnmjaaGreatDoorXSnXh
import Derived.Test.YtjfmelmiegnmjaaGreatDoorXSnOk2
import Derived.Test.YtjfmelmiegnmjaaGreatDoorXSnXr0
import Derived.Test.YtjfmelmiegnmjaaGreatDoorXSnXr1
import Derived.Test.YtjfmelmiegnmjaaGreatDoorXSnXr2
import Derived.Test.YtjfmelmiegnmjaaGreatDoorXSnXr3
import Derived.Test.YtjfmelmiegnmjaaGreatDoorXSnXr4
set_option linter.all false
open Go Go.Sx Go.Proofs
set_option linter.all false
namespace Go.Proofs.YtjfmelmiegnmjaaGreatDoor
set_option maxRecDepth 1000000
theorem hk0_good : HkGood Tryz.prog hk0 := HkGood.or (hooks_good fun i hi => by cases hi) hC_good
theorem hg_q0 : HkGood Tryz.prog q0.hook := inst_good okt callsOK mixed hk0_good dhC_good q0 (by kernel_rfl) (by kernel_rfl) run_q0
theorem hk1_good : HkGood Tryz.prog hk1 := HkGood.or (hooks_good (l := [q0]) fun i hi => by
  simp only [List.mem_cons, List.not_mem_nil, or_false] at hi
  rcases hi with rfl
  · exact hg_q0) hC_good
theorem hg_q1 : HkGood Tryz.prog q1.hook := inst_good okt callsOK mixed hk1_good dhC_good q1 (by kernel_rfl) (by kernel_rfl) run_q1
theorem hk2_good : HkGood Tryz.prog hk2 := HkGood.or (hooks_good fun i hi => by cases hi) hC_good
theorem hg_q2 : HkGood Tryz.prog q2.hook := inst_good okt callsOK mixed hk2_good dhC_good q2 (by kernel_rfl) (by kernel_rfl) run_q2
theorem hk3_good : HkGood Tryz.prog hk3 := HkGood.or (hooks_good fun i hi => by cases hi) hC_good
theorem hg_q3 : HkGood Tryz.prog q3.hook := inst_good okt callsOK mixed hk3_good dhC_good q3 (by kernel_rfl) (by kernel_rfl) run_q3
theorem hk4_good : HkGood Tryz.prog hk4 := HkGood.or (hooks_good (l := [q3]) fun i hi => by
  simp only [List.mem_cons, List.not_mem_nil, or_false] at hi
  rcases hi with rfl
  · exact hg_q3) hC_good
theorem hg_q4 : HkGood Tryz.prog q4.hook := inst_good okt callsOK mixed hk4_good dhC_good q4 (by kernel_rfl) (by kernel_rfl) run_q4
theorem hk5_good : HkGood Tryz.prog hk5 := HkGood.or (hooks_good (l := [q1,q2,q4]) fun i hi => by
  simp only [List.mem_cons, List.not_mem_nil, or_false] at hi
  rcases hi with rfl | rfl | rfl
  · exact hg_q1
  · exact hg_q2
  · exact hg_q4) hC_good
theorem hg_q5 : HkGood Tryz.prog q5.hook := inst_good okt callsOK mixed hk5_good dhC_good q5 (by kernel_rfl) (by kernel_rfl) run_q5
theorem hk6_good : HkGood Tryz.prog hk6 := HkGood.or (hooks_good fun i hi => by cases hi) hC_good
theorem hg_q6 : HkGood Tryz.prog q6.hook := inst_good okt callsOK mixed hk6_good dhC_good q6 (by kernel_rfl) (by kernel_rfl) run_q6
theorem hk7_good : HkGood Tryz.prog hk7 := HkGood.or (hooks_good fun i hi => by cases hi) hC_good
theorem hg_q7 : HkGood Tryz.prog q7.hook := inst_good okt callsOK mixed hk7_good dhC_good q7 (by kernel_rfl) (by kernel_rfl) run_q7
theorem hk8_good : HkGood Tryz.prog hk8 := HkGood.or (hooks_good fun i hi => by cases hi) hC_good
theorem hg_q8 : HkGood Tryz.prog q8.hook := inst_good okt callsOK mixed hk8_good dhC_good q8 (by kernel_rfl) (by kernel_rfl) run_q8
theorem hk9_good : HkGood Tryz.prog hk9 := HkGood.or (hooks_good (l := [q6,q7,q8]) fun i hi => by
  simp only [List.mem_cons, List.not_mem_nil, or_false] at hi
  rcases hi with rfl | rfl | rfl
  · exact hg_q6
  · exact hg_q7
  · exact hg_q8) hC_good
theorem hg_q9 : HkGood Tryz.prog q9.hook := inst_good okt callsOK mixed hk9_good dhC_good q9 (by kernel_rfl) (by kernel_rfl) run_q9
theorem hk10_good : HkGood Tryz.prog hk10 := HkGood.or (hooks_good (l := [q9]) fun i hi => by
  simp only [List.mem_cons, List.not_mem_nil, or_false] at hi
  rcases hi with rfl
  · exact hg_q9) hC_good
theorem hg_q10 : HkGood Tryz.prog q10.hook := inst_good okt callsOK mixed hk10_good dhC_good q10 (by kernel_rfl) (by kernel_rfl) run_q10
theorem hk11_good : HkGood Tryz.prog hk11 := HkGood.or (hooks_good fun i hi => by cases hi) hC_good
theorem hg_q11 : HkGood Tryz.prog q11.hook := inst_good okt callsOK mixed hk11_good dhC_good q11 (by kernel_rfl) (by kernel_rfl) run_q11
theorem hk12_good : HkGood Tryz.prog hk12 := HkGood.or (hooks_good fun i hi => by cases hi) hC_good
theorem hg_q12 : HkGood Tryz.prog q12.hook := inst_good okt callsOK mixed hk12_good dhC_good q12 (by kernel_rfl) (by kernel_rfl) run_q12
theorem hk13_good : HkGood Tryz.prog hk13 := HkGood.or (hooks_good fun i hi => by cases hi) hC_good
theorem hg_q13 : HkGood Tryz.prog q13.hook := inst_good okt callsOK mixed hk13_good dhC_good q13 (by kernel_rfl) (by kernel_rfl) run_q13
theorem hk14_good : HkGood Tryz.prog hk14 := HkGood.or (hooks_good fun i hi => by cases hi) hC_good
theorem hg_q14 : HkGood Tryz.prog q14.hook := inst_good okt callsOK mixed hk14_good dhC_good q14 (by kernel_rfl) (by kernel_rfl) run_q14
theorem hk15_good : HkGood Tryz.prog hk15 := HkGood.or (hooks_good fun i hi => by cases hi) hC_good
theorem hg_q15 : HkGood Tryz.prog q15.hook := inst_good okt callsOK mixed hk15_good dhC_good q15 (by kernel_rfl) (by kernel_rfl) run_q15
theorem hk16_good : HkGood Tryz.prog hk16 := HkGood.or (hooks_good fun i hi => by cases hi) hC_good
theorem hg_q16 : HkGood Tryz.prog q16.hook := inst_good okt callsOK mixed hk16_good dhC_good q16 (by kernel_rfl) (by kernel_rfl) run_q16
theorem hk17_good : HkGood Tryz.prog hk17 := HkGood.or (hooks_good (l := [q12,q13,q14,q15,q16]) fun i hi => by
  simp only [List.mem_cons, List.not_mem_nil, or_false] at hi
  rcases hi with rfl | rfl | rfl | rfl | rfl
  · exact hg_q12
  · exact hg_q13
  · exact hg_q14
  · exact hg_q15
  · exact hg_q16) hC_good
theorem hg_q17 : HkGood Tryz.prog q17.hook := inst_good okt callsOK mixed hk17_good dhC_good q17 (by kernel_rfl) (by kernel_rfl) run_q17
theorem hk18_good : HkGood Tryz.prog hk18 := HkGood.or (hooks_good fun i hi => by cases hi) hC_good
theorem hg_q18 : HkGood Tryz.prog q18.hook := inst_good okt callsOK mixed hk18_good dhC_good q18 (by kernel_rfl) (by kernel_rfl) run_q18
theorem hk19_good : HkGood Tryz.prog hk19 := HkGood.or (hooks_good fun i hi => by cases hi) hC_good
theorem hg_q19 : HkGood Tryz.prog q19.hook := inst_good okt callsOK mixed hk19_good dhC_good q19 (by kernel_rfl) (by kernel_rfl) run_q19
theorem hk20_good : HkGood Tryz.prog hk20 := HkGood.or (hooks_good fun i hi => by cases hi) hC_good
theorem hg_q20 : HkGood Tryz.prog q20.hook := inst_good okt callsOK mixed hk20_good dhC_good q20 (by kernel_rfl) (by kernel_rfl) run_q20
theorem hk21_good : HkGood Tryz.prog hk21 := HkGood.or (hooks_good (l := [q18,q19,q20]) fun i hi => by
  simp only [List.mem_cons, List.not_mem_nil, or_false] at hi
  rcases hi with rfl | rfl | rfl
  · exact hg_q18
  · exact hg_q19
  · exact hg_q20) hC_good
theorem hg_q21 : HkGood Tryz.prog q21.hook := inst_good okt callsOK mixed hk21_good dhC_good q21 (by kernel_rfl) (by kernel_rfl) run_q21
theorem hk22_good : HkGood Tryz.prog hk22 := HkGood.or (hooks_good (l := [q21]) fun i hi => by
  simp only [List.mem_cons, List.not_mem_nil, or_false] at hi
  rcases hi with rfl
  · exact hg_q21) hC_good
theorem hg_q22 : HkGood Tryz.prog q22.hook := inst_good okt callsOK mixed hk22_good dhC_good q22 (by kernel_rfl) (by kernel_rfl) run_q22
theorem hk23_good : HkGood Tryz.prog hk23 := HkGood.or (hooks_good fun i hi => by cases hi) hC_good
theorem hg_q23 : HkGood Tryz.prog q23.hook := inst_good okt callsOK mixed hk23_good dhC_good q23 (by kernel_rfl) (by kernel_rfl) run_q23
theorem hk24_good : HkGood Tryz.prog hk24 := HkGood.or (hooks_good fun i hi => by cases hi) hC_good
theorem hg_q24 : HkGood Tryz.prog q24.hook := inst_good okt callsOK mixed hk24_good dhC_good q24 (by kernel_rfl) (by kernel_rfl) run_q24
theorem hk25_good : HkGood Tryz.prog hk25 := HkGood.or (hooks_good fun i hi => by cases hi) hC_good
theorem hg_q25 : HkGood Tryz.prog q25.hook := inst_good okt callsOK mixed hk25_good dhC_good q25 (by kernel_rfl) (by kernel_rfl) run_q25
theorem hk26_good : HkGood Tryz.prog hk26 := HkGood.or (hooks_good fun i hi => by cases hi) hC_good
theorem hg_q26 : HkGood Tryz.prog q26.hook := inst_good okt callsOK mixed hk26_good dhC_good q26 (by kernel_rfl) (by kernel_rfl) run_q26
theorem hk27_good : HkGood Tryz.prog hk27 := HkGood.or (hooks_good fun i hi => by cases hi) hC_good
theorem hg_q27 : HkGood Tryz.prog q27.hook := inst_good okt callsOK mixed hk27_good dhC_good q27 (by kernel_rfl) (by kernel_rfl) run_q27
theorem hk28_good : HkGood Tryz.prog hk28 := HkGood.or (hooks_good fun i hi => by cases hi) hC_good
theorem hg_q28 : HkGood Tryz.prog q28.hook := inst_good okt callsOK mixed hk28_good dhC_good q28 (by kernel_rfl) (by kernel_rfl) run_q28
theorem hk29_good : HkGood Tryz.prog hk29 := HkGood.or (hooks_good (l := [q24,q25,q26,q27,q28]) fun i hi => by
  simp only [List.mem_cons, List.not_mem_nil, or_false] at hi
  rcases hi with rfl | rfl | rfl | rfl | rfl
  · exact hg_q24
  · exact hg_q25
  · exact hg_q26
  · exact hg_q27
  · exact hg_q28) hC_good
theorem hg_q29 : HkGood Tryz.prog q29.hook := inst_good okt callsOK mixed hk29_good dhC_good q29 (by kernel_rfl) (by kernel_rfl) run_q29
theorem hk30_good : HkGood Tryz.prog hk30 := HkGood.or (hooks_good (l := [q10,q11,q17,q22,q23,q29]) fun i hi => by
  simp only [List.mem_cons, List.not_mem_nil, or_false] at hi
  rcases hi with rfl | rfl | rfl | rfl | rfl | rfl
  · exact hg_q10
  · exact hg_q11
  · exact hg_q17
  · exact hg_q22
  · exact hg_q23
  · exact hg_q29) hC_good
theorem hg_q30 : HkGood Tryz.prog (q30.parHook 2 0) := par_good okt callsOK mixed hk30_good dhC_good q30 (by kernel_rfl) (by kernel_rfl) run_q30
theorem hk31_good : HkGood Tryz.prog hk31 := HkGood.or (hooks_good fun i hi => by cases hi) hC_good
theorem hg_q31 : HkGood Tryz.prog q31.hook := inst_good okt callsOK mixed hk31_good dhC_good q31 (by kernel_rfl) (by kernel_rfl) run_q31
theorem hk32_good : HkGood Tryz.prog hk32 := HkGood.or (hooks_good (l := [q31]) fun i hi => by
  simp only [List.mem_cons, List.not_mem_nil, or_false] at hi
  rcases hi with rfl
  · exact hg_q31) hC_good
theorem hg_q32 : HkGood Tryz.prog (q32.parHook 2 1) := par_good okt callsOK mixed hk32_good dhC_good q32 (by kernel_rfl) (by kernel_rfl) run_q32
theorem closed_w : HkGood Tryz.prog aK.closed := closed_good okt callsOK mixed hk5_good dhC_good q5 (by kernel_rfl) (by kernel_rfl) rfl (by kernel_rfl) (by kernel_rfl) (by kernel_rfl) run_q5
theorem hP_good : HkGood Tryz.prog hP := HkGood.or hg_q32 (HkGood.or hg_q30 (HkGood.or (hooks_good (l := [q5]) fun i hi => by
  simp only [List.mem_cons, List.not_mem_nil, or_false] at hi
  rcases hi with rfl
  · exact hg_q5) hC_good))
theorem hW_good : HkGood Tryz.prog hW := HkGood.or hP_good (HkGood.or closed_w hT_good)
end Go.Proofs.YtjfmelmiegnmjaaGreatDoor
