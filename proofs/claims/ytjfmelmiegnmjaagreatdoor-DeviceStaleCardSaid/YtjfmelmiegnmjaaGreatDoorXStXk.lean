/- The hooks are good. -/
import Derived.Test.YtjfmelmiegnmjaaGreatDoorXStXh
import Derived.Test.YtjfmelmiegnmjaaGreatDoorXStOk2
import Derived.Test.YtjfmelmiegnmjaaGreatDoorXStXr0
import Derived.Test.YtjfmelmiegnmjaaGreatDoorXStXr1
import Derived.Test.YtjfmelmiegnmjaaGreatDoorXStXr2
import Derived.Test.YtjfmelmiegnmjaaGreatDoorXStXr3
import Derived.Test.YtjfmelmiegnmjaaGreatDoorXStXr4
import Derived.Test.YtjfmelmiegnmjaaGreatDoorXStXr5
import Derived.Test.YtjfmelmiegnmjaaGreatDoorXStXr6
import Derived.Test.YtjfmelmiegnmjaaGreatDoorXStXr7
import Derived.Test.YtjfmelmiegnmjaaGreatDoorXStXr8
set_option linter.all false
open Go Go.Sx Go.Proofs
set_option linter.all false
namespace Go.Proofs.YtjfmelmiegnmjaaGreatDoor
set_option maxRecDepth 1000000
theorem hk0_good : HkGood Tryz.prog hk0 := HkGood.or (hooks_good fun i hi => by cases hi) hCO_good
theorem hg_q0 : HkGood Tryz.prog q0.hook := inst_good okt2 callsOK mixed hk0_good dhC_good q0 (by kernel_rfl) (by kernel_rfl) run_q0
theorem hk1_good : HkGood Tryz.prog hk1 := HkGood.or (hooks_good fun i hi => by cases hi) hCO_good
theorem hg_q1 : HkGood Tryz.prog q1.hook := inst_good okt2 callsOK mixed hk1_good dhC_good q1 (by kernel_rfl) (by kernel_rfl) run_q1
theorem hk2_good : HkGood Tryz.prog hk2 := HkGood.or (hooks_good (l := [q0,q1]) fun i hi => by
  simp only [List.mem_cons, List.not_mem_nil, or_false] at hi
  rcases hi with rfl | rfl
  · exact hg_q0
  · exact hg_q1) hCO_good
theorem hg_q2 : HkGood Tryz.prog q2.hook := inst_good okt2 callsOK mixed hk2_good dhC_good q2 (by kernel_rfl) (by kernel_rfl) run_q2
theorem hk3_good : HkGood Tryz.prog hk3 := HkGood.or (hooks_good fun i hi => by cases hi) hCO_good
theorem hg_q3 : HkGood Tryz.prog q3.hook := inst_good okt2 callsOK mixed hk3_good dhC_good q3 (by kernel_rfl) (by kernel_rfl) run_q3
theorem hk4_good : HkGood Tryz.prog hk4 := HkGood.or (hooks_good fun i hi => by cases hi) hCO_good
theorem hg_q4 : HkGood Tryz.prog q4.hook := inst_good okt2 callsOK mixed hk4_good dhC_good q4 (by kernel_rfl) (by kernel_rfl) run_q4
theorem hk5_good : HkGood Tryz.prog hk5 := HkGood.or (hooks_good (l := [q4]) fun i hi => by
  simp only [List.mem_cons, List.not_mem_nil, or_false] at hi
  rcases hi with rfl
  · exact hg_q4) hCO_good
theorem hg_q5 : HkGood Tryz.prog q5.hook := inst_good okt2 callsOK mixed hk5_good dhC_good q5 (by kernel_rfl) (by kernel_rfl) run_q5
theorem hk6_good : HkGood Tryz.prog hk6 := HkGood.or (hooks_good (l := [q3,q5]) fun i hi => by
  simp only [List.mem_cons, List.not_mem_nil, or_false] at hi
  rcases hi with rfl | rfl
  · exact hg_q3
  · exact hg_q5) hCO_good
theorem hg_q6 : HkGood Tryz.prog q6.hook := inst_good okt2 callsOK mixed hk6_good dhC_good q6 (by kernel_rfl) (by kernel_rfl) run_q6
theorem hk7_good : HkGood Tryz.prog hk7 := HkGood.or (hooks_good fun i hi => by cases hi) hCO_good
theorem hg_q7 : HkGood Tryz.prog q7.hook := inst_good okt2 callsOK mixed hk7_good dhC_good q7 (by kernel_rfl) (by kernel_rfl) run_q7
theorem hk8_good : HkGood Tryz.prog hk8 := HkGood.or (hooks_good fun i hi => by cases hi) hCO_good
theorem hg_q8 : HkGood Tryz.prog q8.hook := inst_good okt2 callsOK mixed hk8_good dhC_good q8 (by kernel_rfl) (by kernel_rfl) run_q8
theorem hk9_good : HkGood Tryz.prog hk9 := HkGood.or (hooks_good (l := [q8]) fun i hi => by
  simp only [List.mem_cons, List.not_mem_nil, or_false] at hi
  rcases hi with rfl
  · exact hg_q8) hCO_good
theorem hg_q9 : HkGood Tryz.prog q9.hook := inst_good okt2 callsOK mixed hk9_good dhC_good q9 (by kernel_rfl) (by kernel_rfl) run_q9
theorem hk10_good : HkGood Tryz.prog hk10 := HkGood.or (hooks_good (l := [q7,q9]) fun i hi => by
  simp only [List.mem_cons, List.not_mem_nil, or_false] at hi
  rcases hi with rfl | rfl
  · exact hg_q7
  · exact hg_q9) hCO_good
theorem hg_q10 : HkGood Tryz.prog q10.hook := inst_good okt2 callsOK mixed hk10_good dhC_good q10 (by kernel_rfl) (by kernel_rfl) run_q10
theorem hk11_good : HkGood Tryz.prog hk11 := HkGood.or (hooks_good fun i hi => by cases hi) hCO_good
theorem hg_q11 : HkGood Tryz.prog q11.hook := inst_good okt2 callsOK mixed hk11_good dhC_good q11 (by kernel_rfl) (by kernel_rfl) run_q11
theorem hk12_good : HkGood Tryz.prog hk12 := HkGood.or (hooks_good fun i hi => by cases hi) hCO_good
theorem hg_q12 : HkGood Tryz.prog q12.hook := inst_good okt2 callsOK mixed hk12_good dhC_good q12 (by kernel_rfl) (by kernel_rfl) run_q12
theorem hk13_good : HkGood Tryz.prog hk13 := HkGood.or (hooks_good (l := [q12]) fun i hi => by
  simp only [List.mem_cons, List.not_mem_nil, or_false] at hi
  rcases hi with rfl
  · exact hg_q12) hCO_good
theorem hg_q13 : HkGood Tryz.prog q13.hook := inst_good okt2 callsOK mixed hk13_good dhC_good q13 (by kernel_rfl) (by kernel_rfl) run_q13
theorem hk14_good : HkGood Tryz.prog hk14 := HkGood.or (hooks_good (l := [q11,q13]) fun i hi => by
  simp only [List.mem_cons, List.not_mem_nil, or_false] at hi
  rcases hi with rfl | rfl
  · exact hg_q11
  · exact hg_q13) hCO_good
theorem hg_q14 : HkGood Tryz.prog q14.hook := inst_good okt2 callsOK mixed hk14_good dhC_good q14 (by kernel_rfl) (by kernel_rfl) run_q14
theorem hk15_good : HkGood Tryz.prog hk15 := HkGood.or (hooks_good (l := [q6,q10,q14]) fun i hi => by
  simp only [List.mem_cons, List.not_mem_nil, or_false] at hi
  rcases hi with rfl | rfl | rfl
  · exact hg_q6
  · exact hg_q10
  · exact hg_q14) hCO_good
theorem hg_q15 : HkGood Tryz.prog (q15.parHook 2 0) := par_good okt2 callsOK mixed hk15_good dhC_good q15 (by kernel_rfl) (by kernel_rfl) run_q15
theorem hk16_good : HkGood Tryz.prog hk16 := HkGood.or (hooks_good fun i hi => by cases hi) hCO_good
theorem hg_q16 : HkGood Tryz.prog q16.hook := inst_good okt2 callsOK mixed hk16_good dhC_good q16 (by kernel_rfl) (by kernel_rfl) run_q16
theorem hk17_good : HkGood Tryz.prog hk17 := HkGood.or (hooks_good (l := [q16]) fun i hi => by
  simp only [List.mem_cons, List.not_mem_nil, or_false] at hi
  rcases hi with rfl
  · exact hg_q16) hCO_good
theorem hg_q17 : HkGood Tryz.prog q17.hook := inst_good okt2 callsOK mixed hk17_good dhC_good q17 (by kernel_rfl) (by kernel_rfl) run_q17
theorem hk18_good : HkGood Tryz.prog hk18 := HkGood.or (hooks_good fun i hi => by cases hi) hCO_good
theorem hg_q18 : HkGood Tryz.prog q18.hook := inst_good okt2 callsOK mixed hk18_good dhC_good q18 (by kernel_rfl) (by kernel_rfl) run_q18
theorem hk19_good : HkGood Tryz.prog hk19 := HkGood.or (hooks_good (l := [q18]) fun i hi => by
  simp only [List.mem_cons, List.not_mem_nil, or_false] at hi
  rcases hi with rfl
  · exact hg_q18) hCO_good
theorem hg_q19 : HkGood Tryz.prog q19.hook := inst_good okt2 callsOK mixed hk19_good dhC_good q19 (by kernel_rfl) (by kernel_rfl) run_q19
theorem hk20_good : HkGood Tryz.prog hk20 := HkGood.or (hooks_good fun i hi => by cases hi) hCO_good
theorem hg_q20 : HkGood Tryz.prog q20.hook := inst_good okt2 callsOK mixed hk20_good dhC_good q20 (by kernel_rfl) (by kernel_rfl) run_q20
theorem hk21_good : HkGood Tryz.prog hk21 := HkGood.or (hooks_good (l := [q20]) fun i hi => by
  simp only [List.mem_cons, List.not_mem_nil, or_false] at hi
  rcases hi with rfl
  · exact hg_q20) hCO_good
theorem hg_q21 : HkGood Tryz.prog q21.hook := inst_good okt2 callsOK mixed hk21_good dhC_good q21 (by kernel_rfl) (by kernel_rfl) run_q21
theorem hk22_good : HkGood Tryz.prog hk22 := HkGood.or (hooks_good fun i hi => by cases hi) hCO_good
theorem hg_q22 : HkGood Tryz.prog q22.hook := inst_good okt2 callsOK mixed hk22_good dhC_good q22 (by kernel_rfl) (by kernel_rfl) run_q22
theorem hk23_good : HkGood Tryz.prog hk23 := HkGood.or (hooks_good (l := [q22]) fun i hi => by
  simp only [List.mem_cons, List.not_mem_nil, or_false] at hi
  rcases hi with rfl
  · exact hg_q22) hCO_good
theorem hg_q23 : HkGood Tryz.prog q23.hook := inst_good okt2 callsOK mixed hk23_good dhC_good q23 (by kernel_rfl) (by kernel_rfl) run_q23
theorem hk24_good : HkGood Tryz.prog hk24 := HkGood.or (hooks_good (l := [q17,q19,q21,q23]) fun i hi => by
  simp only [List.mem_cons, List.not_mem_nil, or_false] at hi
  rcases hi with rfl | rfl | rfl | rfl
  · exact hg_q17
  · exact hg_q19
  · exact hg_q21
  · exact hg_q23) hCO_good
theorem hg_q24 : HkGood Tryz.prog q24.hook := inst_good okt2 callsOK mixed hk24_good dhC_good q24 (by kernel_rfl) (by kernel_rfl) run_q24
theorem hk25_good : HkGood Tryz.prog hk25 := HkGood.or (hooks_good fun i hi => by cases hi) hCO_good
theorem hg_q25 : HkGood Tryz.prog q25.hook := inst_good okt2 callsOK mixed hk25_good dhC_good q25 (by kernel_rfl) (by kernel_rfl) run_q25
theorem hk26_good : HkGood Tryz.prog hk26 := HkGood.or (hooks_good (l := [q25]) fun i hi => by
  simp only [List.mem_cons, List.not_mem_nil, or_false] at hi
  rcases hi with rfl
  · exact hg_q25) hCO_good
theorem hg_q26 : HkGood Tryz.prog q26.hook := inst_good okt2 callsOK mixed hk26_good dhC_good q26 (by kernel_rfl) (by kernel_rfl) run_q26
theorem hk27_good : HkGood Tryz.prog hk27 := HkGood.or (hooks_good fun i hi => by cases hi) hCO_good
theorem hg_q27 : HkGood Tryz.prog q27.hook := inst_good okt2 callsOK mixed hk27_good dhC_good q27 (by kernel_rfl) (by kernel_rfl) run_q27
theorem hk28_good : HkGood Tryz.prog hk28 := HkGood.or (hooks_good (l := [q27]) fun i hi => by
  simp only [List.mem_cons, List.not_mem_nil, or_false] at hi
  rcases hi with rfl
  · exact hg_q27) hCO_good
theorem hg_q28 : HkGood Tryz.prog q28.hook := inst_good okt2 callsOK mixed hk28_good dhC_good q28 (by kernel_rfl) (by kernel_rfl) run_q28
theorem hk29_good : HkGood Tryz.prog hk29 := HkGood.or (hooks_good (l := [q26,q28]) fun i hi => by
  simp only [List.mem_cons, List.not_mem_nil, or_false] at hi
  rcases hi with rfl | rfl
  · exact hg_q26
  · exact hg_q28) hCO_good
theorem hg_q29 : HkGood Tryz.prog q29.hook := inst_good okt2 callsOK mixed hk29_good dhC_good q29 (by kernel_rfl) (by kernel_rfl) run_q29
theorem hk30_good : HkGood Tryz.prog hk30 := HkGood.or (hooks_good fun i hi => by cases hi) hCO_good
theorem hg_q30 : HkGood Tryz.prog q30.hook := inst_good okt2 callsOK mixed hk30_good dhC_good q30 (by kernel_rfl) (by kernel_rfl) run_q30
theorem hk31_good : HkGood Tryz.prog hk31 := HkGood.or (hooks_good fun i hi => by cases hi) hCO_good
theorem hg_q31 : HkGood Tryz.prog q31.hook := inst_good okt2 callsOK mixed hk31_good dhC_good q31 (by kernel_rfl) (by kernel_rfl) run_q31
theorem hk32_good : HkGood Tryz.prog hk32 := HkGood.or (hooks_good (l := [q31]) fun i hi => by
  simp only [List.mem_cons, List.not_mem_nil, or_false] at hi
  rcases hi with rfl
  · exact hg_q31) hCO_good
theorem hg_q32 : HkGood Tryz.prog q32.hook := inst_good okt2 callsOK mixed hk32_good dhC_good q32 (by kernel_rfl) (by kernel_rfl) run_q32
theorem hk33_good : HkGood Tryz.prog hk33 := HkGood.or (hooks_good (l := [q32]) fun i hi => by
  simp only [List.mem_cons, List.not_mem_nil, or_false] at hi
  rcases hi with rfl
  · exact hg_q32) hCO_good
theorem hg_q33 : HkGood Tryz.prog q33.hook := inst_good okt2 callsOK mixed hk33_good dhC_good q33 (by kernel_rfl) (by kernel_rfl) run_q33
theorem hk34_good : HkGood Tryz.prog hk34 := HkGood.or (hooks_good fun i hi => by cases hi) hCO_good
theorem hg_q34 : HkGood Tryz.prog q34.hook := inst_good okt2 callsOK mixed hk34_good dhC_good q34 (by kernel_rfl) (by kernel_rfl) run_q34
theorem hk35_good : HkGood Tryz.prog hk35 := HkGood.or (hooks_good fun i hi => by cases hi) hCO_good
theorem hg_q35 : HkGood Tryz.prog q35.hook := inst_good okt2 callsOK mixed hk35_good dhC_good q35 (by kernel_rfl) (by kernel_rfl) run_q35
theorem hk36_good : HkGood Tryz.prog hk36 := HkGood.or (hooks_good (l := [q35]) fun i hi => by
  simp only [List.mem_cons, List.not_mem_nil, or_false] at hi
  rcases hi with rfl
  · exact hg_q35) hCO_good
theorem hg_q36 : HkGood Tryz.prog q36.hook := inst_good okt2 callsOK mixed hk36_good dhC_good q36 (by kernel_rfl) (by kernel_rfl) run_q36
theorem hk37_good : HkGood Tryz.prog hk37 := HkGood.or (hooks_good (l := [q36]) fun i hi => by
  simp only [List.mem_cons, List.not_mem_nil, or_false] at hi
  rcases hi with rfl
  · exact hg_q36) hCO_good
theorem hg_q37 : HkGood Tryz.prog q37.hook := inst_good okt2 callsOK mixed hk37_good dhC_good q37 (by kernel_rfl) (by kernel_rfl) run_q37
theorem hk38_good : HkGood Tryz.prog hk38 := HkGood.or (hooks_good (l := [q37]) fun i hi => by
  simp only [List.mem_cons, List.not_mem_nil, or_false] at hi
  rcases hi with rfl
  · exact hg_q37) hCO_good
theorem hg_q38 : HkGood Tryz.prog q38.hook := inst_good okt2 callsOK mixed hk38_good dhC_good q38 (by kernel_rfl) (by kernel_rfl) run_q38
theorem hk39_good : HkGood Tryz.prog hk39 := HkGood.or (hooks_good fun i hi => by cases hi) hCO_good
theorem hg_q39 : HkGood Tryz.prog (q39.parHook 2 1) := par_good okt2 callsOK mixed hk39_good dhC_good q39 (by kernel_rfl) (by kernel_rfl) run_q39
theorem hk40_good : HkGood Tryz.prog hk40 := HkGood.or (hooks_good fun i hi => by cases hi) hCO_good
theorem hg_q40 : HkGood Tryz.prog q40.hook := inst_good okt2 callsOK mixed hk40_good dhC_good q40 (by kernel_rfl) (by kernel_rfl) run_q40
theorem hk41_good : HkGood Tryz.prog hk41 := HkGood.or (hooks_good (l := [q40]) fun i hi => by
  simp only [List.mem_cons, List.not_mem_nil, or_false] at hi
  rcases hi with rfl
  · exact hg_q40) hCO_good
theorem hg_q41 : HkGood Tryz.prog q41.hook := inst_good okt2 callsOK mixed hk41_good dhC_good q41 (by kernel_rfl) (by kernel_rfl) run_q41
theorem hk42_good : HkGood Tryz.prog hk42 := HkGood.or (hooks_good (l := [q41]) fun i hi => by
  simp only [List.mem_cons, List.not_mem_nil, or_false] at hi
  rcases hi with rfl
  · exact hg_q41) hCO_good
theorem hg_q42 : HkGood Tryz.prog q42.hook := inst_good okt2 callsOK mixed hk42_good dhC_good q42 (by kernel_rfl) (by kernel_rfl) run_q42
theorem hk43_good : HkGood Tryz.prog hk43 := HkGood.or (hooks_good fun i hi => by cases hi) hCO_good
theorem hg_q43 : HkGood Tryz.prog q43.hook := inst_good okt2 callsOK mixed hk43_good dhC_good q43 (by kernel_rfl) (by kernel_rfl) run_q43
theorem hk44_good : HkGood Tryz.prog hk44 := HkGood.or (hooks_good fun i hi => by cases hi) hCO_good
theorem hg_q44 : HkGood Tryz.prog q44.hook := inst_good okt2 callsOK mixed hk44_good dhC_good q44 (by kernel_rfl) (by kernel_rfl) run_q44
theorem hk45_good : HkGood Tryz.prog hk45 := HkGood.or (hooks_good fun i hi => by cases hi) hCO_good
theorem hg_q45 : HkGood Tryz.prog q45.hook := inst_good okt2 callsOK mixed hk45_good dhC_good q45 (by kernel_rfl) (by kernel_rfl) run_q45
theorem hk46_good : HkGood Tryz.prog hk46 := HkGood.or (hooks_good fun i hi => by cases hi) hCO_good
theorem hg_q46 : HkGood Tryz.prog q46.hook := inst_good okt2 callsOK mixed hk46_good dhC_good q46 (by kernel_rfl) (by kernel_rfl) run_q46
theorem hk47_good : HkGood Tryz.prog hk47 := HkGood.or (hooks_good fun i hi => by cases hi) hCO_good
theorem hg_q47 : HkGood Tryz.prog q47.hook := inst_good okt2 callsOK mixed hk47_good dhC_good q47 (by kernel_rfl) (by kernel_rfl) run_q47
theorem hk48_good : HkGood Tryz.prog hk48 := HkGood.or (hooks_good (l := [q47]) fun i hi => by
  simp only [List.mem_cons, List.not_mem_nil, or_false] at hi
  rcases hi with rfl
  · exact hg_q47) hCO_good
theorem hg_q48 : HkGood Tryz.prog q48.hook := inst_good okt2 callsOK mixed hk48_good dhC_good q48 (by kernel_rfl) (by kernel_rfl) run_q48
theorem closed_w : HkGood Tryz.prog aK.closed := closed_good okt2 callsOK mixed hk2_good dhC_good q2 (by kernel_rfl) (by kernel_rfl) rfl (by kernel_rfl) (by kernel_rfl) (by kernel_rfl) run_q2
theorem hP_good : HkGood Tryz.prog hP := HkGood.or hg_q39 (HkGood.or hg_q15 (HkGood.or (hooks_good (l := [q2,q24,q29,q30,q33,q34,q38,q37,q42,q43,q44,q45,q46,q48,q47]) fun i hi => by
  simp only [List.mem_cons, List.not_mem_nil, or_false] at hi
  rcases hi with rfl | rfl | rfl | rfl | rfl | rfl | rfl | rfl | rfl | rfl | rfl | rfl | rfl | rfl | rfl
  · exact hg_q2
  · exact hg_q24
  · exact hg_q29
  · exact hg_q30
  · exact hg_q33
  · exact hg_q34
  · exact hg_q38
  · exact hg_q37
  · exact hg_q42
  · exact hg_q43
  · exact hg_q44
  · exact hg_q45
  · exact hg_q46
  · exact hg_q48
  · exact hg_q47) hCO_good))
theorem hW_good : HkGood Tryz.prog hW := HkGood.or hP_good closed_w
end Go.Proofs.YtjfmelmiegnmjaaGreatDoor
