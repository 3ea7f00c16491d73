/- The hooks are good. -/
import Derived.Test.YtjfmelmiegnmjaaGreatDoorXTrXh
import Derived.Test.YtjfmelmiegnmjaaGreatDoorXTrOk2
import Derived.Test.YtjfmelmiegnmjaaGreatDoorXTrXr0
import Derived.Test.YtjfmelmiegnmjaaGreatDoorXTrXr1
import Derived.Test.YtjfmelmiegnmjaaGreatDoorXTrXr2
import Derived.Test.YtjfmelmiegnmjaaGreatDoorXTrXr3
import Derived.Test.YtjfmelmiegnmjaaGreatDoorXTrXr4
import Derived.Test.YtjfmelmiegnmjaaGreatDoorXTrXr5
import Derived.Test.YtjfmelmiegnmjaaGreatDoorXTrXr6
import Derived.Test.YtjfmelmiegnmjaaGreatDoorXTrXr7
import Derived.Test.YtjfmelmiegnmjaaGreatDoorXTrXr8
import Derived.Test.YtjfmelmiegnmjaaGreatDoorXTrXr9
import Derived.Test.YtjfmelmiegnmjaaGreatDoorXTrXr10
import Derived.Test.YtjfmelmiegnmjaaGreatDoorXTrXr11
import Derived.Test.YtjfmelmiegnmjaaGreatDoorXTrXr12
import Derived.Test.YtjfmelmiegnmjaaGreatDoorXTrXr13
import Derived.Test.YtjfmelmiegnmjaaGreatDoorXTrXr14
import Derived.Test.YtjfmelmiegnmjaaGreatDoorXTrXr15
import Derived.Test.YtjfmelmiegnmjaaGreatDoorXTrXr16
import Derived.Test.YtjfmelmiegnmjaaGreatDoorXTrXr17
import Derived.Test.YtjfmelmiegnmjaaGreatDoorXTrXr18
import Derived.Test.YtjfmelmiegnmjaaGreatDoorXTrXr19
set_option linter.all false
open Go Go.Sx Go.Proofs
set_option linter.all false
namespace Go.Proofs.YtjfmelmiegnmjaaGreatDoor
set_option maxRecDepth 1000000
theorem hk0_good : HkGood Tryz.prog hk0 := HkGood.or (hooks_good fun i hi => by cases hi) hC_good
theorem hg_q0 : HkGood Tryz.prog q0.hook := inst_good okt callsOK mixed hk0_good dhC_good q0 (by kernel_rfl) (by kernel_rfl) run_q0
theorem hk1_good : HkGood Tryz.prog hk1 := HkGood.or (hooks_good (l := [q0]) fun i hi => by
  simp only [List.mem_cons, List.not_mem_nil, or_false] at hi
  rcases hi with rfl
  · exact hg_q0) hC_good
theorem hg_q1 : HkGood Tryz.prog q1.hook := inst_good okt callsOK mixed hk1_good dhC_good q1 (by kernel_rfl) (by kernel_rfl) run_q1
theorem hk2_good : HkGood Tryz.prog hk2 := HkGood.or (hooks_good fun i hi => by cases hi) hC_good
theorem hg_q2 : HkGood Tryz.prog q2.hook := inst_good okt callsOK mixed hk2_good dhC_good q2 (by kernel_rfl) (by kernel_rfl) run_q2
theorem hk3_good : HkGood Tryz.prog hk3 := HkGood.or (hooks_good (l := [q2]) fun i hi => by
  simp only [List.mem_cons, List.not_mem_nil, or_false] at hi
  rcases hi with rfl
  · exact hg_q2) hC_good
theorem hg_q3 : HkGood Tryz.prog q3.hook := inst_good okt callsOK mixed hk3_good dhC_good q3 (by kernel_rfl) (by kernel_rfl) run_q3
theorem hk4_good : HkGood Tryz.prog hk4 := HkGood.or (hooks_good fun i hi => by cases hi) hC_good
theorem hg_q4 : HkGood Tryz.prog q4.hook := inst_good okt callsOK mixed hk4_good dhC_good q4 (by kernel_rfl) (by kernel_rfl) run_q4
theorem hk5_good : HkGood Tryz.prog hk5 := HkGood.or (hooks_good (l := [q4]) fun i hi => by
  simp only [List.mem_cons, List.not_mem_nil, or_false] at hi
  rcases hi with rfl
  · exact hg_q4) hC_good
theorem hg_q5 : HkGood Tryz.prog q5.hook := inst_good okt callsOK mixed hk5_good dhC_good q5 (by kernel_rfl) (by kernel_rfl) run_q5
theorem hk6_good : HkGood Tryz.prog hk6 := HkGood.or (hooks_good (l := [q1,q3,q5]) fun i hi => by
  simp only [List.mem_cons, List.not_mem_nil, or_false] at hi
  rcases hi with rfl | rfl | rfl
  · exact hg_q1
  · exact hg_q3
  · exact hg_q5) hC_good
theorem hg_q6 : HkGood Tryz.prog q6.hook := inst_good okt callsOK mixed hk6_good dhC_good q6 (by kernel_rfl) (by kernel_rfl) run_q6
theorem hk7_good : HkGood Tryz.prog hk7 := HkGood.or (hooks_good fun i hi => by cases hi) hC_good
theorem hg_q7 : HkGood Tryz.prog q7.hook := inst_good okt callsOK mixed hk7_good dhC_good q7 (by kernel_rfl) (by kernel_rfl) run_q7
theorem hk8_good : HkGood Tryz.prog hk8 := HkGood.or (hooks_good fun i hi => by cases hi) hC_good
theorem hg_q8 : HkGood Tryz.prog q8.hook := inst_good okt callsOK mixed hk8_good dhC_good q8 (by kernel_rfl) (by kernel_rfl) run_q8
theorem hk9_good : HkGood Tryz.prog hk9 := HkGood.or (hooks_good fun i hi => by cases hi) hC_good
theorem hg_q9 : HkGood Tryz.prog q9.hook := inst_good okt callsOK mixed hk9_good dhC_good q9 (by kernel_rfl) (by kernel_rfl) run_q9
theorem hk10_good : HkGood Tryz.prog hk10 := HkGood.or (hooks_good fun i hi => by cases hi) hC_good
theorem hg_q10 : HkGood Tryz.prog q10.hook := inst_good okt callsOK mixed hk10_good dhC_good q10 (by kernel_rfl) (by kernel_rfl) run_q10
theorem hk11_good : HkGood Tryz.prog hk11 := HkGood.or (hooks_good (l := [q7,q8,q9,q10]) fun i hi => by
  simp only [List.mem_cons, List.not_mem_nil, or_false] at hi
  rcases hi with rfl | rfl | rfl | rfl
  · exact hg_q7
  · exact hg_q8
  · exact hg_q9
  · exact hg_q10) hC_good
theorem hg_q11 : HkGood Tryz.prog q11.hook := inst_good okt callsOK mixed hk11_good dhC_good q11 (by kernel_rfl) (by kernel_rfl) run_q11
theorem hk12_good : HkGood Tryz.prog hk12 := HkGood.or (hooks_good (l := [q11]) fun i hi => by
  simp only [List.mem_cons, List.not_mem_nil, or_false] at hi
  rcases hi with rfl
  · exact hg_q11) hC_good
theorem hg_q12 : HkGood Tryz.prog q12.hook := inst_good okt callsOK mixed hk12_good dhC_good q12 (by kernel_rfl) (by kernel_rfl) run_q12
theorem hk13_good : HkGood Tryz.prog hk13 := HkGood.or (hooks_good fun i hi => by cases hi) hC_good
theorem hg_q13 : HkGood Tryz.prog q13.hook := inst_good okt callsOK mixed hk13_good dhC_good q13 (by kernel_rfl) (by kernel_rfl) run_q13
theorem hk14_good : HkGood Tryz.prog hk14 := HkGood.or (hooks_good (l := [q12,q13]) fun i hi => by
  simp only [List.mem_cons, List.not_mem_nil, or_false] at hi
  rcases hi with rfl | rfl
  · exact hg_q12
  · exact hg_q13) hC_good
theorem hg_q14 : HkGood Tryz.prog q14.hook := inst_good okt callsOK mixed hk14_good dhC_good q14 (by kernel_rfl) (by kernel_rfl) run_q14
theorem hk15_good : HkGood Tryz.prog hk15 := HkGood.or (hooks_good fun i hi => by cases hi) hC_good
theorem hg_q15 : HkGood Tryz.prog q15.hook := inst_good okt callsOK mixed hk15_good dhC_good q15 (by kernel_rfl) (by kernel_rfl) run_q15
theorem hk16_good : HkGood Tryz.prog hk16 := HkGood.or (hooks_good fun i hi => by cases hi) hC_good
theorem hg_q16 : HkGood Tryz.prog q16.hook := inst_good okt callsOK mixed hk16_good dhC_good q16 (by kernel_rfl) (by kernel_rfl) run_q16
theorem hk17_good : HkGood Tryz.prog hk17 := HkGood.or (hooks_good fun i hi => by cases hi) hC_good
theorem hg_q17 : HkGood Tryz.prog q17.hook := inst_good okt callsOK mixed hk17_good dhC_good q17 (by kernel_rfl) (by kernel_rfl) run_q17
theorem hk18_good : HkGood Tryz.prog hk18 := HkGood.or (hooks_good fun i hi => by cases hi) hC_good
theorem hg_q18 : HkGood Tryz.prog q18.hook := inst_good okt callsOK mixed hk18_good dhC_good q18 (by kernel_rfl) (by kernel_rfl) run_q18
theorem hk19_good : HkGood Tryz.prog hk19 := HkGood.or (hooks_good fun i hi => by cases hi) hC_good
theorem hg_q19 : HkGood Tryz.prog q19.hook := inst_good okt callsOK mixed hk19_good dhC_good q19 (by kernel_rfl) (by kernel_rfl) run_q19
theorem hk20_good : HkGood Tryz.prog hk20 := HkGood.or (hooks_good (l := [q15,q16,q17,q18,q19]) fun i hi => by
  simp only [List.mem_cons, List.not_mem_nil, or_false] at hi
  rcases hi with rfl | rfl | rfl | rfl | rfl
  · exact hg_q15
  · exact hg_q16
  · exact hg_q17
  · exact hg_q18
  · exact hg_q19) hC_good
theorem hg_q20 : HkGood Tryz.prog q20.hook := inst_good okt callsOK mixed hk20_good dhC_good q20 (by kernel_rfl) (by kernel_rfl) run_q20
theorem hk21_good : HkGood Tryz.prog hk21 := HkGood.or (hooks_good fun i hi => by cases hi) hC_good
theorem hg_q21 : HkGood Tryz.prog q21.hook := inst_good okt callsOK mixed hk21_good dhC_good q21 (by kernel_rfl) (by kernel_rfl) run_q21
theorem hk22_good : HkGood Tryz.prog hk22 := HkGood.or (hooks_good fun i hi => by cases hi) hC_good
theorem hg_q22 : HkGood Tryz.prog q22.hook := inst_good okt callsOK mixed hk22_good dhC_good q22 (by kernel_rfl) (by kernel_rfl) run_q22
theorem hk23_good : HkGood Tryz.prog hk23 := HkGood.or (hooks_good fun i hi => by cases hi) hC_good
theorem hg_q23 : HkGood Tryz.prog q23.hook := inst_good okt callsOK mixed hk23_good dhC_good q23 (by kernel_rfl) (by kernel_rfl) run_q23
theorem hk24_good : HkGood Tryz.prog hk24 := HkGood.or (hooks_good fun i hi => by cases hi) hC_good
theorem hg_q24 : HkGood Tryz.prog q24.hook := inst_good okt callsOK mixed hk24_good dhC_good q24 (by kernel_rfl) (by kernel_rfl) run_q24
theorem hk25_good : HkGood Tryz.prog hk25 := HkGood.or (hooks_good (l := [q21,q22,q23,q24]) fun i hi => by
  simp only [List.mem_cons, List.not_mem_nil, or_false] at hi
  rcases hi with rfl | rfl | rfl | rfl
  · exact hg_q21
  · exact hg_q22
  · exact hg_q23
  · exact hg_q24) hC_good
theorem hg_q25 : HkGood Tryz.prog q25.hook := inst_good okt callsOK mixed hk25_good dhC_good q25 (by kernel_rfl) (by kernel_rfl) run_q25
theorem hk26_good : HkGood Tryz.prog hk26 := HkGood.or (hooks_good (l := [q25]) fun i hi => by
  simp only [List.mem_cons, List.not_mem_nil, or_false] at hi
  rcases hi with rfl
  · exact hg_q25) hC_good
theorem hg_q26 : HkGood Tryz.prog q26.hook := inst_good okt callsOK mixed hk26_good dhC_good q26 (by kernel_rfl) (by kernel_rfl) run_q26
theorem hk27_good : HkGood Tryz.prog hk27 := HkGood.or (hooks_good fun i hi => by cases hi) hC_good
theorem hg_q27 : HkGood Tryz.prog q27.hook := inst_good okt callsOK mixed hk27_good dhC_good q27 (by kernel_rfl) (by kernel_rfl) run_q27
theorem hk28_good : HkGood Tryz.prog hk28 := HkGood.or (hooks_good (l := [q26,q27]) fun i hi => by
  simp only [List.mem_cons, List.not_mem_nil, or_false] at hi
  rcases hi with rfl | rfl
  · exact hg_q26
  · exact hg_q27) hC_good
theorem hg_q28 : HkGood Tryz.prog q28.hook := inst_good okt callsOK mixed hk28_good dhC_good q28 (by kernel_rfl) (by kernel_rfl) run_q28
theorem hk29_good : HkGood Tryz.prog hk29 := HkGood.or (hooks_good fun i hi => by cases hi) hC_good
theorem hg_q29 : HkGood Tryz.prog q29.hook := inst_good okt callsOK mixed hk29_good dhC_good q29 (by kernel_rfl) (by kernel_rfl) run_q29
theorem hk30_good : HkGood Tryz.prog hk30 := HkGood.or (hooks_good fun i hi => by cases hi) hC_good
theorem hg_q30 : HkGood Tryz.prog q30.hook := inst_good okt callsOK mixed hk30_good dhC_good q30 (by kernel_rfl) (by kernel_rfl) run_q30
theorem hk31_good : HkGood Tryz.prog hk31 := HkGood.or (hooks_good fun i hi => by cases hi) hC_good
theorem hg_q31 : HkGood Tryz.prog q31.hook := inst_good okt callsOK mixed hk31_good dhC_good q31 (by kernel_rfl) (by kernel_rfl) run_q31
theorem hk32_good : HkGood Tryz.prog hk32 := HkGood.or (hooks_good fun i hi => by cases hi) hC_good
theorem hg_q32 : HkGood Tryz.prog q32.hook := inst_good okt callsOK mixed hk32_good dhC_good q32 (by kernel_rfl) (by kernel_rfl) run_q32
theorem hk33_good : HkGood Tryz.prog hk33 := HkGood.or (hooks_good fun i hi => by cases hi) hC_good
theorem hg_q33 : HkGood Tryz.prog q33.hook := inst_good okt callsOK mixed hk33_good dhC_good q33 (by kernel_rfl) (by kernel_rfl) run_q33
theorem hk34_good : HkGood Tryz.prog hk34 := HkGood.or (hooks_good (l := [q29,q30,q31,q32,q33]) fun i hi => by
  simp only [List.mem_cons, List.not_mem_nil, or_false] at hi
  rcases hi with rfl | rfl | rfl | rfl | rfl
  · exact hg_q29
  · exact hg_q30
  · exact hg_q31
  · exact hg_q32
  · exact hg_q33) hC_good
theorem hg_q34 : HkGood Tryz.prog q34.hook := inst_good okt callsOK mixed hk34_good dhC_good q34 (by kernel_rfl) (by kernel_rfl) run_q34
theorem hk35_good : HkGood Tryz.prog hk35 := HkGood.or (hooks_good fun i hi => by cases hi) hC_good
theorem hg_q35 : HkGood Tryz.prog q35.hook := inst_good okt callsOK mixed hk35_good dhC_good q35 (by kernel_rfl) (by kernel_rfl) run_q35
theorem hk36_good : HkGood Tryz.prog hk36 := HkGood.or (hooks_good fun i hi => by cases hi) hC_good
theorem hg_q36 : HkGood Tryz.prog q36.hook := inst_good okt callsOK mixed hk36_good dhC_good q36 (by kernel_rfl) (by kernel_rfl) run_q36
theorem hk37_good : HkGood Tryz.prog hk37 := HkGood.or (hooks_good fun i hi => by cases hi) hC_good
theorem hg_q37 : HkGood Tryz.prog q37.hook := inst_good okt callsOK mixed hk37_good dhC_good q37 (by kernel_rfl) (by kernel_rfl) run_q37
theorem hk38_good : HkGood Tryz.prog hk38 := HkGood.or (hooks_good fun i hi => by cases hi) hC_good
theorem hg_q38 : HkGood Tryz.prog q38.hook := inst_good okt callsOK mixed hk38_good dhC_good q38 (by kernel_rfl) (by kernel_rfl) run_q38
theorem hk39_good : HkGood Tryz.prog hk39 := HkGood.or (hooks_good (l := [q35,q36,q37,q38]) fun i hi => by
  simp only [List.mem_cons, List.not_mem_nil, or_false] at hi
  rcases hi with rfl | rfl | rfl | rfl
  · exact hg_q35
  · exact hg_q36
  · exact hg_q37
  · exact hg_q38) hC_good
theorem hg_q39 : HkGood Tryz.prog q39.hook := inst_good okt callsOK mixed hk39_good dhC_good q39 (by kernel_rfl) (by kernel_rfl) run_q39
theorem hk40_good : HkGood Tryz.prog hk40 := HkGood.or (hooks_good (l := [q39]) fun i hi => by
  simp only [List.mem_cons, List.not_mem_nil, or_false] at hi
  rcases hi with rfl
  · exact hg_q39) hC_good
theorem hg_q40 : HkGood Tryz.prog q40.hook := inst_good okt callsOK mixed hk40_good dhC_good q40 (by kernel_rfl) (by kernel_rfl) run_q40
theorem hk41_good : HkGood Tryz.prog hk41 := HkGood.or (hooks_good fun i hi => by cases hi) hC_good
theorem hg_q41 : HkGood Tryz.prog q41.hook := inst_good okt callsOK mixed hk41_good dhC_good q41 (by kernel_rfl) (by kernel_rfl) run_q41
theorem hk42_good : HkGood Tryz.prog hk42 := HkGood.or (hooks_good (l := [q40,q41]) fun i hi => by
  simp only [List.mem_cons, List.not_mem_nil, or_false] at hi
  rcases hi with rfl | rfl
  · exact hg_q40
  · exact hg_q41) hC_good
theorem hg_q42 : HkGood Tryz.prog q42.hook := inst_good okt callsOK mixed hk42_good dhC_good q42 (by kernel_rfl) (by kernel_rfl) run_q42
theorem hk43_good : HkGood Tryz.prog hk43 := HkGood.or (hooks_good fun i hi => by cases hi) hC_good
theorem hg_q43 : HkGood Tryz.prog q43.hook := inst_good okt callsOK mixed hk43_good dhC_good q43 (by kernel_rfl) (by kernel_rfl) run_q43
theorem hk44_good : HkGood Tryz.prog hk44 := HkGood.or (hooks_good (l := [q43]) fun i hi => by
  simp only [List.mem_cons, List.not_mem_nil, or_false] at hi
  rcases hi with rfl
  · exact hg_q43) hC_good
theorem hg_q44 : HkGood Tryz.prog q44.hook := inst_good okt callsOK mixed hk44_good dhC_good q44 (by kernel_rfl) (by kernel_rfl) run_q44
theorem hk45_good : HkGood Tryz.prog hk45 := HkGood.or (hooks_good fun i hi => by cases hi) hC_good
theorem hg_q45 : HkGood Tryz.prog q45.hook := inst_good okt callsOK mixed hk45_good dhC_good q45 (by kernel_rfl) (by kernel_rfl) run_q45
theorem hk46_good : HkGood Tryz.prog hk46 := HkGood.or (hooks_good fun i hi => by cases hi) hC_good
theorem hg_q46 : HkGood Tryz.prog q46.hook := inst_good okt callsOK mixed hk46_good dhC_good q46 (by kernel_rfl) (by kernel_rfl) run_q46
theorem hk47_good : HkGood Tryz.prog hk47 := HkGood.or (hooks_good fun i hi => by cases hi) hC_good
theorem hg_q47 : HkGood Tryz.prog q47.hook := inst_good okt callsOK mixed hk47_good dhC_good q47 (by kernel_rfl) (by kernel_rfl) run_q47
theorem hk48_good : HkGood Tryz.prog hk48 := HkGood.or (hooks_good (l := [q44,q45,q46,q47]) fun i hi => by
  simp only [List.mem_cons, List.not_mem_nil, or_false] at hi
  rcases hi with rfl | rfl | rfl | rfl
  · exact hg_q44
  · exact hg_q45
  · exact hg_q46
  · exact hg_q47) hC_good
theorem hg_q48 : HkGood Tryz.prog q48.hook := inst_good okt callsOK mixed hk48_good dhC_good q48 (by kernel_rfl) (by kernel_rfl) run_q48
theorem hk49_good : HkGood Tryz.prog hk49 := HkGood.or (hooks_good fun i hi => by cases hi) hC_good
theorem hg_q49 : HkGood Tryz.prog q49.hook := inst_good okt callsOK mixed hk49_good dhC_good q49 (by kernel_rfl) (by kernel_rfl) run_q49
theorem hk50_good : HkGood Tryz.prog hk50 := HkGood.or (hooks_good fun i hi => by cases hi) hC_good
theorem hg_q50 : HkGood Tryz.prog q50.hook := inst_good okt callsOK mixed hk50_good dhC_good q50 (by kernel_rfl) (by kernel_rfl) run_q50
theorem hk51_good : HkGood Tryz.prog hk51 := HkGood.or (hooks_good fun i hi => by cases hi) hC_good
theorem hg_q51 : HkGood Tryz.prog q51.hook := inst_good okt callsOK mixed hk51_good dhC_good q51 (by kernel_rfl) (by kernel_rfl) run_q51
theorem hk52_good : HkGood Tryz.prog hk52 := HkGood.or (hooks_good fun i hi => by cases hi) hC_good
theorem hg_q52 : HkGood Tryz.prog q52.hook := inst_good okt callsOK mixed hk52_good dhC_good q52 (by kernel_rfl) (by kernel_rfl) run_q52
theorem hk53_good : HkGood Tryz.prog hk53 := HkGood.or (hooks_good (l := [q49,q50,q51,q52]) fun i hi => by
  simp only [List.mem_cons, List.not_mem_nil, or_false] at hi
  rcases hi with rfl | rfl | rfl | rfl
  · exact hg_q49
  · exact hg_q50
  · exact hg_q51
  · exact hg_q52) hC_good
theorem hg_q53 : HkGood Tryz.prog q53.hook := inst_good okt callsOK mixed hk53_good dhC_good q53 (by kernel_rfl) (by kernel_rfl) run_q53
theorem hk54_good : HkGood Tryz.prog hk54 := HkGood.or (hooks_good (l := [q53]) fun i hi => by
  simp only [List.mem_cons, List.not_mem_nil, or_false] at hi
  rcases hi with rfl
  · exact hg_q53) hC_good
theorem hg_q54 : HkGood Tryz.prog q54.hook := inst_good okt callsOK mixed hk54_good dhC_good q54 (by kernel_rfl) (by kernel_rfl) run_q54
theorem hk55_good : HkGood Tryz.prog hk55 := HkGood.or (hooks_good fun i hi => by cases hi) hC_good
theorem hg_q55 : HkGood Tryz.prog q55.hook := inst_good okt callsOK mixed hk55_good dhC_good q55 (by kernel_rfl) (by kernel_rfl) run_q55
theorem hk56_good : HkGood Tryz.prog hk56 := HkGood.or (hooks_good (l := [q54,q55]) fun i hi => by
  simp only [List.mem_cons, List.not_mem_nil, or_false] at hi
  rcases hi with rfl | rfl
  · exact hg_q54
  · exact hg_q55) hC_good
theorem hg_q56 : HkGood Tryz.prog q56.hook := inst_good okt callsOK mixed hk56_good dhC_good q56 (by kernel_rfl) (by kernel_rfl) run_q56
theorem hk57_good : HkGood Tryz.prog hk57 := HkGood.or (hooks_good fun i hi => by cases hi) hC_good
theorem hg_q57 : HkGood Tryz.prog q57.hook := inst_good okt callsOK mixed hk57_good dhC_good q57 (by kernel_rfl) (by kernel_rfl) run_q57
theorem hk58_good : HkGood Tryz.prog hk58 := HkGood.or (hooks_good (l := [q57]) fun i hi => by
  simp only [List.mem_cons, List.not_mem_nil, or_false] at hi
  rcases hi with rfl
  · exact hg_q57) hC_good
theorem hg_q58 : HkGood Tryz.prog q58.hook := inst_good okt callsOK mixed hk58_good dhC_good q58 (by kernel_rfl) (by kernel_rfl) run_q58
theorem hk59_good : HkGood Tryz.prog hk59 := HkGood.or (hooks_good fun i hi => by cases hi) hC_good
theorem hg_q59 : HkGood Tryz.prog q59.hook := inst_good okt callsOK mixed hk59_good dhC_good q59 (by kernel_rfl) (by kernel_rfl) run_q59
theorem hk60_good : HkGood Tryz.prog hk60 := HkGood.or (hooks_good fun i hi => by cases hi) hC_good
theorem hg_q60 : HkGood Tryz.prog q60.hook := inst_good okt callsOK mixed hk60_good dhC_good q60 (by kernel_rfl) (by kernel_rfl) run_q60
theorem hk61_good : HkGood Tryz.prog hk61 := HkGood.or (hooks_good fun i hi => by cases hi) hC_good
theorem hg_q61 : HkGood Tryz.prog q61.hook := inst_good okt callsOK mixed hk61_good dhC_good q61 (by kernel_rfl) (by kernel_rfl) run_q61
theorem hk62_good : HkGood Tryz.prog hk62 := HkGood.or (hooks_good (l := [q58,q59,q60,q61]) fun i hi => by
  simp only [List.mem_cons, List.not_mem_nil, or_false] at hi
  rcases hi with rfl | rfl | rfl | rfl
  · exact hg_q58
  · exact hg_q59
  · exact hg_q60
  · exact hg_q61) hC_good
theorem hg_q62 : HkGood Tryz.prog q62.hook := inst_good okt callsOK mixed hk62_good dhC_good q62 (by kernel_rfl) (by kernel_rfl) run_q62
theorem hk63_good : HkGood Tryz.prog hk63 := HkGood.or (hooks_good fun i hi => by cases hi) hC_good
theorem hg_q63 : HkGood Tryz.prog q63.hook := inst_good okt callsOK mixed hk63_good dhC_good q63 (by kernel_rfl) (by kernel_rfl) run_q63
theorem hk64_good : HkGood Tryz.prog hk64 := HkGood.or (hooks_good fun i hi => by cases hi) hC_good
theorem hg_q64 : HkGood Tryz.prog q64.hook := inst_good okt callsOK mixed hk64_good dhC_good q64 (by kernel_rfl) (by kernel_rfl) run_q64
theorem hk65_good : HkGood Tryz.prog hk65 := HkGood.or (hooks_good fun i hi => by cases hi) hC_good
theorem hg_q65 : HkGood Tryz.prog q65.hook := inst_good okt callsOK mixed hk65_good dhC_good q65 (by kernel_rfl) (by kernel_rfl) run_q65
theorem hk66_good : HkGood Tryz.prog hk66 := HkGood.or (hooks_good fun i hi => by cases hi) hC_good
theorem hg_q66 : HkGood Tryz.prog q66.hook := inst_good okt callsOK mixed hk66_good dhC_good q66 (by kernel_rfl) (by kernel_rfl) run_q66
theorem hk67_good : HkGood Tryz.prog hk67 := HkGood.or (hooks_good (l := [q63,q64,q65,q66]) fun i hi => by
  simp only [List.mem_cons, List.not_mem_nil, or_false] at hi
  rcases hi with rfl | rfl | rfl | rfl
  · exact hg_q63
  · exact hg_q64
  · exact hg_q65
  · exact hg_q66) hC_good
theorem hg_q67 : HkGood Tryz.prog q67.hook := inst_good okt callsOK mixed hk67_good dhC_good q67 (by kernel_rfl) (by kernel_rfl) run_q67
theorem hk68_good : HkGood Tryz.prog hk68 := HkGood.or (hooks_good (l := [q67]) fun i hi => by
  simp only [List.mem_cons, List.not_mem_nil, or_false] at hi
  rcases hi with rfl
  · exact hg_q67) hC_good
theorem hg_q68 : HkGood Tryz.prog q68.hook := inst_good okt callsOK mixed hk68_good dhC_good q68 (by kernel_rfl) (by kernel_rfl) run_q68
theorem hk69_good : HkGood Tryz.prog hk69 := HkGood.or (hooks_good fun i hi => by cases hi) hC_good
theorem hg_q69 : HkGood Tryz.prog q69.hook := inst_good okt callsOK mixed hk69_good dhC_good q69 (by kernel_rfl) (by kernel_rfl) run_q69
theorem hk70_good : HkGood Tryz.prog hk70 := HkGood.or (hooks_good (l := [q68,q69]) fun i hi => by
  simp only [List.mem_cons, List.not_mem_nil, or_false] at hi
  rcases hi with rfl | rfl
  · exact hg_q68
  · exact hg_q69) hC_good
theorem hg_q70 : HkGood Tryz.prog q70.hook := inst_good okt callsOK mixed hk70_good dhC_good q70 (by kernel_rfl) (by kernel_rfl) run_q70
theorem hk71_good : HkGood Tryz.prog hk71 := HkGood.or (hooks_good fun i hi => by cases hi) hC_good
theorem hg_q71 : HkGood Tryz.prog q71.hook := inst_good okt callsOK mixed hk71_good dhC_good q71 (by kernel_rfl) (by kernel_rfl) run_q71
theorem hk72_good : HkGood Tryz.prog hk72 := HkGood.or (hooks_good (l := [q71]) fun i hi => by
  simp only [List.mem_cons, List.not_mem_nil, or_false] at hi
  rcases hi with rfl
  · exact hg_q71) hC_good
theorem hg_q72 : HkGood Tryz.prog q72.hook := inst_good okt callsOK mixed hk72_good dhC_good q72 (by kernel_rfl) (by kernel_rfl) run_q72
theorem hk73_good : HkGood Tryz.prog hk73 := HkGood.or (hooks_good fun i hi => by cases hi) hC_good
theorem hg_q73 : HkGood Tryz.prog q73.hook := inst_good okt callsOK mixed hk73_good dhC_good q73 (by kernel_rfl) (by kernel_rfl) run_q73
theorem hk74_good : HkGood Tryz.prog hk74 := HkGood.or (hooks_good fun i hi => by cases hi) hC_good
theorem hg_q74 : HkGood Tryz.prog q74.hook := inst_good okt callsOK mixed hk74_good dhC_good q74 (by kernel_rfl) (by kernel_rfl) run_q74
theorem hk75_good : HkGood Tryz.prog hk75 := HkGood.or (hooks_good fun i hi => by cases hi) hC_good
theorem hg_q75 : HkGood Tryz.prog q75.hook := inst_good okt callsOK mixed hk75_good dhC_good q75 (by kernel_rfl) (by kernel_rfl) run_q75
theorem hk76_good : HkGood Tryz.prog hk76 := HkGood.or (hooks_good (l := [q72,q73,q74,q75]) fun i hi => by
  simp only [List.mem_cons, List.not_mem_nil, or_false] at hi
  rcases hi with rfl | rfl | rfl | rfl
  · exact hg_q72
  · exact hg_q73
  · exact hg_q74
  · exact hg_q75) hC_good
theorem hg_q76 : HkGood Tryz.prog q76.hook := inst_good okt callsOK mixed hk76_good dhC_good q76 (by kernel_rfl) (by kernel_rfl) run_q76
theorem hk77_good : HkGood Tryz.prog hk77 := HkGood.or (hooks_good (l := [q14,q20,q28,q34,q42,q48,q56,q62,q70,q76]) fun i hi => by
  simp only [List.mem_cons, List.not_mem_nil, or_false] at hi
  rcases hi with rfl | rfl | rfl | rfl | rfl | rfl | rfl | rfl | rfl | rfl
  · exact hg_q14
  · exact hg_q20
  · exact hg_q28
  · exact hg_q34
  · exact hg_q42
  · exact hg_q48
  · exact hg_q56
  · exact hg_q62
  · exact hg_q70
  · exact hg_q76) hC_good
theorem hg_q77 : HkGood Tryz.prog (q77.parHook 2 0) := par_good okt callsOK mixed hk77_good dhC_good q77 (by kernel_rfl) (by kernel_rfl) run_q77
theorem hk78_good : HkGood Tryz.prog hk78 := HkGood.or (hooks_good fun i hi => by cases hi) hC_good
theorem hg_q78 : HkGood Tryz.prog q78.hook := inst_good okt callsOK mixed hk78_good dhC_good q78 (by kernel_rfl) (by kernel_rfl) run_q78
theorem hk79_good : HkGood Tryz.prog hk79 := HkGood.or (hooks_good fun i hi => by cases hi) hC_good
theorem hg_q79 : HkGood Tryz.prog q79.hook := inst_good okt callsOK mixed hk79_good dhC_good q79 (by kernel_rfl) (by kernel_rfl) run_q79
theorem hk80_good : HkGood Tryz.prog hk80 := HkGood.or (hooks_good fun i hi => by cases hi) hC_good
theorem hg_q80 : HkGood Tryz.prog q80.hook := inst_good okt callsOK mixed hk80_good dhC_good q80 (by kernel_rfl) (by kernel_rfl) run_q80
theorem hk81_good : HkGood Tryz.prog hk81 := HkGood.or (hooks_good fun i hi => by cases hi) hC_good
theorem hg_q81 : HkGood Tryz.prog q81.hook := inst_good okt callsOK mixed hk81_good dhC_good q81 (by kernel_rfl) (by kernel_rfl) run_q81
theorem hk82_good : HkGood Tryz.prog hk82 := HkGood.or (hooks_good fun i hi => by cases hi) hC_good
theorem hg_q82 : HkGood Tryz.prog q82.hook := inst_good okt callsOK mixed hk82_good dhC_good q82 (by kernel_rfl) (by kernel_rfl) run_q82
theorem hk83_good : HkGood Tryz.prog hk83 := HkGood.or (hooks_good (l := [q78,q79,q80,q81,q82]) fun i hi => by
  simp only [List.mem_cons, List.not_mem_nil, or_false] at hi
  rcases hi with rfl | rfl | rfl | rfl | rfl
  · exact hg_q78
  · exact hg_q79
  · exact hg_q80
  · exact hg_q81
  · exact hg_q82) hC_good
theorem hg_q83 : HkGood Tryz.prog q83.hook := inst_good okt callsOK mixed hk83_good dhC_good q83 (by kernel_rfl) (by kernel_rfl) run_q83
theorem hk84_good : HkGood Tryz.prog hk84 := HkGood.or (hooks_good fun i hi => by cases hi) hC_good
theorem hg_q84 : HkGood Tryz.prog q84.hook := inst_good okt callsOK mixed hk84_good dhC_good q84 (by kernel_rfl) (by kernel_rfl) run_q84
theorem hk85_good : HkGood Tryz.prog hk85 := HkGood.or (hooks_good (l := [q84]) fun i hi => by
  simp only [List.mem_cons, List.not_mem_nil, or_false] at hi
  rcases hi with rfl
  · exact hg_q84) hC_good
theorem hg_q85 : HkGood Tryz.prog q85.hook := inst_good okt2 callsOK mixed hk85_good dhC_good q85 (by kernel_rfl) (by kernel_rfl) run_q85
theorem hk86_good : HkGood Tryz.prog hk86 := HkGood.or (hooks_good fun i hi => by cases hi) hC_good
theorem hg_q86 : HkGood Tryz.prog q86.hook := inst_good okt callsOK mixed hk86_good dhC_good q86 (by kernel_rfl) (by kernel_rfl) run_q86
theorem hk87_good : HkGood Tryz.prog hk87 := HkGood.or (hooks_good fun i hi => by cases hi) hC_good
theorem hg_q87 : HkGood Tryz.prog q87.hook := inst_good okt callsOK mixed hk87_good dhC_good q87 (by kernel_rfl) (by kernel_rfl) run_q87
theorem hk88_good : HkGood Tryz.prog hk88 := HkGood.or (hooks_good fun i hi => by cases hi) hC_good
theorem hg_q88 : HkGood Tryz.prog q88.hook := inst_good okt callsOK mixed hk88_good dhC_good q88 (by kernel_rfl) (by kernel_rfl) run_q88
theorem hk89_good : HkGood Tryz.prog hk89 := HkGood.or (hooks_good (l := [q88]) fun i hi => by
  simp only [List.mem_cons, List.not_mem_nil, or_false] at hi
  rcases hi with rfl
  · exact hg_q88) hC_good
theorem hg_q89 : HkGood Tryz.prog q89.hook := inst_good okt callsOK mixed hk89_good dhC_good q89 (by kernel_rfl) (by kernel_rfl) run_q89
theorem hk90_good : HkGood Tryz.prog hk90 := HkGood.or (hooks_good fun i hi => by cases hi) hC_good
theorem hg_q90 : HkGood Tryz.prog q90.hook := inst_good okt callsOK mixed hk90_good dhC_good q90 (by kernel_rfl) (by kernel_rfl) run_q90
theorem hk91_good : HkGood Tryz.prog hk91 := HkGood.or (hooks_good (l := [q85,q86,q87,q89,q90]) fun i hi => by
  simp only [List.mem_cons, List.not_mem_nil, or_false] at hi
  rcases hi with rfl | rfl | rfl | rfl | rfl
  · exact hg_q85
  · exact hg_q86
  · exact hg_q87
  · exact hg_q89
  · exact hg_q90) hC_good
theorem hg_q91 : HkGood Tryz.prog q91.hook := inst_good okt callsOK mixed hk91_good dhC_good q91 (by kernel_rfl) (by kernel_rfl) run_q91
theorem hk92_good : HkGood Tryz.prog hk92 := HkGood.or (hooks_good fun i hi => by cases hi) hC_good
theorem hg_q92 : HkGood Tryz.prog q92.hook := inst_good okt callsOK mixed hk92_good dhC_good q92 (by kernel_rfl) (by kernel_rfl) run_q92
theorem hk93_good : HkGood Tryz.prog hk93 := HkGood.or (hooks_good fun i hi => by cases hi) hC_good
theorem hg_q93 : HkGood Tryz.prog q93.hook := inst_good okt callsOK mixed hk93_good dhC_good q93 (by kernel_rfl) (by kernel_rfl) run_q93
theorem hk94_good : HkGood Tryz.prog hk94 := HkGood.or (hooks_good fun i hi => by cases hi) hC_good
theorem hg_q94 : HkGood Tryz.prog q94.hook := inst_good okt callsOK mixed hk94_good dhC_good q94 (by kernel_rfl) (by kernel_rfl) run_q94
theorem hk95_good : HkGood Tryz.prog hk95 := HkGood.or (hooks_good fun i hi => by cases hi) hC_good
theorem hg_q95 : HkGood Tryz.prog q95.hook := inst_good okt callsOK mixed hk95_good dhC_good q95 (by kernel_rfl) (by kernel_rfl) run_q95
theorem hk96_good : HkGood Tryz.prog hk96 := HkGood.or (hooks_good (l := [q94,q95]) fun i hi => by
  simp only [List.mem_cons, List.not_mem_nil, or_false] at hi
  rcases hi with rfl | rfl
  · exact hg_q94
  · exact hg_q95) hC_good
theorem hg_q96 : HkGood Tryz.prog q96.hook := inst_good okt callsOK mixed hk96_good dhC_good q96 (by kernel_rfl) (by kernel_rfl) run_q96
theorem hk97_good : HkGood Tryz.prog hk97 := HkGood.or (hooks_good (l := [q96]) fun i hi => by
  simp only [List.mem_cons, List.not_mem_nil, or_false] at hi
  rcases hi with rfl
  · exact hg_q96) hC_good
theorem hg_q97 : HkGood Tryz.prog q97.hook := inst_good okt callsOK mixed hk97_good dhC_good q97 (by kernel_rfl) (by kernel_rfl) run_q97
theorem hk98_good : HkGood Tryz.prog hk98 := HkGood.or (hooks_good (l := [q91,q92,q93,q97]) fun i hi => by
  simp only [List.mem_cons, List.not_mem_nil, or_false] at hi
  rcases hi with rfl | rfl | rfl | rfl
  · exact hg_q91
  · exact hg_q92
  · exact hg_q93
  · exact hg_q97) hC_good
theorem hg_q98 : HkGood Tryz.prog q98.hook := inst_good okt callsOK mixed hk98_good dhC_good q98 (by kernel_rfl) (by kernel_rfl) run_q98
theorem hk99_good : HkGood Tryz.prog hk99 := HkGood.or (hooks_good fun i hi => by cases hi) hC_good
theorem hg_q99 : HkGood Tryz.prog q99.hook := inst_good okt callsOK mixed hk99_good dhC_good q99 (by kernel_rfl) (by kernel_rfl) run_q99
theorem hk100_good : HkGood Tryz.prog hk100 := HkGood.or (hooks_good (l := [q99]) fun i hi => by
  simp only [List.mem_cons, List.not_mem_nil, or_false] at hi
  rcases hi with rfl
  · exact hg_q99) hC_good
theorem hg_q100 : HkGood Tryz.prog q100.hook := inst_good okt callsOK mixed hk100_good dhC_good q100 (by kernel_rfl) (by kernel_rfl) run_q100
theorem hk101_good : HkGood Tryz.prog hk101 := HkGood.or (hooks_good fun i hi => by cases hi) hC_good
theorem hg_q101 : HkGood Tryz.prog q101.hook := inst_good okt callsOK mixed hk101_good dhC_good q101 (by kernel_rfl) (by kernel_rfl) run_q101
theorem hk102_good : HkGood Tryz.prog hk102 := HkGood.or (hooks_good fun i hi => by cases hi) hC_good
theorem hg_q102 : HkGood Tryz.prog q102.hook := inst_good okt callsOK mixed hk102_good dhC_good q102 (by kernel_rfl) (by kernel_rfl) run_q102
theorem hk103_good : HkGood Tryz.prog hk103 := HkGood.or (hooks_good fun i hi => by cases hi) hC_good
theorem hg_q103 : HkGood Tryz.prog q103.hook := inst_good okt callsOK mixed hk103_good dhC_good q103 (by kernel_rfl) (by kernel_rfl) run_q103
theorem hk104_good : HkGood Tryz.prog hk104 := HkGood.or (hooks_good (l := [q100,q101,q102,q103]) fun i hi => by
  simp only [List.mem_cons, List.not_mem_nil, or_false] at hi
  rcases hi with rfl | rfl | rfl | rfl
  · exact hg_q100
  · exact hg_q101
  · exact hg_q102
  · exact hg_q103) hC_good
theorem hg_q104 : HkGood Tryz.prog q104.hook := inst_good okt callsOK mixed hk104_good dhC_good q104 (by kernel_rfl) (by kernel_rfl) run_q104
theorem hk105_good : HkGood Tryz.prog hk105 := HkGood.or (hooks_good fun i hi => by cases hi) hC_good
theorem hg_q105 : HkGood Tryz.prog q105.hook := inst_good okt callsOK mixed hk105_good dhC_good q105 (by kernel_rfl) (by kernel_rfl) run_q105
theorem hk106_good : HkGood Tryz.prog hk106 := HkGood.or (hooks_good (l := [q105]) fun i hi => by
  simp only [List.mem_cons, List.not_mem_nil, or_false] at hi
  rcases hi with rfl
  · exact hg_q105) hC_good
theorem hg_q106 : HkGood Tryz.prog q106.hook := inst_good okt2 callsOK mixed hk106_good dhC_good q106 (by kernel_rfl) (by kernel_rfl) run_q106
theorem hk107_good : HkGood Tryz.prog hk107 := HkGood.or (hooks_good fun i hi => by cases hi) hC_good
theorem hg_q107 : HkGood Tryz.prog q107.hook := inst_good okt callsOK mixed hk107_good dhC_good q107 (by kernel_rfl) (by kernel_rfl) run_q107
theorem hk108_good : HkGood Tryz.prog hk108 := HkGood.or (hooks_good fun i hi => by cases hi) hC_good
theorem hg_q108 : HkGood Tryz.prog q108.hook := inst_good okt callsOK mixed hk108_good dhC_good q108 (by kernel_rfl) (by kernel_rfl) run_q108
theorem hk109_good : HkGood Tryz.prog hk109 := HkGood.or (hooks_good fun i hi => by cases hi) hC_good
theorem hg_q109 : HkGood Tryz.prog q109.hook := inst_good okt callsOK mixed hk109_good dhC_good q109 (by kernel_rfl) (by kernel_rfl) run_q109
theorem hk110_good : HkGood Tryz.prog hk110 := HkGood.or (hooks_good (l := [q109]) fun i hi => by
  simp only [List.mem_cons, List.not_mem_nil, or_false] at hi
  rcases hi with rfl
  · exact hg_q109) hC_good
theorem hg_q110 : HkGood Tryz.prog q110.hook := inst_good okt callsOK mixed hk110_good dhC_good q110 (by kernel_rfl) (by kernel_rfl) run_q110
theorem hk111_good : HkGood Tryz.prog hk111 := HkGood.or (hooks_good fun i hi => by cases hi) hC_good
theorem hg_q111 : HkGood Tryz.prog q111.hook := inst_good okt callsOK mixed hk111_good dhC_good q111 (by kernel_rfl) (by kernel_rfl) run_q111
theorem hk112_good : HkGood Tryz.prog hk112 := HkGood.or (hooks_good (l := [q106,q107,q108,q110,q111]) fun i hi => by
  simp only [List.mem_cons, List.not_mem_nil, or_false] at hi
  rcases hi with rfl | rfl | rfl | rfl | rfl
  · exact hg_q106
  · exact hg_q107
  · exact hg_q108
  · exact hg_q110
  · exact hg_q111) hC_good
theorem hg_q112 : HkGood Tryz.prog q112.hook := inst_good okt callsOK mixed hk112_good dhC_good q112 (by kernel_rfl) (by kernel_rfl) run_q112
theorem hk113_good : HkGood Tryz.prog hk113 := HkGood.or (hooks_good fun i hi => by cases hi) hC_good
theorem hg_q113 : HkGood Tryz.prog q113.hook := inst_good okt callsOK mixed hk113_good dhC_good q113 (by kernel_rfl) (by kernel_rfl) run_q113
theorem hk114_good : HkGood Tryz.prog hk114 := HkGood.or (hooks_good fun i hi => by cases hi) hC_good
theorem hg_q114 : HkGood Tryz.prog q114.hook := inst_good okt callsOK mixed hk114_good dhC_good q114 (by kernel_rfl) (by kernel_rfl) run_q114
theorem hk115_good : HkGood Tryz.prog hk115 := HkGood.or (hooks_good (l := [q112,q113,q114]) fun i hi => by
  simp only [List.mem_cons, List.not_mem_nil, or_false] at hi
  rcases hi with rfl | rfl | rfl
  · exact hg_q112
  · exact hg_q113
  · exact hg_q114) hC_good
theorem hg_q115 : HkGood Tryz.prog q115.hook := inst_good okt callsOK mixed hk115_good dhC_good q115 (by kernel_rfl) (by kernel_rfl) run_q115
theorem hk116_good : HkGood Tryz.prog hk116 := HkGood.or (hooks_good fun i hi => by cases hi) hC_good
theorem hg_q116 : HkGood Tryz.prog q116.hook := inst_good okt callsOK mixed hk116_good dhC_good q116 (by kernel_rfl) (by kernel_rfl) run_q116
theorem hk117_good : HkGood Tryz.prog hk117 := HkGood.or (hooks_good fun i hi => by cases hi) hC_good
theorem hg_q117 : HkGood Tryz.prog q117.hook := inst_good okt callsOK mixed hk117_good dhC_good q117 (by kernel_rfl) (by kernel_rfl) run_q117
theorem hk118_good : HkGood Tryz.prog hk118 := HkGood.or (hooks_good (l := [q116,q117]) fun i hi => by
  simp only [List.mem_cons, List.not_mem_nil, or_false] at hi
  rcases hi with rfl | rfl
  · exact hg_q116
  · exact hg_q117) hC_good
theorem hg_q118 : HkGood Tryz.prog q118.hook := inst_good okt callsOK mixed hk118_good dhC_good q118 (by kernel_rfl) (by kernel_rfl) run_q118
theorem hk119_good : HkGood Tryz.prog hk119 := HkGood.or (hooks_good (l := [q118]) fun i hi => by
  simp only [List.mem_cons, List.not_mem_nil, or_false] at hi
  rcases hi with rfl
  · exact hg_q118) hC_good
theorem hg_q119 : HkGood Tryz.prog q119.hook := inst_good okt callsOK mixed hk119_good dhC_good q119 (by kernel_rfl) (by kernel_rfl) run_q119
theorem hk120_good : HkGood Tryz.prog hk120 := HkGood.or (hooks_good fun i hi => by cases hi) hC_good
theorem hg_q120 : HkGood Tryz.prog q120.hook := inst_good okt callsOK mixed hk120_good dhC_good q120 (by kernel_rfl) (by kernel_rfl) run_q120
theorem hk121_good : HkGood Tryz.prog hk121 := HkGood.or (hooks_good fun i hi => by cases hi) hC_good
theorem hg_q121 : HkGood Tryz.prog q121.hook := inst_good okt callsOK mixed hk121_good dhC_good q121 (by kernel_rfl) (by kernel_rfl) run_q121
theorem hk122_good : HkGood Tryz.prog hk122 := HkGood.or (hooks_good (l := [q120,q121]) fun i hi => by
  simp only [List.mem_cons, List.not_mem_nil, or_false] at hi
  rcases hi with rfl | rfl
  · exact hg_q120
  · exact hg_q121) hC_good
theorem hg_q122 : HkGood Tryz.prog q122.hook := inst_good okt callsOK mixed hk122_good dhC_good q122 (by kernel_rfl) (by kernel_rfl) run_q122
theorem hk123_good : HkGood Tryz.prog hk123 := HkGood.or (hooks_good (l := [q122]) fun i hi => by
  simp only [List.mem_cons, List.not_mem_nil, or_false] at hi
  rcases hi with rfl
  · exact hg_q122) hC_good
theorem hg_q123 : HkGood Tryz.prog q123.hook := inst_good okt callsOK mixed hk123_good dhC_good q123 (by kernel_rfl) (by kernel_rfl) run_q123
theorem hk124_good : HkGood Tryz.prog hk124 := HkGood.or (hooks_good (l := [q115,q119,q123]) fun i hi => by
  simp only [List.mem_cons, List.not_mem_nil, or_false] at hi
  rcases hi with rfl | rfl | rfl
  · exact hg_q115
  · exact hg_q119
  · exact hg_q123) hC_good
theorem hg_q124 : HkGood Tryz.prog q124.hook := inst_good okt callsOK mixed hk124_good dhC_good q124 (by kernel_rfl) (by kernel_rfl) run_q124
theorem hk125_good : HkGood Tryz.prog hk125 := HkGood.or (hooks_good fun i hi => by cases hi) hC_good
theorem hg_q125 : HkGood Tryz.prog q125.hook := inst_good okt callsOK mixed hk125_good dhC_good q125 (by kernel_rfl) (by kernel_rfl) run_q125
theorem hk126_good : HkGood Tryz.prog hk126 := HkGood.or (hooks_good (l := [q125]) fun i hi => by
  simp only [List.mem_cons, List.not_mem_nil, or_false] at hi
  rcases hi with rfl
  · exact hg_q125) hC_good
theorem hg_q126 : HkGood Tryz.prog q126.hook := inst_good okt callsOK mixed hk126_good dhC_good q126 (by kernel_rfl) (by kernel_rfl) run_q126
theorem hk127_good : HkGood Tryz.prog hk127 := HkGood.or (hooks_good fun i hi => by cases hi) hC_good
theorem hg_q127 : HkGood Tryz.prog q127.hook := inst_good okt callsOK mixed hk127_good dhC_good q127 (by kernel_rfl) (by kernel_rfl) run_q127
theorem hk128_good : HkGood Tryz.prog hk128 := HkGood.or (hooks_good fun i hi => by cases hi) hC_good
theorem hg_q128 : HkGood Tryz.prog q128.hook := inst_good okt callsOK mixed hk128_good dhC_good q128 (by kernel_rfl) (by kernel_rfl) run_q128
theorem hk129_good : HkGood Tryz.prog hk129 := HkGood.or (hooks_good fun i hi => by cases hi) hC_good
theorem hg_q129 : HkGood Tryz.prog q129.hook := inst_good okt callsOK mixed hk129_good dhC_good q129 (by kernel_rfl) (by kernel_rfl) run_q129
theorem hk130_good : HkGood Tryz.prog hk130 := HkGood.or (hooks_good (l := [q126,q127,q128,q129]) fun i hi => by
  simp only [List.mem_cons, List.not_mem_nil, or_false] at hi
  rcases hi with rfl | rfl | rfl | rfl
  · exact hg_q126
  · exact hg_q127
  · exact hg_q128
  · exact hg_q129) hC_good
theorem hg_q130 : HkGood Tryz.prog q130.hook := inst_good okt callsOK mixed hk130_good dhC_good q130 (by kernel_rfl) (by kernel_rfl) run_q130
theorem hk131_good : HkGood Tryz.prog hk131 := HkGood.or (hooks_good fun i hi => by cases hi) hC_good
theorem hg_q131 : HkGood Tryz.prog q131.hook := inst_good okt callsOK mixed hk131_good dhC_good q131 (by kernel_rfl) (by kernel_rfl) run_q131
theorem hk132_good : HkGood Tryz.prog hk132 := HkGood.or (hooks_good (l := [q131]) fun i hi => by
  simp only [List.mem_cons, List.not_mem_nil, or_false] at hi
  rcases hi with rfl
  · exact hg_q131) hC_good
theorem hg_q132 : HkGood Tryz.prog q132.hook := inst_good okt2 callsOK mixed hk132_good dhC_good q132 (by kernel_rfl) (by kernel_rfl) run_q132
theorem hk133_good : HkGood Tryz.prog hk133 := HkGood.or (hooks_good fun i hi => by cases hi) hC_good
theorem hg_q133 : HkGood Tryz.prog q133.hook := inst_good okt callsOK mixed hk133_good dhC_good q133 (by kernel_rfl) (by kernel_rfl) run_q133
theorem hk134_good : HkGood Tryz.prog hk134 := HkGood.or (hooks_good fun i hi => by cases hi) hC_good
theorem hg_q134 : HkGood Tryz.prog q134.hook := inst_good okt callsOK mixed hk134_good dhC_good q134 (by kernel_rfl) (by kernel_rfl) run_q134
theorem hk135_good : HkGood Tryz.prog hk135 := HkGood.or (hooks_good fun i hi => by cases hi) hC_good
theorem hg_q135 : HkGood Tryz.prog q135.hook := inst_good okt callsOK mixed hk135_good dhC_good q135 (by kernel_rfl) (by kernel_rfl) run_q135
theorem hk136_good : HkGood Tryz.prog hk136 := HkGood.or (hooks_good (l := [q135]) fun i hi => by
  simp only [List.mem_cons, List.not_mem_nil, or_false] at hi
  rcases hi with rfl
  · exact hg_q135) hC_good
theorem hg_q136 : HkGood Tryz.prog q136.hook := inst_good okt callsOK mixed hk136_good dhC_good q136 (by kernel_rfl) (by kernel_rfl) run_q136
theorem hk137_good : HkGood Tryz.prog hk137 := HkGood.or (hooks_good fun i hi => by cases hi) hC_good
theorem hg_q137 : HkGood Tryz.prog q137.hook := inst_good okt callsOK mixed hk137_good dhC_good q137 (by kernel_rfl) (by kernel_rfl) run_q137
theorem hk138_good : HkGood Tryz.prog hk138 := HkGood.or (hooks_good (l := [q132,q133,q134,q136,q137]) fun i hi => by
  simp only [List.mem_cons, List.not_mem_nil, or_false] at hi
  rcases hi with rfl | rfl | rfl | rfl | rfl
  · exact hg_q132
  · exact hg_q133
  · exact hg_q134
  · exact hg_q136
  · exact hg_q137) hC_good
theorem hg_q138 : HkGood Tryz.prog q138.hook := inst_good okt callsOK mixed hk138_good dhC_good q138 (by kernel_rfl) (by kernel_rfl) run_q138
theorem hk139_good : HkGood Tryz.prog hk139 := HkGood.or (hooks_good fun i hi => by cases hi) hC_good
theorem hg_q139 : HkGood Tryz.prog q139.hook := inst_good okt callsOK mixed hk139_good dhC_good q139 (by kernel_rfl) (by kernel_rfl) run_q139
theorem hk140_good : HkGood Tryz.prog hk140 := HkGood.or (hooks_good fun i hi => by cases hi) hC_good
theorem hg_q140 : HkGood Tryz.prog q140.hook := inst_good okt callsOK mixed hk140_good dhC_good q140 (by kernel_rfl) (by kernel_rfl) run_q140
theorem hk141_good : HkGood Tryz.prog hk141 := HkGood.or (hooks_good (l := [q138,q139,q140]) fun i hi => by
  simp only [List.mem_cons, List.not_mem_nil, or_false] at hi
  rcases hi with rfl | rfl | rfl
  · exact hg_q138
  · exact hg_q139
  · exact hg_q140) hC_good
theorem hg_q141 : HkGood Tryz.prog q141.hook := inst_good okt callsOK mixed hk141_good dhC_good q141 (by kernel_rfl) (by kernel_rfl) run_q141
theorem hk142_good : HkGood Tryz.prog hk142 := HkGood.or (hooks_good fun i hi => by cases hi) hC_good
theorem hg_q142 : HkGood Tryz.prog q142.hook := inst_good okt callsOK mixed hk142_good dhC_good q142 (by kernel_rfl) (by kernel_rfl) run_q142
theorem hk143_good : HkGood Tryz.prog hk143 := HkGood.or (hooks_good fun i hi => by cases hi) hC_good
theorem hg_q143 : HkGood Tryz.prog q143.hook := inst_good okt callsOK mixed hk143_good dhC_good q143 (by kernel_rfl) (by kernel_rfl) run_q143
theorem hk144_good : HkGood Tryz.prog hk144 := HkGood.or (hooks_good fun i hi => by cases hi) hC_good
theorem hg_q144 : HkGood Tryz.prog q144.hook := inst_good okt callsOK mixed hk144_good dhC_good q144 (by kernel_rfl) (by kernel_rfl) run_q144
theorem hk145_good : HkGood Tryz.prog hk145 := HkGood.or (hooks_good fun i hi => by cases hi) hC_good
theorem hg_q145 : HkGood Tryz.prog q145.hook := inst_good okt callsOK mixed hk145_good dhC_good q145 (by kernel_rfl) (by kernel_rfl) run_q145
theorem hk146_good : HkGood Tryz.prog hk146 := HkGood.or (hooks_good fun i hi => by cases hi) hC_good
theorem hg_q146 : HkGood Tryz.prog q146.hook := inst_good okt callsOK mixed hk146_good dhC_good q146 (by kernel_rfl) (by kernel_rfl) run_q146
theorem hk147_good : HkGood Tryz.prog hk147 := HkGood.or (hooks_good fun i hi => by cases hi) hC_good
theorem hg_q147 : HkGood Tryz.prog q147.hook := inst_good okt callsOK mixed hk147_good dhC_good q147 (by kernel_rfl) (by kernel_rfl) run_q147
theorem hk148_good : HkGood Tryz.prog hk148 := HkGood.or (hooks_good fun i hi => by cases hi) hC_good
theorem hg_q148 : HkGood Tryz.prog q148.hook := inst_good okt callsOK mixed hk148_good dhC_good q148 (by kernel_rfl) (by kernel_rfl) run_q148
theorem hk149_good : HkGood Tryz.prog hk149 := HkGood.or (hooks_good fun i hi => by cases hi) hC_good
theorem hg_q149 : HkGood Tryz.prog q149.hook := inst_good okt callsOK mixed hk149_good dhC_good q149 (by kernel_rfl) (by kernel_rfl) run_q149
theorem hk150_good : HkGood Tryz.prog hk150 := HkGood.or (hooks_good fun i hi => by cases hi) hC_good
theorem hg_q150 : HkGood Tryz.prog q150.hook := inst_good okt callsOK mixed hk150_good dhC_good q150 (by kernel_rfl) (by kernel_rfl) run_q150
theorem hk151_good : HkGood Tryz.prog hk151 := HkGood.or (hooks_good (l := [q142,q143,q144,q145,q146,q147,q148,q149,q150]) fun i hi => by
  simp only [List.mem_cons, List.not_mem_nil, or_false] at hi
  rcases hi with rfl | rfl | rfl | rfl | rfl | rfl | rfl | rfl | rfl
  · exact hg_q142
  · exact hg_q143
  · exact hg_q144
  · exact hg_q145
  · exact hg_q146
  · exact hg_q147
  · exact hg_q148
  · exact hg_q149
  · exact hg_q150) hC_good
theorem hg_q151 : HkGood Tryz.prog (q151.parHook 2 1) := par_good okt callsOK mixed hk151_good dhC_good q151 (by kernel_rfl) (by kernel_rfl) run_q151
theorem hk152_good : HkGood Tryz.prog hk152 := HkGood.or (hooks_good fun i hi => by cases hi) hC_good
theorem hg_q152 : HkGood Tryz.prog q152.hook := inst_good okt callsOK mixed hk152_good dhC_good q152 (by kernel_rfl) (by kernel_rfl) run_q152
theorem hk153_good : HkGood Tryz.prog hk153 := HkGood.or (hooks_good fun i hi => by cases hi) hC_good
theorem hg_q153 : HkGood Tryz.prog q153.hook := inst_good okt callsOK mixed hk153_good dhC_good q153 (by kernel_rfl) (by kernel_rfl) run_q153
theorem hk154_good : HkGood Tryz.prog hk154 := HkGood.or (hooks_good (l := [q153]) fun i hi => by
  simp only [List.mem_cons, List.not_mem_nil, or_false] at hi
  rcases hi with rfl
  · exact hg_q153) hC_good
theorem hg_q154 : HkGood Tryz.prog q154.hook := inst_good okt callsOK mixed hk154_good dhC_good q154 (by kernel_rfl) (by kernel_rfl) run_q154
theorem hk155_good : HkGood Tryz.prog hk155 := HkGood.or (hooks_good fun i hi => by cases hi) hC_good
theorem hg_q155 : HkGood Tryz.prog q155.hook := inst_good okt callsOK mixed hk155_good dhC_good q155 (by kernel_rfl) (by kernel_rfl) run_q155
theorem hk156_good : HkGood Tryz.prog hk156 := HkGood.or (hooks_good fun i hi => by cases hi) hC_good
theorem hg_q156 : HkGood Tryz.prog q156.hook := inst_good okt callsOK mixed hk156_good dhC_good q156 (by kernel_rfl) (by kernel_rfl) run_q156
theorem hk157_good : HkGood Tryz.prog hk157 := HkGood.or (hooks_good (l := [q156]) fun i hi => by
  simp only [List.mem_cons, List.not_mem_nil, or_false] at hi
  rcases hi with rfl
  · exact hg_q156) hC_good
theorem hg_q157 : HkGood Tryz.prog q157.hook := inst_good okt callsOK mixed hk157_good dhC_good q157 (by kernel_rfl) (by kernel_rfl) run_q157
theorem hk158_good : HkGood Tryz.prog hk158 := HkGood.or (hooks_good fun i hi => by cases hi) hC_good
theorem hg_q158 : HkGood Tryz.prog q158.hook := inst_good okt callsOK mixed hk158_good dhC_good q158 (by kernel_rfl) (by kernel_rfl) run_q158
theorem hk159_good : HkGood Tryz.prog hk159 := HkGood.or (hooks_good fun i hi => by cases hi) hC_good
theorem hg_q159 : HkGood Tryz.prog q159.hook := inst_good okt callsOK mixed hk159_good dhC_good q159 (by kernel_rfl) (by kernel_rfl) run_q159
theorem closed_w : HkGood Tryz.prog aK.closed := closed_good okt callsOK mixed hk6_good dhC_good q6 (by kernel_rfl) (by kernel_rfl) rfl (by kernel_rfl) (by kernel_rfl) (by kernel_rfl) run_q6
theorem hP_good : HkGood Tryz.prog hP := HkGood.or hg_q151 (HkGood.or hg_q77 (HkGood.or (hooks_good (l := [q6,q83,q98,q104,q124,q130,q141,q152,q154,q155,q157,q158,q159]) fun i hi => by
  simp only [List.mem_cons, List.not_mem_nil, or_false] at hi
  rcases hi with rfl | rfl | rfl | rfl | rfl | rfl | rfl | rfl | rfl | rfl | rfl | rfl | rfl
  · exact hg_q6
  · exact hg_q83
  · exact hg_q98
  · exact hg_q104
  · exact hg_q124
  · exact hg_q130
  · exact hg_q141
  · exact hg_q152
  · exact hg_q154
  · exact hg_q155
  · exact hg_q157
  · exact hg_q158
  · exact hg_q159) hC_good))
theorem hW_good : HkGood Tryz.prog hW := HkGood.or hP_good closed_w
end Go.Proofs.YtjfmelmiegnmjaaGreatDoor
