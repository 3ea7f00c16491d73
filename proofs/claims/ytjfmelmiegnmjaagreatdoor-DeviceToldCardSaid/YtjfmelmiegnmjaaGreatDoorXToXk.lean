/- The hooks are good. -/
import Derived.Test.YtjfmelmiegnmjaaGreatDoorXToXh
import Derived.Test.YtjfmelmiegnmjaaGreatDoorXToOk2
import Derived.Test.YtjfmelmiegnmjaaGreatDoorXToXr0
import Derived.Test.YtjfmelmiegnmjaaGreatDoorXToXr1
import Derived.Test.YtjfmelmiegnmjaaGreatDoorXToXr2
import Derived.Test.YtjfmelmiegnmjaaGreatDoorXToXr3
set_option linter.all false
open Go Go.Sx Go.Proofs
set_option linter.all false
namespace Go.Proofs.YtjfmelmiegnmjaaGreatDoor
set_option maxRecDepth 1000000
theorem hk0_good : HkGood Tryz.prog hk0 := HkGood.or (hooks_good fun i hi => by cases hi) hCN_good
theorem hg_q0 : HkGood Tryz.prog q0.hook := inst_good okt callsOK mixed hk0_good dhC_good q0 (by kernel_rfl) (by kernel_rfl) run_q0
theorem hk1_good : HkGood Tryz.prog hk1 := HkGood.or (hooks_good (l := [q0]) fun i hi => by
  simp only [List.mem_cons, List.not_mem_nil, or_false] at hi
  rcases hi with rfl
  · exact hg_q0) hCN_good
theorem hg_q1 : HkGood Tryz.prog q1.hook := inst_good okt callsOK mixed hk1_good dhC_good q1 (by kernel_rfl) (by kernel_rfl) run_q1
theorem hk2_good : HkGood Tryz.prog hk2 := HkGood.or (hooks_good fun i hi => by cases hi) hCN_good
theorem hg_q2 : HkGood Tryz.prog q2.hook := inst_good okt callsOK mixed hk2_good dhC_good q2 (by kernel_rfl) (by kernel_rfl) run_q2
theorem hk3_good : HkGood Tryz.prog hk3 := HkGood.or (hooks_good (l := [q2]) fun i hi => by
  simp only [List.mem_cons, List.not_mem_nil, or_false] at hi
  rcases hi with rfl
  · exact hg_q2) hCN_good
theorem hg_q3 : HkGood Tryz.prog q3.hook := inst_good okt callsOK mixed hk3_good dhC_good q3 (by kernel_rfl) (by kernel_rfl) run_q3
theorem hk4_good : HkGood Tryz.prog hk4 := HkGood.or (hooks_good fun i hi => by cases hi) hCN_good
theorem hg_q4 : HkGood Tryz.prog q4.hook := inst_good okt callsOK mixed hk4_good dhC_good q4 (by kernel_rfl) (by kernel_rfl) run_q4
theorem hk5_good : HkGood Tryz.prog hk5 := HkGood.or (hooks_good (l := [q4]) fun i hi => by
  simp only [List.mem_cons, List.not_mem_nil, or_false] at hi
  rcases hi with rfl
  · exact hg_q4) hCN_good
theorem hg_q5 : HkGood Tryz.prog q5.hook := inst_good okt callsOK mixed hk5_good dhC_good q5 (by kernel_rfl) (by kernel_rfl) run_q5
theorem hk6_good : HkGood Tryz.prog hk6 := HkGood.or (hooks_good (l := [q1,q3,q5]) fun i hi => by
  simp only [List.mem_cons, List.not_mem_nil, or_false] at hi
  rcases hi with rfl | rfl | rfl
  · exact hg_q1
  · exact hg_q3
  · exact hg_q5) hCN_good
theorem hg_q6 : HkGood Tryz.prog q6.hook := inst_good okt callsOK mixed hk6_good dhC_good q6 (by kernel_rfl) (by kernel_rfl) run_q6
theorem hk7_good : HkGood Tryz.prog hk7 := HkGood.or (hooks_good fun i hi => by cases hi) hCN_good
theorem hg_q7 : HkGood Tryz.prog q7.hook := inst_good okt callsOK mixed hk7_good dhC_good q7 (by kernel_rfl) (by kernel_rfl) run_q7
theorem hk8_good : HkGood Tryz.prog hk8 := HkGood.or (hooks_good (l := [q7]) fun i hi => by
  simp only [List.mem_cons, List.not_mem_nil, or_false] at hi
  rcases hi with rfl
  · exact hg_q7) hCN_good
theorem hg_q8 : HkGood Tryz.prog (q8.parHook 2 1) := par_good okt callsOK mixed hk8_good dhC_good q8 (by kernel_rfl) (by kernel_rfl) run_q8
theorem hk9_good : HkGood Tryz.prog hk9 := HkGood.or (hooks_good fun i hi => by cases hi) hCN_good
theorem hg_q9 : HkGood Tryz.prog q9.hook := inst_good okt callsOK mixed hk9_good dhC_good q9 (by kernel_rfl) (by kernel_rfl) run_q9
theorem hk10_good : HkGood Tryz.prog hk10 := HkGood.or (hooks_good (l := [q9]) fun i hi => by
  simp only [List.mem_cons, List.not_mem_nil, or_false] at hi
  rcases hi with rfl
  · exact hg_q9) hCN_good
theorem hg_q10 : HkGood Tryz.prog q10.hook := inst_good okt callsOK mixed hk10_good dhC_good q10 (by kernel_rfl) (by kernel_rfl) run_q10
theorem hk11_good : HkGood Tryz.prog hk11 := HkGood.or (hooks_good fun i hi => by cases hi) hCN_good
theorem hg_q11 : HkGood Tryz.prog q11.hook := inst_good okt callsOK mixed hk11_good dhC_good q11 (by kernel_rfl) (by kernel_rfl) run_q11
theorem hk12_good : HkGood Tryz.prog hk12 := HkGood.or (hooks_good (l := [q10,q11]) fun i hi => by
  simp only [List.mem_cons, List.not_mem_nil, or_false] at hi
  rcases hi with rfl | rfl
  · exact hg_q10
  · exact hg_q11) hCN_good
theorem hg_q12 : HkGood Tryz.prog q12.hook := inst_good okt callsOK mixed hk12_good dhC_good q12 (by kernel_rfl) (by kernel_rfl) run_q12
theorem hk13_good : HkGood Tryz.prog hk13 := HkGood.or (hooks_good fun i hi => by cases hi) hCN_good
theorem hg_q13 : HkGood Tryz.prog q13.hook := inst_good okt callsOK mixed hk13_good dhC_good q13 (by kernel_rfl) (by kernel_rfl) run_q13
theorem hk14_good : HkGood Tryz.prog hk14 := HkGood.or (hooks_good fun i hi => by cases hi) hCN_good
theorem hg_q14 : HkGood Tryz.prog q14.hook := inst_good okt callsOK mixed hk14_good dhC_good q14 (by kernel_rfl) (by kernel_rfl) run_q14
theorem hk15_good : HkGood Tryz.prog hk15 := HkGood.or (hooks_good fun i hi => by cases hi) hCN_good
theorem hg_q15 : HkGood Tryz.prog q15.hook := inst_good okt callsOK mixed hk15_good dhC_good q15 (by kernel_rfl) (by kernel_rfl) run_q15
theorem hk16_good : HkGood Tryz.prog hk16 := HkGood.or (hooks_good fun i hi => by cases hi) hCN_good
theorem hg_q16 : HkGood Tryz.prog q16.hook := inst_good okt callsOK mixed hk16_good dhC_good q16 (by kernel_rfl) (by kernel_rfl) run_q16
theorem hk17_good : HkGood Tryz.prog hk17 := HkGood.or (hooks_good (l := [q13,q14,q15,q16]) fun i hi => by
  simp only [List.mem_cons, List.not_mem_nil, or_false] at hi
  rcases hi with rfl | rfl | rfl | rfl
  · exact hg_q13
  · exact hg_q14
  · exact hg_q15
  · exact hg_q16) hCN_good
theorem hg_q17 : HkGood Tryz.prog q17.hook := inst_good okt callsOK mixed hk17_good dhC_good q17 (by kernel_rfl) (by kernel_rfl) run_q17
theorem hk18_good : HkGood Tryz.prog hk18 := HkGood.or (hooks_good fun i hi => by cases hi) hCN_good
theorem hg_q18 : HkGood Tryz.prog q18.hook := inst_good okt callsOK mixed hk18_good dhC_good q18 (by kernel_rfl) (by kernel_rfl) run_q18
theorem hk19_good : HkGood Tryz.prog hk19 := HkGood.or (hooks_good (l := [q18]) fun i hi => by
  simp only [List.mem_cons, List.not_mem_nil, or_false] at hi
  rcases hi with rfl
  · exact hg_q18) hCN_good
theorem hg_q19 : HkGood Tryz.prog q19.hook := inst_good okt callsOK mixed hk19_good dhC_good q19 (by kernel_rfl) (by kernel_rfl) run_q19
theorem hk20_good : HkGood Tryz.prog hk20 := HkGood.or (hooks_good fun i hi => by cases hi) hCN_good
theorem hg_q20 : HkGood Tryz.prog q20.hook := inst_good okt callsOK mixed hk20_good dhC_good q20 (by kernel_rfl) (by kernel_rfl) run_q20
theorem hk21_good : HkGood Tryz.prog hk21 := HkGood.or (hooks_good fun i hi => by cases hi) hCN_good
theorem hg_q21 : HkGood Tryz.prog q21.hook := inst_good okt callsOK mixed hk21_good dhC_good q21 (by kernel_rfl) (by kernel_rfl) run_q21
theorem hk22_good : HkGood Tryz.prog hk22 := HkGood.or (hooks_good fun i hi => by cases hi) hCN_good
theorem hg_q22 : HkGood Tryz.prog q22.hook := inst_good okt callsOK mixed hk22_good dhC_good q22 (by kernel_rfl) (by kernel_rfl) run_q22
theorem hk23_good : HkGood Tryz.prog hk23 := HkGood.or (hooks_good fun i hi => by cases hi) hCN_good
theorem hg_q23 : HkGood Tryz.prog q23.hook := inst_good okt callsOK mixed hk23_good dhC_good q23 (by kernel_rfl) (by kernel_rfl) run_q23
theorem hk24_good : HkGood Tryz.prog hk24 := HkGood.or (hooks_good fun i hi => by cases hi) hCN_good
theorem hg_q24 : HkGood Tryz.prog q24.hook := inst_good okt callsOK mixed hk24_good dhC_good q24 (by kernel_rfl) (by kernel_rfl) run_q24
theorem hk25_good : HkGood Tryz.prog hk25 := HkGood.or (hooks_good (l := [q21,q22,q23,q24]) fun i hi => by
  simp only [List.mem_cons, List.not_mem_nil, or_false] at hi
  rcases hi with rfl | rfl | rfl | rfl
  · exact hg_q21
  · exact hg_q22
  · exact hg_q23
  · exact hg_q24) hCN_good
theorem hg_q25 : HkGood Tryz.prog q25.hook := inst_good okt callsOK mixed hk25_good dhC_good q25 (by kernel_rfl) (by kernel_rfl) run_q25
theorem hk26_good : HkGood Tryz.prog hk26 := HkGood.or (hooks_good (l := [q12,q17,q19,q20,q25]) fun i hi => by
  simp only [List.mem_cons, List.not_mem_nil, or_false] at hi
  rcases hi with rfl | rfl | rfl | rfl | rfl
  · exact hg_q12
  · exact hg_q17
  · exact hg_q19
  · exact hg_q20
  · exact hg_q25) hCN_good
theorem hg_q26 : HkGood Tryz.prog (q26.parHook 2 0) := par_good okt callsOK mixed hk26_good dhC_good q26 (by kernel_rfl) (by kernel_rfl) run_q26
theorem closed_w : HkGood Tryz.prog aK.closed := closed_good okt callsOK mixed hk6_good dhC_good q6 (by kernel_rfl) (by kernel_rfl) rfl (by kernel_rfl) (by kernel_rfl) (by kernel_rfl) run_q6
theorem hP_good : HkGood Tryz.prog hP := HkGood.or hg_q26 (HkGood.or hg_q8 (HkGood.or (hooks_good (l := [q6]) fun i hi => by
  simp only [List.mem_cons, List.not_mem_nil, or_false] at hi
  rcases hi with rfl
  · exact hg_q6) hCN_good))
theorem hW_good : HkGood Tryz.prog hW := HkGood.or hP_good closed_w
end Go.Proofs.YtjfmelmiegnmjaaGreatDoor
