/- The hooks are good; the last call as one in any heap. -/
import Derived.Test.YtmmhbehlpppdiaaGreatDoorXRa0
import Derived.Test.YtmmhbehlpppdiaaGreatDoorXRa1
import Derived.Test.YtmmhbehlpppdiaaGreatDoorXRa2
import Derived.Test.YtmmhbehlpppdiaaGreatDoorXRa3
import Derived.Test.YtmmhbehlpppdiaaGreatDoorXRa4
import Derived.Test.YtmmhbehlpppdiaaGreatDoorXRa5
import Derived.Test.YtmmhbehlpppdiaaGreatDoorXRa6
import Derived.Test.YtmmhbehlpppdiaaGreatDoorXRa7
set_option linter.all false
open Go Go.Sx Go.Proofs
namespace Go.Proofs.YtmmhbehlpppdiaaGreatDoor
set_option maxRecDepth 1000000
theorem hg_a0 : HkGood Tryz.prog a0.hook := inst_good okt callsOK mixed HkGood.nil dhC_good a0 (by kernel_rfl) (by kernel_rfl) run_a0
theorem hk_a1 : HkGood Tryz.prog (hooksL [a0]) := hooks_good fun i hi => by
  simp only [List.mem_cons, List.not_mem_nil, or_false] at hi
  rcases hi with rfl
  · exact hg_a0
theorem hg_a1 : HkGood Tryz.prog a1.hook := inst_good okt callsOK mixed hk_a1 dhC_good a1 (by kernel_rfl) (by kernel_rfl) run_a1
theorem hk_a2 : HkGood Tryz.prog (hooksL [a1, a0]) := hooks_good fun i hi => by
  simp only [List.mem_cons, List.not_mem_nil, or_false] at hi
  rcases hi with rfl | rfl
  · exact hg_a1
  · exact hg_a0
theorem hg_a2 : HkGood Tryz.prog a2.hook := inst_good okt callsOK mixed hk_a2 dhC_good a2 (by kernel_rfl) (by kernel_rfl) run_a2
theorem hk_a3 : HkGood Tryz.prog (hooksL [a2, a1, a0]) := hooks_good fun i hi => by
  simp only [List.mem_cons, List.not_mem_nil, or_false] at hi
  rcases hi with rfl | rfl | rfl
  · exact hg_a2
  · exact hg_a1
  · exact hg_a0
theorem hg_a3 : HkGood Tryz.prog a3.hook := inst_good okt callsOK mixed hk_a3 dhC_good a3 (by kernel_rfl) (by kernel_rfl) run_a3
theorem hk_a4 : HkGood Tryz.prog (hooksL [a3, a2, a1, a0]) := hooks_good fun i hi => by
  simp only [List.mem_cons, List.not_mem_nil, or_false] at hi
  rcases hi with rfl | rfl | rfl | rfl
  · exact hg_a3
  · exact hg_a2
  · exact hg_a1
  · exact hg_a0
theorem hg_a4 : HkGood Tryz.prog a4.hook := inst_good okt callsOK mixed hk_a4 dhC_good a4 (by kernel_rfl) (by kernel_rfl) run_a4
theorem hk_a5 : HkGood Tryz.prog (hooksL [a4, a3, a2, a1, a0]) := hooks_good fun i hi => by
  simp only [List.mem_cons, List.not_mem_nil, or_false] at hi
  rcases hi with rfl | rfl | rfl | rfl | rfl
  · exact hg_a4
  · exact hg_a3
  · exact hg_a2
  · exact hg_a1
  · exact hg_a0
theorem hg_a5 : HkGood Tryz.prog a5.hook := inst_good okt callsOK mixed hk_a5 dhC_good a5 (by kernel_rfl) (by kernel_rfl) run_a5
theorem hk_a6 : HkGood Tryz.prog (hooksL [a5, a4, a3, a2, a1, a0]) := hooks_good fun i hi => by
  simp only [List.mem_cons, List.not_mem_nil, or_false] at hi
  rcases hi with rfl | rfl | rfl | rfl | rfl | rfl
  · exact hg_a5
  · exact hg_a4
  · exact hg_a3
  · exact hg_a2
  · exact hg_a1
  · exact hg_a0
theorem hg_a6 : HkGood Tryz.prog a6.hook := inst_good okt callsOK mixed hk_a6 dhC_good a6 (by kernel_rfl) (by kernel_rfl) run_a6
theorem hk_a7 : HkGood Tryz.prog (hooksL [a6, a5, a4, a3, a2, a1, a0]) := hooks_good fun i hi => by
  simp only [List.mem_cons, List.not_mem_nil, or_false] at hi
  rcases hi with rfl | rfl | rfl | rfl | rfl | rfl | rfl
  · exact hg_a6
  · exact hg_a5
  · exact hg_a4
  · exact hg_a3
  · exact hg_a2
  · exact hg_a1
  · exact hg_a0
theorem closed_a : HkGood Tryz.prog a7.closed := closed_good okt callsOK mixed hk_a7 dhC_good a7 (by kernel_rfl) (by kernel_rfl) rfl (by kernel_rfl) (by kernel_rfl) (by kernel_rfl) run_a7
end Go.Proofs.YtmmhbehlpppdiaaGreatDoor
