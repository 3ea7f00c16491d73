/- The hooks are good; the last call as one in any heap. -/
import Derived.Test.YtdkcmjifkhcfcaaGreatDoorXRb0
import Derived.Test.YtdkcmjifkhcfcaaGreatDoorXRb1
import Derived.Test.YtdkcmjifkhcfcaaGreatDoorXRb2
import Derived.Test.YtdkcmjifkhcfcaaGreatDoorXRb3
import Derived.Test.YtdkcmjifkhcfcaaGreatDoorXRb4
import Derived.Test.YtdkcmjifkhcfcaaGreatDoorXRb5
import Derived.Test.YtdkcmjifkhcfcaaGreatDoorXRb6
import Derived.Test.YtdkcmjifkhcfcaaGreatDoorXRb7
set_option linter.all false
open Go Go.Sx Go.Proofs
namespace Go.Proofs.YtdkcmjifkhcfcaaGreatDoor
set_option maxRecDepth 1000000
theorem hg_b0 : HkGood Tryz.prog b0.hook := inst_good okt callsOK mixed HkGood.nil dhC_good b0 (by kernel_rfl) (by kernel_rfl) run_b0
theorem hk_b1 : HkGood Tryz.prog (hooksL [b0]) := hooks_good fun i hi => by
  simp only [List.mem_cons, List.not_mem_nil, or_false] at hi
  rcases hi with rfl
  · exact hg_b0
theorem hg_b1 : HkGood Tryz.prog b1.hook := inst_good okt callsOK mixed hk_b1 dhC_good b1 (by kernel_rfl) (by kernel_rfl) run_b1
theorem hk_b2 : HkGood Tryz.prog (hooksL [b1, b0]) := hooks_good fun i hi => by
  simp only [List.mem_cons, List.not_mem_nil, or_false] at hi
  rcases hi with rfl | rfl
  · exact hg_b1
  · exact hg_b0
theorem hg_b2 : HkGood Tryz.prog b2.hook := inst_good okt callsOK mixed hk_b2 dhC_good b2 (by kernel_rfl) (by kernel_rfl) run_b2
theorem hk_b3 : HkGood Tryz.prog (hooksL [b2, b1, b0]) := hooks_good fun i hi => by
  simp only [List.mem_cons, List.not_mem_nil, or_false] at hi
  rcases hi with rfl | rfl | rfl
  · exact hg_b2
  · exact hg_b1
  · exact hg_b0
theorem hg_b3 : HkGood Tryz.prog b3.hook := inst_good okt callsOK mixed hk_b3 dhC_good b3 (by kernel_rfl) (by kernel_rfl) run_b3
theorem hk_b4 : HkGood Tryz.prog (hooksL [b3, b2, b1, b0]) := hooks_good fun i hi => by
  simp only [List.mem_cons, List.not_mem_nil, or_false] at hi
  rcases hi with rfl | rfl | rfl | rfl
  · exact hg_b3
  · exact hg_b2
  · exact hg_b1
  · exact hg_b0
theorem hg_b4 : HkGood Tryz.prog b4.hook := inst_good okt callsOK mixed hk_b4 dhC_good b4 (by kernel_rfl) (by kernel_rfl) run_b4
theorem hk_b5 : HkGood Tryz.prog (hooksL [b4, b3, b2, b1, b0]) := hooks_good fun i hi => by
  simp only [List.mem_cons, List.not_mem_nil, or_false] at hi
  rcases hi with rfl | rfl | rfl | rfl | rfl
  · exact hg_b4
  · exact hg_b3
  · exact hg_b2
  · exact hg_b1
  · exact hg_b0
theorem hg_b5 : HkGood Tryz.prog b5.hook := inst_good okt callsOK mixed hk_b5 dhC_good b5 (by kernel_rfl) (by kernel_rfl) run_b5
theorem hk_b6 : HkGood Tryz.prog (hooksL [b5, b4, b3, b2, b1, b0]) := hooks_good fun i hi => by
  simp only [List.mem_cons, List.not_mem_nil, or_false] at hi
  rcases hi with rfl | rfl | rfl | rfl | rfl | rfl
  · exact hg_b5
  · exact hg_b4
  · exact hg_b3
  · exact hg_b2
  · exact hg_b1
  · exact hg_b0
theorem hg_b6 : HkGood Tryz.prog b6.hook := inst_good okt callsOK mixed hk_b6 dhC_good b6 (by kernel_rfl) (by kernel_rfl) run_b6
theorem hk_b7 : HkGood Tryz.prog (hooksL [b6, b5, b4, b3, b2, b1, b0]) := hooks_good fun i hi => by
  simp only [List.mem_cons, List.not_mem_nil, or_false] at hi
  rcases hi with rfl | rfl | rfl | rfl | rfl | rfl | rfl
  · exact hg_b6
  · exact hg_b5
  · exact hg_b4
  · exact hg_b3
  · exact hg_b2
  · exact hg_b1
  · exact hg_b0
theorem closed_b : HkGood Tryz.prog b7.closed := closed_good okt callsOK mixed hk_b7 dhC_good b7 (by kernel_rfl) (by kernel_rfl) rfl (by kernel_rfl) (by kernel_rfl) (by kernel_rfl) run_b7
end Go.Proofs.YtdkcmjifkhcfcaaGreatDoor
