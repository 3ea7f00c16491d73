/- The hooks are good; awake as a closed call. -/
import Derived.Test.YtlnekpnopjgbfaaGreatDoorXSr0
import Derived.Test.YtlnekpnopjgbfaaGreatDoorXSr1
import Derived.Test.YtlnekpnopjgbfaaGreatDoorXSr2
import Derived.Test.YtlnekpnopjgbfaaGreatDoorXSr3
set_option linter.all false
open Go Go.Sx Go.Proofs
set_option linter.all false
namespace Go.Proofs.YtlnekpnopjgbfaaGreatDoor
set_option maxRecDepth 1000000
theorem hg_q0 : HkGood Tryz.prog q0.hook := inst_good okt callsOK mixed hI_good dhC_good q0 (by kernel_rfl) (by kernel_rfl) run_q0
theorem hg_q1 : HkGood Tryz.prog q1.hook := inst_good okt callsOK mixed hI_good dhC_good q1 (by kernel_rfl) (by kernel_rfl) run_q1
theorem hg_q2 : HkGood Tryz.prog q2.hook := inst_good okt callsOK mixed hI_good dhC_good q2 (by kernel_rfl) (by kernel_rfl) run_q2
theorem hg_q3 : HkGood Tryz.prog q3.hook := inst_good okt callsOK mixed hI_good dhC_good q3 (by kernel_rfl) (by kernel_rfl) run_q3
theorem hg_q4 : HkGood Tryz.prog q4.hook := inst_good okt callsOK mixed hI_good dhC_good q4 (by kernel_rfl) (by kernel_rfl) run_q4
theorem hg_q5 : HkGood Tryz.prog q5.hook := inst_good okt callsOK mixed hI_good dhC_good q5 (by kernel_rfl) (by kernel_rfl) run_q5
noncomputable def h1 : Hk := hor (hooksL [q0,q1,q2,q3,q4,q5]) hI
theorem h1_good : HkGood Tryz.prog h1 := HkGood.or (hooks_good fun i hi => by
  simp only [List.mem_cons, List.not_mem_nil, or_false] at hi
  rcases hi with rfl | rfl | rfl | rfl | rfl | rfl
  · exact hg_q0
  · exact hg_q1
  · exact hg_q2
  · exact hg_q3
  · exact hg_q4
  · exact hg_q5) hI_good
noncomputable def hA : Hk := hor h1 (zhook Tryz.prog okT (xcall Tryz.prog okT h1 dhC 1000 60) 1000 [fRun])
theorem hA_good : HkGood Tryz.prog hA := HkGood.or h1_good (zhook_good okt callsOK mixed (call_good okt callsOK mixed h1_good dhC_good 1000 60) _)
theorem run_q6 : ∀ E, q6.chk (xcall Tryz.prog okT hA dhC 100000 100 q6.f q6.args (q6.st0 E)) = true := fun E => by kernel_rfl
noncomputable def aK : Inst := q6
theorem closed_s : HkGood Tryz.prog aK.closed := closed_good okt callsOK mixed hA_good dhC_good q6 (by kernel_rfl) (by kernel_rfl) rfl (by kernel_rfl) (by kernel_rfl) (by kernel_rfl) run_q6
end Go.Proofs.YtlnekpnopjgbfaaGreatDoor
