/- DeviceOnce: the tied card of the law. No condition beyond the row's own. -/
import Derived.Test.YtjfmelmiegnmjaaGreatDoorXOnXh
import Derived.Test.YtjfmelmiegnmjaaGreatDoorXOnXr0
import Derived.Test.YtjfmelmiegnmjaaGreatDoorXOnXr1
import Derived.Test.YtjfmelmiegnmjaaGreatDoorXOnXr2
import Derived.Test.YtjfmelmiegnmjaaGreatDoorXOnXr3
import Derived.Test.YtjfmelmiegnmjaaGreatDoorXOnXr4
import Derived.Test.YtjfmelmiegnmjaaGreatDoorXOnXr5
import Derived.Test.YtjfmelmiegnmjaaGreatDoorXOnXr6
import Derived.Test.YtjfmelmiegnmjaaGreatDoorXOnXr7
import Derived.Test.YtjfmelmiegnmjaaGreatDoorXOnXr8
import Derived.Test.YtjfmelmiegnmjaaGreatDoorXOnXr9
import Derived.Test.YtjfmelmiegnmjaaGreatDoorXOnXr10
import Derived.Test.YtjfmelmiegnmjaaGreatDoorXOnXr11
import Derived.Test.YtjfmelmiegnmjaaGreatDoorXOnXr12
import Derived.Test.YtjfmelmiegnmjaaGreatDoorXOnXr13
import Derived.Test.YtjfmelmiegnmjaaGreatDoorXOnXr14
import Derived.Test.YtjfmelmiegnmjaaGreatDoorXOnXr15
import Derived.Test.YtjfmelmiegnmjaaGreatDoorXOnXr16
import Derived.Test.YtjfmelmiegnmjaaGreatDoorXOnXr17
import Derived.Test.YtjfmelmiegnmjaaGreatDoorXOnXr18
import Derived.Test.YtjfmelmiegnmjaaGreatDoorXOnXr19
import Derived.Test.YtjfmelmiegnmjaaGreatDoorXOnXr20
import Derived.Test.YtjfmelmiegnmjaaGreatDoorXOnXr21
import Derived.Test.YtjfmelmiegnmjaaGreatDoorXOnXr22
import Derived.Test.YtjfmelmiegnmjaaGreatDoorXOnXr23
import Derived.Test.YtjfmelmiegnmjaaGreatDoorXOnXr24
import Derived.Test.YtjfmelmiegnmjaaGreatDoorXOnXr25
import Derived.Test.YtjfmelmiegnmjaaGreatDoorXOnXr26
import Derived.Test.YtjfmelmiegnmjaaGreatDoorXOnXr27
import Derived.Test.YtjfmelmiegnmjaaGreatDoorXOnXr28
import Derived.Test.YtjfmelmiegnmjaaGreatDoorXOnXr29
import Derived.Test.YtjfmelmiegnmjaaGreatDoorXOnDOnce0
import Derived.Test.YtjfmelmiegnmjaaGreatDoorXOnDOnce1
import Derived.Test.YtjfmelmiegnmjaaGreatDoorXOnCt
set_option linter.all false
section
open Go Go.Sx Go.Proofs
set_option linter.all false
namespace Go.Proofs.YtjfmelmiegnmjaaGreatDoor
set_option maxRecDepth 1000000
theorem gq0 : HkGood Tryz.prog q0.hook := hgI run_q0 (by kernel_rfl) (HkGood.or (hooks_good nq) hCM_good)
theorem gq1 : HkGood Tryz.prog q1.hook := hgI run_q1 (by kernel_rfl) (HkGood.or (hooks_good nq) hCM_good)
theorem hk2_good : HkGood Tryz.prog hk2 := HkGood.or (hooks_good (cq gq0 (cq gq1 nq))) hCM_good
theorem gq2 : HkGood Tryz.prog q2.hook := hgI run_q2 (by kernel_rfl) hk2_good
theorem gq3 : HkGood Tryz.prog q3.hook := hgI run_q3 (by kernel_rfl) (HkGood.or (hooks_good nq) hCM_good)
theorem gq4 : HkGood Tryz.prog q4.hook := hgI run_q4 (by kernel_rfl) (HkGood.or (hooks_good nq) hCM_good)
theorem gq5 : HkGood Tryz.prog q5.hook := hgI run_q5 (by kernel_rfl) (HkGood.or (hooks_good (cq gq4 nq)) hCM_good)
theorem gq6 : HkGood Tryz.prog q6.hook := hgI run_q6 (by kernel_rfl) (HkGood.or (hooks_good (cq gq3 (cq gq5 nq))) hCM_good)
theorem gq7 : HkGood Tryz.prog q7.hook := hgI run_q7 (by kernel_rfl) (HkGood.or (hooks_good nq) hCM_good)
theorem gq8 : HkGood Tryz.prog q8.hook := hgI run_q8 (by kernel_rfl) (HkGood.or (hooks_good nq) hCM_good)
theorem gq9 : HkGood Tryz.prog q9.hook := hgI run_q9 (by kernel_rfl) (HkGood.or (hooks_good (cq gq8 nq)) hCM_good)
theorem hk10_good : HkGood Tryz.prog hk10 := HkGood.or (hooks_good (cq gq6 (cq gq7 (cq gq9 nq)))) hCM_good
theorem gq10 : HkGood Tryz.prog (q10.parHook 2 0) := par_good okt2 callsOK mixed hk10_good dhC_good q10 (by kernel_rfl) (by kernel_rfl) run_q10
theorem gq11 : HkGood Tryz.prog q11.hook := hgI run_q11 (by kernel_rfl) (HkGood.or (hooks_good nq) hCM_good)
theorem gq12 : HkGood Tryz.prog q12.hook := hgI run_q12 (by kernel_rfl) (HkGood.or (hooks_good (cq gq11 nq)) hCM_good)
theorem gq13 : HkGood Tryz.prog q13.hook := hgI run_q13 (by kernel_rfl) (HkGood.or (hooks_good nq) hCM_good)
theorem gq14 : HkGood Tryz.prog q14.hook := hgI run_q14 (by kernel_rfl) (HkGood.or (hooks_good (cq gq13 nq)) hCM_good)
theorem gq15 : HkGood Tryz.prog q15.hook := hgI run_q15 (by kernel_rfl) (HkGood.or (hooks_good (cq gq12 (cq gq14 nq))) hCM_good)
theorem gq16 : HkGood Tryz.prog q16.hook := hgI run_q16 (by kernel_rfl) (HkGood.or (hooks_good nq) hCM_good)
theorem gq17 : HkGood Tryz.prog q17.hook := hgI run_q17 (by kernel_rfl) (HkGood.or (hooks_good (cq gq16 nq)) hCM_good)
theorem gq18 : HkGood Tryz.prog q18.hook := hgI run_q18 (by kernel_rfl) (HkGood.or (hooks_good (cq gq17 nq)) hCM_good)
theorem gq19 : HkGood Tryz.prog q19.hook := hgI run_q19 (by kernel_rfl) (HkGood.or (hooks_good (cq gq18 nq)) hCM_good)
theorem gq20 : HkGood Tryz.prog q20.hook := hgI run_q20 (by kernel_rfl) (HkGood.or (hooks_good nq) hCM_good)
theorem gq21 : HkGood Tryz.prog q21.hook := hgI run_q21 (by kernel_rfl) (HkGood.or (hooks_good nq) hCM_good)
theorem gq22 : HkGood Tryz.prog q22.hook := hgI run_q22 (by kernel_rfl) (HkGood.or (hooks_good nq) hCM_good)
theorem gq23 : HkGood Tryz.prog q23.hook := hgI run_q23 (by kernel_rfl) (HkGood.or (hooks_good nq) hCM_good)
theorem gq24 : HkGood Tryz.prog q24.hook := hgI run_q24 (by kernel_rfl) (HkGood.or (hooks_good nq) hCM_good)
theorem gq25 : HkGood Tryz.prog q25.hook := hgI run_q25 (by kernel_rfl) (HkGood.or (hooks_good nq) hCM_good)
theorem gq26 : HkGood Tryz.prog q26.hook := hgI run_q26 (by kernel_rfl) (HkGood.or (hooks_good nq) hCM_good)
theorem gq27 : HkGood Tryz.prog q27.hook := hgI run_q27 (by kernel_rfl) (HkGood.or (hooks_good nq) hCM_good)
theorem gq28 : HkGood Tryz.prog q28.hook := hgI run_q28 (by kernel_rfl) (HkGood.or (hooks_good nq) hCM_good)
theorem gq29 : HkGood Tryz.prog q29.hook := hgI run_q29 (by kernel_rfl) (HkGood.or (hooks_good nq) hCM_good)
theorem gq30 : HkGood Tryz.prog q30.hook := hgI run_q30 (by kernel_rfl) (HkGood.or (hooks_good (cq gq29 nq)) hCM_good)
theorem gq31 : HkGood Tryz.prog q31.hook := hgI run_q31 (by kernel_rfl) (HkGood.or (hooks_good nq) hCM_good)
theorem gq32 : HkGood Tryz.prog q32.hook := hgI run_q32 (by kernel_rfl) (HkGood.or (hooks_good (cq gq31 nq)) hCM_good)
theorem gq33 : HkGood Tryz.prog q33.hook := hgI run_q33 (by kernel_rfl) (HkGood.or (hooks_good (cq gq30 (cq gq32 nq))) hCM_good)
theorem gq34 : HkGood Tryz.prog q34.hook := hgI run_q34 (by kernel_rfl) (HkGood.or (hooks_good nq) hCM_good)
theorem gq35 : HkGood Tryz.prog q35.hook := hgI run_q35 (by kernel_rfl) (HkGood.or (hooks_good (cq gq34 nq)) hCM_good)
theorem gq36 : HkGood Tryz.prog q36.hook := hgI run_q36 (by kernel_rfl) (HkGood.or (hooks_good (cq gq35 nq)) hCM_good)
theorem gq37 : HkGood Tryz.prog q37.hook := hgI run_q37 (by kernel_rfl) (HkGood.or (hooks_good (cq gq36 nq)) hCM_good)
theorem gq38 : HkGood Tryz.prog q38.hook := hgI run_q38 (by kernel_rfl) (HkGood.or (hooks_good nq) hCM_good)
theorem gq39 : HkGood Tryz.prog q39.hook := hgI run_q39 (by kernel_rfl) (HkGood.or (hooks_good nq) hCM_good)
theorem gq40 : HkGood Tryz.prog q40.hook := hgI run_q40 (by kernel_rfl) (HkGood.or (hooks_good nq) hCM_good)
theorem gq41 : HkGood Tryz.prog q41.hook := hgI run_q41 (by kernel_rfl) (HkGood.or (hooks_good nq) hCM_good)
theorem gq42 : HkGood Tryz.prog q42.hook := hgI run_q42 (by kernel_rfl) (HkGood.or (hooks_good nq) hCM_good)
theorem gq43 : HkGood Tryz.prog q43.hook := hgI run_q43 (by kernel_rfl) (HkGood.or (hooks_good nq) hCM_good)
theorem gq44 : HkGood Tryz.prog q44.hook := hgI run_q44 (by kernel_rfl) (HkGood.or (hooks_good nq) hCM_good)
theorem gq45 : HkGood Tryz.prog q45.hook := hgI run_q45 (by kernel_rfl) (HkGood.or (hooks_good nq) hCM_good)
theorem gq46 : HkGood Tryz.prog q46.hook := hgI run_q46 (by kernel_rfl) (HkGood.or (hooks_good nq) hCM_good)
theorem gq47 : HkGood Tryz.prog q47.hook := hgI run_q47 (by kernel_rfl) (HkGood.or (hooks_good nq) hCM_good)
theorem gq48 : HkGood Tryz.prog q48.hook := hgI run_q48 (by kernel_rfl) (HkGood.or (hooks_good (cq gq47 nq)) hCM_good)
theorem gq49 : HkGood Tryz.prog q49.hook := hgI run_q49 (by kernel_rfl) (HkGood.or (hooks_good nq) hCM_good)
theorem gq50 : HkGood Tryz.prog q50.hook := hgI run_q50 (by kernel_rfl) (HkGood.or (hooks_good (cq gq49 nq)) hCM_good)
theorem gq51 : HkGood Tryz.prog q51.hook := hgI run_q51 (by kernel_rfl) (HkGood.or (hooks_good (cq gq48 (cq gq50 nq))) hCM_good)
theorem gq52 : HkGood Tryz.prog q52.hook := hgI run_q52 (by kernel_rfl) (HkGood.or (hooks_good nq) hCM_good)
theorem gq53 : HkGood Tryz.prog q53.hook := hgI run_q53 (by kernel_rfl) (HkGood.or (hooks_good (cq gq52 nq)) hCM_good)
theorem gq54 : HkGood Tryz.prog q54.hook := hgI run_q54 (by kernel_rfl) (HkGood.or (hooks_good (cq gq53 nq)) hCM_good)
theorem gq55 : HkGood Tryz.prog q55.hook := hgI run_q55 (by kernel_rfl) (HkGood.or (hooks_good (cq gq54 nq)) hCM_good)
theorem gq56 : HkGood Tryz.prog q56.hook := hgI run_q56 (by kernel_rfl) (HkGood.or (hooks_good nq) hCM_good)
theorem gq57 : HkGood Tryz.prog q57.hook := hgI run_q57 (by kernel_rfl) (HkGood.or (hooks_good nq) hCM_good)
theorem gq58 : HkGood Tryz.prog q58.hook := hgI run_q58 (by kernel_rfl) (HkGood.or (hooks_good nq) hCM_good)
theorem gq59 : HkGood Tryz.prog q59.hook := hgI run_q59 (by kernel_rfl) (HkGood.or (hooks_good nq) hCM_good)
theorem gq60 : HkGood Tryz.prog q60.hook := hgI run_q60 (by kernel_rfl) (HkGood.or (hooks_good nq) hCM_good)
theorem gq61 : HkGood Tryz.prog q61.hook := hgI run_q61 (by kernel_rfl) (HkGood.or (hooks_good nq) hCM_good)
theorem gq62 : HkGood Tryz.prog q62.hook := hgI run_q62 (by kernel_rfl) (HkGood.or (hooks_good nq) hCM_good)
theorem gq63 : HkGood Tryz.prog q63.hook := hgI run_q63 (by kernel_rfl) (HkGood.or (hooks_good nq) hCM_good)
theorem gq64 : HkGood Tryz.prog q64.hook := hgI run_q64 (by kernel_rfl) (HkGood.or (hooks_good nq) hCM_good)
theorem gq65 : HkGood Tryz.prog q65.hook := hgI run_q65 (by kernel_rfl) (HkGood.or (hooks_good nq) hCM_good)
theorem gq66 : HkGood Tryz.prog q66.hook := hgI run_q66 (by kernel_rfl) (HkGood.or (hooks_good nq) hCM_good)
theorem gq67 : HkGood Tryz.prog q67.hook := hgI run_q67 (by kernel_rfl) (HkGood.or (hooks_good (cq gq66 nq)) hCM_good)
theorem gq68 : HkGood Tryz.prog q68.hook := hgI run_q68 (by kernel_rfl) (HkGood.or (hooks_good nq) hCM_good)
theorem gq69 : HkGood Tryz.prog q69.hook := hgI run_q69 (by kernel_rfl) (HkGood.or (hooks_good (cq gq68 nq)) hCM_good)
theorem gq70 : HkGood Tryz.prog q70.hook := hgI run_q70 (by kernel_rfl) (HkGood.or (hooks_good (cq gq67 (cq gq69 nq))) hCM_good)
theorem gq71 : HkGood Tryz.prog q71.hook := hgI run_q71 (by kernel_rfl) (HkGood.or (hooks_good nq) hCM_good)
theorem gq72 : HkGood Tryz.prog q72.hook := hgI run_q72 (by kernel_rfl) (HkGood.or (hooks_good (cq gq71 nq)) hCM_good)
theorem gq73 : HkGood Tryz.prog q73.hook := hgI run_q73 (by kernel_rfl) (HkGood.or (hooks_good (cq gq72 nq)) hCM_good)
theorem gq74 : HkGood Tryz.prog q74.hook := hgI run_q74 (by kernel_rfl) (HkGood.or (hooks_good (cq gq73 nq)) hCM_good)
theorem gq75 : HkGood Tryz.prog q75.hook := hgI run_q75 (by kernel_rfl) (HkGood.or (hooks_good nq) hCM_good)
theorem gq76 : HkGood Tryz.prog q76.hook := hgI run_q76 (by kernel_rfl) (HkGood.or (hooks_good nq) hCM_good)
theorem gq77 : HkGood Tryz.prog q77.hook := hgI run_q77 (by kernel_rfl) (HkGood.or (hooks_good nq) hCM_good)
theorem gq78 : HkGood Tryz.prog q78.hook := hgI run_q78 (by kernel_rfl) (HkGood.or (hooks_good nq) hCM_good)
theorem gq79 : HkGood Tryz.prog q79.hook := hgI run_q79 (by kernel_rfl) (HkGood.or (hooks_good nq) hCM_good)
theorem gq80 : HkGood Tryz.prog q80.hook := hgI run_q80 (by kernel_rfl) (HkGood.or (hooks_good nq) hCM_good)
theorem gq81 : HkGood Tryz.prog q81.hook := hgI run_q81 (by kernel_rfl) (HkGood.or (hooks_good nq) hCM_good)
theorem gq82 : HkGood Tryz.prog q82.hook := hgI run_q82 (by kernel_rfl) (HkGood.or (hooks_good nq) hCM_good)
theorem gq83 : HkGood Tryz.prog q83.hook := hgI run_q83 (by kernel_rfl) (HkGood.or (hooks_good nq) hCM_good)
theorem gq84 : HkGood Tryz.prog q84.hook := hgI run_q84 (by kernel_rfl) (HkGood.or (hooks_good nq) hCM_good)
theorem gq85 : HkGood Tryz.prog q85.hook := hgI run_q85 (by kernel_rfl) (HkGood.or (hooks_good nq) hCM_good)
theorem gq86 : HkGood Tryz.prog q86.hook := hgI run_q86 (by kernel_rfl) (HkGood.or (hooks_good (cq gq85 nq)) hCM_good)
theorem gq87 : HkGood Tryz.prog q87.hook := hgI run_q87 (by kernel_rfl) (HkGood.or (hooks_good nq) hCM_good)
theorem gq88 : HkGood Tryz.prog q88.hook := hgI run_q88 (by kernel_rfl) (HkGood.or (hooks_good (cq gq87 nq)) hCM_good)
theorem gq89 : HkGood Tryz.prog q89.hook := hgI run_q89 (by kernel_rfl) (HkGood.or (hooks_good (cq gq86 (cq gq88 nq))) hCM_good)
theorem gq90 : HkGood Tryz.prog q90.hook := hgI run_q90 (by kernel_rfl) (HkGood.or (hooks_good nq) hCM_good)
theorem gq91 : HkGood Tryz.prog q91.hook := hgI run_q91 (by kernel_rfl) (HkGood.or (hooks_good (cq gq90 nq)) hCM_good)
theorem gq92 : HkGood Tryz.prog q92.hook := hgI run_q92 (by kernel_rfl) (HkGood.or (hooks_good (cq gq91 nq)) hCM_good)
theorem gq93 : HkGood Tryz.prog q93.hook := hgI run_q93 (by kernel_rfl) (HkGood.or (hooks_good (cq gq92 nq)) hCM_good)
theorem gq94 : HkGood Tryz.prog q94.hook := hgI run_q94 (by kernel_rfl) (HkGood.or (hooks_good nq) hCM_good)
theorem gq95 : HkGood Tryz.prog q95.hook := hgI run_q95 (by kernel_rfl) (HkGood.or (hooks_good nq) hCM_good)
theorem gq96 : HkGood Tryz.prog q96.hook := hgI run_q96 (by kernel_rfl) (HkGood.or (hooks_good nq) hCM_good)
theorem gq97 : HkGood Tryz.prog q97.hook := hgI run_q97 (by kernel_rfl) (HkGood.or (hooks_good nq) hCM_good)
theorem gq98 : HkGood Tryz.prog q98.hook := hgI run_q98 (by kernel_rfl) (HkGood.or (hooks_good nq) hCM_good)
theorem gq99 : HkGood Tryz.prog q99.hook := hgI run_q99 (by kernel_rfl) (HkGood.or (hooks_good nq) hCM_good)
theorem gq100 : HkGood Tryz.prog q100.hook := hgI run_q100 (by kernel_rfl) (HkGood.or (hooks_good nq) hCM_good)
theorem gq101 : HkGood Tryz.prog q101.hook := hgI run_q101 (by kernel_rfl) (HkGood.or (hooks_good nq) hCM_good)
theorem gq102 : HkGood Tryz.prog q102.hook := hgI run_q102 (by kernel_rfl) (HkGood.or (hooks_good nq) hCM_good)
theorem gq103 : HkGood Tryz.prog q103.hook := hgI run_q103 (by kernel_rfl) (HkGood.or (hooks_good nq) hCM_good)
theorem gq104 : HkGood Tryz.prog q104.hook := hgI run_q104 (by kernel_rfl) (HkGood.or (hooks_good nq) hCM_good)
theorem gq105 : HkGood Tryz.prog q105.hook := hgI run_q105 (by kernel_rfl) (HkGood.or (hooks_good (cq gq104 nq)) hCM_good)
theorem gq106 : HkGood Tryz.prog q106.hook := hgI run_q106 (by kernel_rfl) (HkGood.or (hooks_good nq) hCM_good)
theorem gq107 : HkGood Tryz.prog q107.hook := hgI run_q107 (by kernel_rfl) (HkGood.or (hooks_good (cq gq106 nq)) hCM_good)
theorem gq108 : HkGood Tryz.prog q108.hook := hgI run_q108 (by kernel_rfl) (HkGood.or (hooks_good (cq gq105 (cq gq107 nq))) hCM_good)
theorem gq109 : HkGood Tryz.prog q109.hook := hgI run_q109 (by kernel_rfl) (HkGood.or (hooks_good nq) hCM_good)
theorem gq110 : HkGood Tryz.prog q110.hook := hgI run_q110 (by kernel_rfl) (HkGood.or (hooks_good (cq gq109 nq)) hCM_good)
theorem gq111 : HkGood Tryz.prog q111.hook := hgI run_q111 (by kernel_rfl) (HkGood.or (hooks_good (cq gq110 nq)) hCM_good)
theorem gq112 : HkGood Tryz.prog q112.hook := hgI run_q112 (by kernel_rfl) (HkGood.or (hooks_good (cq gq111 nq)) hCM_good)
theorem gq113 : HkGood Tryz.prog q113.hook := hgI run_q113 (by kernel_rfl) (HkGood.or (hooks_good nq) hCM_good)
theorem gq114 : HkGood Tryz.prog q114.hook := hgI run_q114 (by kernel_rfl) (HkGood.or (hooks_good nq) hCM_good)
theorem gq115 : HkGood Tryz.prog q115.hook := hgI run_q115 (by kernel_rfl) (HkGood.or (hooks_good nq) hCM_good)
theorem gq116 : HkGood Tryz.prog q116.hook := hgI run_q116 (by kernel_rfl) (HkGood.or (hooks_good nq) hCM_good)
theorem gq117 : HkGood Tryz.prog q117.hook := hgI run_q117 (by kernel_rfl) (HkGood.or (hooks_good nq) hCM_good)
theorem gq118 : HkGood Tryz.prog q118.hook := hgI run_q118 (by kernel_rfl) (HkGood.or (hooks_good nq) hCM_good)
theorem gq119 : HkGood Tryz.prog q119.hook := hgI run_q119 (by kernel_rfl) (HkGood.or (hooks_good nq) hCM_good)
theorem gq120 : HkGood Tryz.prog q120.hook := hgI run_q120 (by kernel_rfl) (HkGood.or (hooks_good nq) hCM_good)
theorem gq121 : HkGood Tryz.prog q121.hook := hgI run_q121 (by kernel_rfl) (HkGood.or (hooks_good nq) hCM_good)
theorem gq122 : HkGood Tryz.prog q122.hook := hgI run_q122 (by kernel_rfl) (HkGood.or (hooks_good nq) hCM_good)
theorem hk123_good : HkGood Tryz.prog hk123 := HkGood.or (hooks_good nq) hCM_good
theorem gq123 : HkGood Tryz.prog (q123.parHook 2 1) := par_good okt2 callsOK mixed hk123_good dhC_good q123 (by kernel_rfl) (by kernel_rfl) run_q123
theorem gq124 : HkGood Tryz.prog q124.hook := hgI run_q124 (by kernel_rfl) (HkGood.or (hooks_good nq) hCM_good)
theorem gq125 : HkGood Tryz.prog q125.hook := hgI run_q125 (by kernel_rfl) (HkGood.or (hooks_good nq) hCM_good)
theorem gq126 : HkGood Tryz.prog q126.hook := hgI run_q126 (by kernel_rfl) (HkGood.or (hooks_good nq) hCM_good)
theorem gq127 : HkGood Tryz.prog q127.hook := hgI run_q127 (by kernel_rfl) (HkGood.or (hooks_good nq) hCM_good)
theorem gq128 : HkGood Tryz.prog q128.hook := hgI run_q128 (by kernel_rfl) (HkGood.or (hooks_good nq) hCM_good)
theorem gq129 : HkGood Tryz.prog q129.hook := hgI run_q129 (by kernel_rfl) (HkGood.or (hooks_good nq) hCM_good)
theorem gq130 : HkGood Tryz.prog q130.hook := hgI run_q130 (by kernel_rfl) (HkGood.or (hooks_good nq) hCM_good)
theorem gq131 : HkGood Tryz.prog q131.hook := hgI run_q131 (by kernel_rfl) (HkGood.or (hooks_good nq) hCM_good)
theorem gq132 : HkGood Tryz.prog q132.hook := hgI run_q132 (by kernel_rfl) (HkGood.or (hooks_good nq) hCM_good)
theorem gq133 : HkGood Tryz.prog q133.hook := hgI run_q133 (by kernel_rfl) (HkGood.or (hooks_good nq) hCM_good)
theorem gq134 : HkGood Tryz.prog q134.hook := hgI run_q134 (by kernel_rfl) (HkGood.or (hooks_good nq) hCM_good)
theorem gq135 : HkGood Tryz.prog q135.hook := hgI run_q135 (by kernel_rfl) (HkGood.or (hooks_good nq) hCM_good)
theorem gq136 : HkGood Tryz.prog q136.hook := hgI run_q136 (by kernel_rfl) (HkGood.or (hooks_good nq) hCM_good)
theorem gq137 : HkGood Tryz.prog q137.hook := hgI run_q137 (by kernel_rfl) (HkGood.or (hooks_good nq) hCM_good)
theorem gq138 : HkGood Tryz.prog q138.hook := hgI run_q138 (by kernel_rfl) (HkGood.or (hooks_good nq) hCM_good)
theorem gq139 : HkGood Tryz.prog q139.hook := hgI run_q139 (by kernel_rfl) (HkGood.or (hooks_good nq) hCM_good)
theorem gq140 : HkGood Tryz.prog q140.hook := hgI run_q140 (by kernel_rfl) (HkGood.or (hooks_good nq) hCM_good)
theorem gq141 : HkGood Tryz.prog q141.hook := hgI run_q141 (by kernel_rfl) (HkGood.or (hooks_good nq) hCM_good)
theorem gq142 : HkGood Tryz.prog q142.hook := hgI run_q142 (by kernel_rfl) (HkGood.or (hooks_good nq) hCM_good)
theorem gq143 : HkGood Tryz.prog q143.hook := hgI run_q143 (by kernel_rfl) (HkGood.or (hooks_good nq) hCM_good)
theorem gq144 : HkGood Tryz.prog q144.hook := hgI run_q144 (by kernel_rfl) (HkGood.or (hooks_good nq) hCM_good)
theorem gq145 : HkGood Tryz.prog q145.hook := hgI run_q145 (by kernel_rfl) (HkGood.or (hooks_good nq) hCM_good)
theorem gq146 : HkGood Tryz.prog q146.hook := hgI run_q146 (by kernel_rfl) (HkGood.or (hooks_good nq) hCM_good)
theorem gq147 : HkGood Tryz.prog q147.hook := hgI run_q147 (by kernel_rfl) (HkGood.or (hooks_good nq) hCM_good)
theorem gq148 : HkGood Tryz.prog q148.hook := hgI run_q148 (by kernel_rfl) (HkGood.or (hooks_good nq) hCM_good)
theorem gq149 : HkGood Tryz.prog q149.hook := hgI run_q149 (by kernel_rfl) (HkGood.or (hooks_good nq) hCM_good)
theorem gq150 : HkGood Tryz.prog q150.hook := hgI run_q150 (by kernel_rfl) (HkGood.or (hooks_good nq) hCM_good)
theorem gq151 : HkGood Tryz.prog q151.hook := hgI run_q151 (by kernel_rfl) (HkGood.or (hooks_good nq) hCM_good)
theorem gq152 : HkGood Tryz.prog q152.hook := hgI run_q152 (by kernel_rfl) (HkGood.or (hooks_good nq) hCM_good)
theorem gq153 : HkGood Tryz.prog q153.hook := hgI run_q153 (by kernel_rfl) (HkGood.or (hooks_good nq) hCM_good)
theorem gq154 : HkGood Tryz.prog q154.hook := hgI run_q154 (by kernel_rfl) (HkGood.or (hooks_good nq) hCM_good)
theorem gq155 : HkGood Tryz.prog q155.hook := hgI run_q155 (by kernel_rfl) (HkGood.or (hooks_good nq) hCM_good)
theorem gq156 : HkGood Tryz.prog q156.hook := hgI run_q156 (by kernel_rfl) (HkGood.or (hooks_good nq) hCM_good)
theorem gq157 : HkGood Tryz.prog q157.hook := hgI run_q157 (by kernel_rfl) (HkGood.or (hooks_good nq) hCM_good)
theorem gq158 : HkGood Tryz.prog q158.hook := hgI run_q158 (by kernel_rfl) (HkGood.or (hooks_good nq) hCM_good)
theorem gq159 : HkGood Tryz.prog q159.hook := hgI run_q159 (by kernel_rfl) (HkGood.or (hooks_good nq) hCM_good)
theorem gq160 : HkGood Tryz.prog q160.hook := hgI run_q160 (by kernel_rfl) (HkGood.or (hooks_good nq) hCM_good)
theorem gq161 : HkGood Tryz.prog q161.hook := hgI run_q161 (by kernel_rfl) (HkGood.or (hooks_good nq) hCM_good)
theorem gq162 : HkGood Tryz.prog q162.hook := hgI run_q162 (by kernel_rfl) (HkGood.or (hooks_good nq) hCM_good)
theorem gq163 : HkGood Tryz.prog q163.hook := hgI run_q163 (by kernel_rfl) (HkGood.or (hooks_good nq) hCM_good)
theorem gq164 : HkGood Tryz.prog q164.hook := hgI run_q164 (by kernel_rfl) (HkGood.or (hooks_good nq) hCM_good)
theorem gq165 : HkGood Tryz.prog q165.hook := hgI run_q165 (by kernel_rfl) (HkGood.or (hooks_good nq) hCM_good)
theorem gq166 : HkGood Tryz.prog q166.hook := hgI run_q166 (by kernel_rfl) (HkGood.or (hooks_good nq) hCM_good)
theorem gq167 : HkGood Tryz.prog q167.hook := hgI run_q167 (by kernel_rfl) (HkGood.or (hooks_good nq) hCM_good)
theorem gq168 : HkGood Tryz.prog q168.hook := hgI run_q168 (by kernel_rfl) (HkGood.or (hooks_good nq) hCM_good)
theorem gq169 : HkGood Tryz.prog q169.hook := hgI run_q169 (by kernel_rfl) (HkGood.or (hooks_good nq) hCM_good)
theorem gq170 : HkGood Tryz.prog q170.hook := hgI run_q170 (by kernel_rfl) (HkGood.or (hooks_good nq) hCM_good)
theorem gq171 : HkGood Tryz.prog q171.hook := hgI run_q171 (by kernel_rfl) (HkGood.or (hooks_good nq) hCM_good)
theorem gq172 : HkGood Tryz.prog q172.hook := hgI run_q172 (by kernel_rfl) (HkGood.or (hooks_good nq) hCM_good)
theorem gq173 : HkGood Tryz.prog q173.hook := hgI run_q173 (by kernel_rfl) (HkGood.or (hooks_good nq) hCM_good)
theorem gq174 : HkGood Tryz.prog q174.hook := hgI run_q174 (by kernel_rfl) (HkGood.or (hooks_good nq) hCM_good)
theorem gq175 : HkGood Tryz.prog q175.hook := hgI run_q175 (by kernel_rfl) (HkGood.or (hooks_good nq) hCM_good)
theorem gq176 : HkGood Tryz.prog q176.hook := hgI run_q176 (by kernel_rfl) (HkGood.or (hooks_good nq) hCM_good)
theorem gq177 : HkGood Tryz.prog q177.hook := hgI run_q177 (by kernel_rfl) (HkGood.or (hooks_good nq) hCM_good)
theorem gq178 : HkGood Tryz.prog q178.hook := hgI run_q178 (by kernel_rfl) (HkGood.or (hooks_good nq) hCM_good)
theorem gq179 : HkGood Tryz.prog q179.hook := hgI run_q179 (by kernel_rfl) (HkGood.or (hooks_good nq) hCM_good)
theorem gq180 : HkGood Tryz.prog q180.hook := hgI run_q180 (by kernel_rfl) (HkGood.or (hooks_good nq) hCM_good)
theorem gq181 : HkGood Tryz.prog q181.hook := hgI run_q181 (by kernel_rfl) (HkGood.or (hooks_good nq) hCM_good)
theorem gq182 : HkGood Tryz.prog q182.hook := hgI run_q182 (by kernel_rfl) (HkGood.or (hooks_good nq) hCM_good)
theorem gq183 : HkGood Tryz.prog q183.hook := hgI run_q183 (by kernel_rfl) (HkGood.or (hooks_good nq) hCM_good)
theorem gq184 : HkGood Tryz.prog q184.hook := hgI run_q184 (by kernel_rfl) (HkGood.or (hooks_good nq) hCM_good)
theorem gq185 : HkGood Tryz.prog q185.hook := hgI run_q185 (by kernel_rfl) (HkGood.or (hooks_good nq) hCM_good)
theorem gq186 : HkGood Tryz.prog q186.hook := hgI run_q186 (by kernel_rfl) (HkGood.or (hooks_good nq) hCM_good)
theorem gq187 : HkGood Tryz.prog q187.hook := hgI run_q187 (by kernel_rfl) (HkGood.or (hooks_good nq) hCM_good)
theorem gq188 : HkGood Tryz.prog q188.hook := hgI run_q188 (by kernel_rfl) (HkGood.or (hooks_good nq) hCM_good)
theorem gq189 : HkGood Tryz.prog q189.hook := hgI run_q189 (by kernel_rfl) (HkGood.or (hooks_good nq) hCM_good)
theorem gq190 : HkGood Tryz.prog q190.hook := hgI run_q190 (by kernel_rfl) (HkGood.or (hooks_good nq) hCM_good)
theorem gq191 : HkGood Tryz.prog q191.hook := hgI run_q191 (by kernel_rfl) (HkGood.or (hooks_good nq) hCM_good)
theorem gq192 : HkGood Tryz.prog q192.hook := hgI run_q192 (by kernel_rfl) (HkGood.or (hooks_good nq) hCM_good)
theorem gq193 : HkGood Tryz.prog q193.hook := hgI run_q193 (by kernel_rfl) (HkGood.or (hooks_good nq) hCM_good)
theorem gq194 : HkGood Tryz.prog q194.hook := hgI run_q194 (by kernel_rfl) (HkGood.or (hooks_good nq) hCM_good)
theorem gq195 : HkGood Tryz.prog q195.hook := hgI run_q195 (by kernel_rfl) (HkGood.or (hooks_good nq) hCM_good)
theorem gq196 : HkGood Tryz.prog q196.hook := hgI run_q196 (by kernel_rfl) (HkGood.or (hooks_good nq) hCM_good)
theorem gq197 : HkGood Tryz.prog q197.hook := hgI run_q197 (by kernel_rfl) (HkGood.or (hooks_good nq) hCM_good)
theorem gq198 : HkGood Tryz.prog q198.hook := hgI run_q198 (by kernel_rfl) (HkGood.or (hooks_good nq) hCM_good)
theorem gq199 : HkGood Tryz.prog q199.hook := hgI run_q199 (by kernel_rfl) (HkGood.or (hooks_good nq) hCM_good)
theorem gq200 : HkGood Tryz.prog q200.hook := hgI run_q200 (by kernel_rfl) (HkGood.or (hooks_good nq) hCM_good)
theorem gq201 : HkGood Tryz.prog q201.hook := hgI run_q201 (by kernel_rfl) (HkGood.or (hooks_good nq) hCM_good)
theorem gq202 : HkGood Tryz.prog q202.hook := hgI run_q202 (by kernel_rfl) (HkGood.or (hooks_good nq) hCM_good)
theorem gq203 : HkGood Tryz.prog q203.hook := hgI run_q203 (by kernel_rfl) (HkGood.or (hooks_good nq) hCM_good)
theorem gq204 : HkGood Tryz.prog q204.hook := hgI run_q204 (by kernel_rfl) (HkGood.or (hooks_good nq) hCM_good)
theorem gq205 : HkGood Tryz.prog q205.hook := hgI run_q205 (by kernel_rfl) (HkGood.or (hooks_good nq) hCM_good)
theorem gq206 : HkGood Tryz.prog q206.hook := hgI run_q206 (by kernel_rfl) (HkGood.or (hooks_good nq) hCM_good)
theorem gq207 : HkGood Tryz.prog q207.hook := hgI run_q207 (by kernel_rfl) (HkGood.or (hooks_good nq) hCM_good)
theorem gq208 : HkGood Tryz.prog q208.hook := hgI run_q208 (by kernel_rfl) (HkGood.or (hooks_good nq) hCM_good)
theorem gq209 : HkGood Tryz.prog q209.hook := hgI run_q209 (by kernel_rfl) (HkGood.or (hooks_good nq) hCM_good)
theorem gq210 : HkGood Tryz.prog q210.hook := hgI run_q210 (by kernel_rfl) (HkGood.or (hooks_good nq) hCM_good)
theorem gq211 : HkGood Tryz.prog q211.hook := hgI run_q211 (by kernel_rfl) (HkGood.or (hooks_good nq) hCM_good)
theorem gq212 : HkGood Tryz.prog q212.hook := hgI run_q212 (by kernel_rfl) (HkGood.or (hooks_good nq) hCM_good)
theorem gq213 : HkGood Tryz.prog q213.hook := hgI run_q213 (by kernel_rfl) (HkGood.or (hooks_good nq) hCM_good)
theorem gq214 : HkGood Tryz.prog q214.hook := hgI run_q214 (by kernel_rfl) (HkGood.or (hooks_good nq) hCM_good)
theorem gq215 : HkGood Tryz.prog q215.hook := hgI run_q215 (by kernel_rfl) (HkGood.or (hooks_good nq) hCM_good)
theorem gq216 : HkGood Tryz.prog q216.hook := hgI run_q216 (by kernel_rfl) (HkGood.or (hooks_good nq) hCM_good)
theorem gq217 : HkGood Tryz.prog q217.hook := hgI run_q217 (by kernel_rfl) (HkGood.or (hooks_good nq) hCM_good)
theorem gq218 : HkGood Tryz.prog q218.hook := hgI run_q218 (by kernel_rfl) (HkGood.or (hooks_good nq) hCM_good)
theorem gq219 : HkGood Tryz.prog q219.hook := hgI run_q219 (by kernel_rfl) (HkGood.or (hooks_good nq) hCM_good)
theorem gq220 : HkGood Tryz.prog q220.hook := hgI run_q220 (by kernel_rfl) (HkGood.or (hooks_good nq) hCM_good)
theorem gq221 : HkGood Tryz.prog q221.hook := hgI run_q221 (by kernel_rfl) (HkGood.or (hooks_good nq) hCM_good)
theorem gq222 : HkGood Tryz.prog q222.hook := hgI run_q222 (by kernel_rfl) (HkGood.or (hooks_good nq) hCM_good)
theorem gq223 : HkGood Tryz.prog q223.hook := hgI run_q223 (by kernel_rfl) (HkGood.or (hooks_good nq) hCM_good)
theorem gq224 : HkGood Tryz.prog q224.hook := hgI run_q224 (by kernel_rfl) (HkGood.or (hooks_good nq) hCM_good)
theorem gq225 : HkGood Tryz.prog q225.hook := hgI run_q225 (by kernel_rfl) (HkGood.or (hooks_good nq) hCM_good)
theorem gq226 : HkGood Tryz.prog q226.hook := hgI run_q226 (by kernel_rfl) (HkGood.or (hooks_good nq) hCM_good)
theorem gq227 : HkGood Tryz.prog q227.hook := hgI run_q227 (by kernel_rfl) (HkGood.or (hooks_good nq) hCM_good)
theorem gq228 : HkGood Tryz.prog q228.hook := hgI run_q228 (by kernel_rfl) (HkGood.or (hooks_good nq) hCM_good)
theorem gq229 : HkGood Tryz.prog q229.hook := hgI run_q229 (by kernel_rfl) (HkGood.or (hooks_good nq) hCM_good)
theorem gq230 : HkGood Tryz.prog q230.hook := hgI run_q230 (by kernel_rfl) (HkGood.or (hooks_good nq) hCM_good)
theorem gq231 : HkGood Tryz.prog q231.hook := hgI run_q231 (by kernel_rfl) (HkGood.or (hooks_good nq) hCM_good)
theorem gq232 : HkGood Tryz.prog q232.hook := hgI run_q232 (by kernel_rfl) (HkGood.or (hooks_good nq) hCM_good)
theorem gq233 : HkGood Tryz.prog q233.hook := hgI run_q233 (by kernel_rfl) (HkGood.or (hooks_good nq) hCM_good)
theorem gq234 : HkGood Tryz.prog q234.hook := hgI run_q234 (by kernel_rfl) (HkGood.or (hooks_good nq) hCM_good)
theorem gq235 : HkGood Tryz.prog q235.hook := hgI run_q235 (by kernel_rfl) (HkGood.or (hooks_good nq) hCM_good)
theorem gq236 : HkGood Tryz.prog q236.hook := hgI run_q236 (by kernel_rfl) (HkGood.or (hooks_good nq) hCM_good)
theorem gq237 : HkGood Tryz.prog q237.hook := hgI run_q237 (by kernel_rfl) (HkGood.or (hooks_good nq) hCM_good)
theorem gq238 : HkGood Tryz.prog q238.hook := hgI run_q238 (by kernel_rfl) (HkGood.or (hooks_good nq) hCM_good)
theorem gq239 : HkGood Tryz.prog q239.hook := hgI run_q239 (by kernel_rfl) (HkGood.or (hooks_good nq) hCM_good)
theorem gq240 : HkGood Tryz.prog q240.hook := hgI run_q240 (by kernel_rfl) (HkGood.or (hooks_good nq) hCM_good)
theorem gq241 : HkGood Tryz.prog q241.hook := hgI run_q241 (by kernel_rfl) (HkGood.or (hooks_good nq) hCM_good)
theorem gq242 : HkGood Tryz.prog q242.hook := hgI run_q242 (by kernel_rfl) (HkGood.or (hooks_good nq) hCM_good)
theorem gq243 : HkGood Tryz.prog q243.hook := hgI run_q243 (by kernel_rfl) (HkGood.or (hooks_good nq) hCM_good)
theorem gq244 : HkGood Tryz.prog q244.hook := hgI run_q244 (by kernel_rfl) (HkGood.or (hooks_good nq) hCM_good)
theorem gq245 : HkGood Tryz.prog q245.hook := hgI run_q245 (by kernel_rfl) (HkGood.or (hooks_good nq) hCM_good)
theorem gq246 : HkGood Tryz.prog q246.hook := hgI run_q246 (by kernel_rfl) (HkGood.or (hooks_good nq) hCM_good)
theorem gq247 : HkGood Tryz.prog q247.hook := hgI run_q247 (by kernel_rfl) (HkGood.or (hooks_good nq) hCM_good)
theorem gq248 : HkGood Tryz.prog q248.hook := hgI run_q248 (by kernel_rfl) (HkGood.or (hooks_good nq) hCM_good)
theorem gq249 : HkGood Tryz.prog q249.hook := hgI run_q249 (by kernel_rfl) (HkGood.or (hooks_good nq) hCM_good)
theorem gq250 : HkGood Tryz.prog q250.hook := hgI run_q250 (by kernel_rfl) (HkGood.or (hooks_good nq) hCM_good)
theorem gq251 : HkGood Tryz.prog q251.hook := hgI run_q251 (by kernel_rfl) (HkGood.or (hooks_good nq) hCM_good)
theorem gq252 : HkGood Tryz.prog q252.hook := hgI run_q252 (by kernel_rfl) (HkGood.or (hooks_good nq) hCM_good)
theorem gq253 : HkGood Tryz.prog q253.hook := hgI run_q253 (by kernel_rfl) (HkGood.or (hooks_good nq) hCM_good)
theorem gq254 : HkGood Tryz.prog q254.hook := hgI run_q254 (by kernel_rfl) (HkGood.or (hooks_good nq) hCM_good)
theorem gq255 : HkGood Tryz.prog q255.hook := hgI run_q255 (by kernel_rfl) (HkGood.or (hooks_good nq) hCM_good)
theorem gq256 : HkGood Tryz.prog q256.hook := hgI run_q256 (by kernel_rfl) (HkGood.or (hooks_good nq) hCM_good)
theorem gq257 : HkGood Tryz.prog q257.hook := hgI run_q257 (by kernel_rfl) (HkGood.or (hooks_good nq) hCM_good)
theorem gq258 : HkGood Tryz.prog q258.hook := hgI run_q258 (by kernel_rfl) (HkGood.or (hooks_good nq) hCM_good)
theorem gq259 : HkGood Tryz.prog q259.hook := hgI run_q259 (by kernel_rfl) (HkGood.or (hooks_good nq) hCM_good)
theorem closed_w : HkGood Tryz.prog aK.closed := closed_good okt2 callsOK mixed hk2_good dhC_good q2 (by kernel_rfl) (by kernel_rfl) rfl (by kernel_rfl) (by kernel_rfl) (by kernel_rfl) run_q2
theorem hP_good : HkGood Tryz.prog hP := HkGood.or gq123 (HkGood.or gq10 (HkGood.or (hooks_good (cq gq2 (cq gq15 (cq gq19 (cq gq20 (cq gq21 (cq gq22 (cq gq23 (cq gq24 (cq gq25 (cq gq26 (cq gq27 (cq gq28 (cq gq33 (cq gq37 (cq gq38 (cq gq39 (cq gq40 (cq gq41 (cq gq42 (cq gq43 (cq gq44 (cq gq45 (cq gq46 (cq gq51 (cq gq55 (cq gq56 (cq gq57 (cq gq58 (cq gq59 (cq gq60 (cq gq61 (cq gq62 (cq gq63 (cq gq64 (cq gq65 (cq gq70 (cq gq74 (cq gq75 (cq gq76 (cq gq77 (cq gq78 (cq gq79 (cq gq80 (cq gq81 (cq gq82 (cq gq83 (cq gq84 (cq gq89 (cq gq93 (cq gq94 (cq gq95 (cq gq96 (cq gq97 (cq gq98 (cq gq99 (cq gq100 (cq gq101 (cq gq102 (cq gq103 (cq gq108 (cq gq112 (cq gq113 (cq gq114 (cq gq115 (cq gq116 (cq gq117 (cq gq118 (cq gq119 (cq gq120 (cq gq121 (cq gq122 (cq gq124 (cq gq125 (cq gq126 (cq gq127 (cq gq128 (cq gq129 (cq gq130 (cq gq131 (cq gq132 (cq gq133 (cq gq134 (cq gq135 (cq gq136 (cq gq137 (cq gq138 (cq gq139 (cq gq140 (cq gq141 (cq gq142 (cq gq143 (cq gq144 (cq gq145 (cq gq146 (cq gq147 (cq gq148 (cq gq149 (cq gq150 (cq gq151 (cq gq152 (cq gq153 (cq gq154 (cq gq155 (cq gq156 (cq gq157 (cq gq158 (cq gq159 (cq gq160 (cq gq161 (cq gq162 (cq gq163 (cq gq164 (cq gq165 (cq gq166 (cq gq167 (cq gq168 (cq gq169 (cq gq170 (cq gq171 (cq gq172 (cq gq173 (cq gq174 (cq gq175 (cq gq176 (cq gq177 (cq gq178 (cq gq179 (cq gq180 (cq gq181 (cq gq182 (cq gq183 (cq gq184 (cq gq185 (cq gq186 (cq gq187 (cq gq188 (cq gq189 (cq gq190 (cq gq191 (cq gq192 (cq gq193 (cq gq194 (cq gq195 (cq gq196 (cq gq197 (cq gq198 (cq gq199 (cq gq200 (cq gq201 (cq gq202 (cq gq203 (cq gq204 (cq gq205 (cq gq206 (cq gq207 (cq gq208 (cq gq209 (cq gq210 (cq gq211 (cq gq212 (cq gq213 (cq gq214 (cq gq215 (cq gq216 (cq gq217 (cq gq218 (cq gq219 (cq gq220 (cq gq221 (cq gq222 (cq gq223 (cq gq224 (cq gq225 (cq gq226 (cq gq227 (cq gq228 (cq gq229 (cq gq230 (cq gq231 (cq gq232 (cq gq233 (cq gq234 (cq gq235 (cq gq236 (cq gq237 (cq gq238 (cq gq239 (cq gq240 (cq gq241 (cq gq242 (cq gq243 (cq gq244 (cq gq245 (cq gq246 (cq gq247 (cq gq248 (cq gq249 (cq gq250 (cq gq251 (cq gq252 (cq gq253 (cq gq254 (cq gq255 (cq gq256 (cq gq257 (cq gq258 (cq gq259 nq)))))))))))))))))))))))))))))))))))))))))))))))))))))))))))))))))))))))))))))))))))))))))))))))))))))))))))))))))))))))))))))))))))))))))))))))))))))))))))))))))))))))))))))))))))))))))))))))))))))))))))))))) hCM_good))
theorem hW_good : HkGood Tryz.prog hW := HkGood.or hP_good closed_w
end Go.Proofs.YtjfmelmiegnmjaaGreatDoor
end
section
open Go Go.Sx Go.Proofs Go.RowKit
set_option linter.all false
namespace Go.Proofs.YtjfmelmiegnmjaaGreatDoor
set_option maxRecDepth 1000000
theorem deviceOnce_any {W : World} {E : Nat → Nat} (hW : ∀ id c, (id, c) ∈ roW → BlkOK (env0 Tryz.prog) W id (.mk (E id) 0 c)) (n k m : Nat) (hn : n < 256) (hk : k < 256) (hm : m < 256) :
    Calls Tryz.prog 8 #[.int .u8 n, .int .u8 k, .int .u8 m] W fun e W' => e = .returned (.bool true) ∧ Below W.heap.size W W' := by
  have h6 : k % 6 = 0 ∨ k % 6 = 1 ∨ k % 6 = 2 ∨ k % 6 = 3 ∨ k % 6 = 4 ∨ k % 6 = 5 := by omega
  have h4 : m % 4 = 0 ∨ m % 4 = 1 ∨ m % 4 = 2 ∨ m % 4 = 3 := by omega
  rcases Nat.mod_two_eq_zero_or_one n with h | h <;> rcases h6 with g | g | g | g | g | g <;> rcases h4 with j | j | j | j
  · exact law_whole okt callsOK mixed hW_good dhC_good cF_fn (args := [.par .u8 n 2 0 ⟨h, hn⟩, .par .u8 k 6 0 ⟨g, hk⟩, .par .u8 m 4 0 ⟨j, hm⟩]) rfl (by kernel_rfl) (by kernel_rfl) hW (f000 E n k m ⟨h, hn⟩ ⟨g, hk⟩ ⟨j, hm⟩)
  · exact law_whole okt callsOK mixed hW_good dhC_good cF_fn (args := [.par .u8 n 2 0 ⟨h, hn⟩, .par .u8 k 6 0 ⟨g, hk⟩, .par .u8 m 4 1 ⟨j, hm⟩]) rfl (by kernel_rfl) (by kernel_rfl) hW (f001 E n k m ⟨h, hn⟩ ⟨g, hk⟩ ⟨j, hm⟩)
  · exact law_whole okt callsOK mixed hW_good dhC_good cF_fn (args := [.par .u8 n 2 0 ⟨h, hn⟩, .par .u8 k 6 0 ⟨g, hk⟩, .par .u8 m 4 2 ⟨j, hm⟩]) rfl (by kernel_rfl) (by kernel_rfl) hW (f002 E n k m ⟨h, hn⟩ ⟨g, hk⟩ ⟨j, hm⟩)
  · exact law_whole okt callsOK mixed hW_good dhC_good cF_fn (args := [.par .u8 n 2 0 ⟨h, hn⟩, .par .u8 k 6 0 ⟨g, hk⟩, .par .u8 m 4 3 ⟨j, hm⟩]) rfl (by kernel_rfl) (by kernel_rfl) hW (f003 E n k m ⟨h, hn⟩ ⟨g, hk⟩ ⟨j, hm⟩)
  · exact law_whole okt callsOK mixed hW_good dhC_good cF_fn (args := [.par .u8 n 2 0 ⟨h, hn⟩, .par .u8 k 6 1 ⟨g, hk⟩, .par .u8 m 4 0 ⟨j, hm⟩]) rfl (by kernel_rfl) (by kernel_rfl) hW (f010 E n k m ⟨h, hn⟩ ⟨g, hk⟩ ⟨j, hm⟩)
  · exact law_whole okt callsOK mixed hW_good dhC_good cF_fn (args := [.par .u8 n 2 0 ⟨h, hn⟩, .par .u8 k 6 1 ⟨g, hk⟩, .par .u8 m 4 1 ⟨j, hm⟩]) rfl (by kernel_rfl) (by kernel_rfl) hW (f011 E n k m ⟨h, hn⟩ ⟨g, hk⟩ ⟨j, hm⟩)
  · exact law_whole okt callsOK mixed hW_good dhC_good cF_fn (args := [.par .u8 n 2 0 ⟨h, hn⟩, .par .u8 k 6 1 ⟨g, hk⟩, .par .u8 m 4 2 ⟨j, hm⟩]) rfl (by kernel_rfl) (by kernel_rfl) hW (f012 E n k m ⟨h, hn⟩ ⟨g, hk⟩ ⟨j, hm⟩)
  · exact law_whole okt callsOK mixed hW_good dhC_good cF_fn (args := [.par .u8 n 2 0 ⟨h, hn⟩, .par .u8 k 6 1 ⟨g, hk⟩, .par .u8 m 4 3 ⟨j, hm⟩]) rfl (by kernel_rfl) (by kernel_rfl) hW (f013 E n k m ⟨h, hn⟩ ⟨g, hk⟩ ⟨j, hm⟩)
  · exact law_whole okt callsOK mixed hW_good dhC_good cF_fn (args := [.par .u8 n 2 0 ⟨h, hn⟩, .par .u8 k 6 2 ⟨g, hk⟩, .par .u8 m 4 0 ⟨j, hm⟩]) rfl (by kernel_rfl) (by kernel_rfl) hW (f020 E n k m ⟨h, hn⟩ ⟨g, hk⟩ ⟨j, hm⟩)
  · exact law_whole okt callsOK mixed hW_good dhC_good cF_fn (args := [.par .u8 n 2 0 ⟨h, hn⟩, .par .u8 k 6 2 ⟨g, hk⟩, .par .u8 m 4 1 ⟨j, hm⟩]) rfl (by kernel_rfl) (by kernel_rfl) hW (f021 E n k m ⟨h, hn⟩ ⟨g, hk⟩ ⟨j, hm⟩)
  · exact law_whole okt callsOK mixed hW_good dhC_good cF_fn (args := [.par .u8 n 2 0 ⟨h, hn⟩, .par .u8 k 6 2 ⟨g, hk⟩, .par .u8 m 4 2 ⟨j, hm⟩]) rfl (by kernel_rfl) (by kernel_rfl) hW (f022 E n k m ⟨h, hn⟩ ⟨g, hk⟩ ⟨j, hm⟩)
  · exact law_whole okt callsOK mixed hW_good dhC_good cF_fn (args := [.par .u8 n 2 0 ⟨h, hn⟩, .par .u8 k 6 2 ⟨g, hk⟩, .par .u8 m 4 3 ⟨j, hm⟩]) rfl (by kernel_rfl) (by kernel_rfl) hW (f023 E n k m ⟨h, hn⟩ ⟨g, hk⟩ ⟨j, hm⟩)
  · exact law_whole okt callsOK mixed hW_good dhC_good cF_fn (args := [.par .u8 n 2 0 ⟨h, hn⟩, .par .u8 k 6 3 ⟨g, hk⟩, .par .u8 m 4 0 ⟨j, hm⟩]) rfl (by kernel_rfl) (by kernel_rfl) hW (f030 E n k m ⟨h, hn⟩ ⟨g, hk⟩ ⟨j, hm⟩)
  · exact law_whole okt callsOK mixed hW_good dhC_good cF_fn (args := [.par .u8 n 2 0 ⟨h, hn⟩, .par .u8 k 6 3 ⟨g, hk⟩, .par .u8 m 4 1 ⟨j, hm⟩]) rfl (by kernel_rfl) (by kernel_rfl) hW (f031 E n k m ⟨h, hn⟩ ⟨g, hk⟩ ⟨j, hm⟩)
  · exact law_whole okt callsOK mixed hW_good dhC_good cF_fn (args := [.par .u8 n 2 0 ⟨h, hn⟩, .par .u8 k 6 3 ⟨g, hk⟩, .par .u8 m 4 2 ⟨j, hm⟩]) rfl (by kernel_rfl) (by kernel_rfl) hW (f032 E n k m ⟨h, hn⟩ ⟨g, hk⟩ ⟨j, hm⟩)
  · exact law_whole okt callsOK mixed hW_good dhC_good cF_fn (args := [.par .u8 n 2 0 ⟨h, hn⟩, .par .u8 k 6 3 ⟨g, hk⟩, .par .u8 m 4 3 ⟨j, hm⟩]) rfl (by kernel_rfl) (by kernel_rfl) hW (f033 E n k m ⟨h, hn⟩ ⟨g, hk⟩ ⟨j, hm⟩)
  · exact law_whole okt callsOK mixed hW_good dhC_good cF_fn (args := [.par .u8 n 2 0 ⟨h, hn⟩, .par .u8 k 6 4 ⟨g, hk⟩, .par .u8 m 4 0 ⟨j, hm⟩]) rfl (by kernel_rfl) (by kernel_rfl) hW (f040 E n k m ⟨h, hn⟩ ⟨g, hk⟩ ⟨j, hm⟩)
  · exact law_whole okt callsOK mixed hW_good dhC_good cF_fn (args := [.par .u8 n 2 0 ⟨h, hn⟩, .par .u8 k 6 4 ⟨g, hk⟩, .par .u8 m 4 1 ⟨j, hm⟩]) rfl (by kernel_rfl) (by kernel_rfl) hW (f041 E n k m ⟨h, hn⟩ ⟨g, hk⟩ ⟨j, hm⟩)
  · exact law_whole okt callsOK mixed hW_good dhC_good cF_fn (args := [.par .u8 n 2 0 ⟨h, hn⟩, .par .u8 k 6 4 ⟨g, hk⟩, .par .u8 m 4 2 ⟨j, hm⟩]) rfl (by kernel_rfl) (by kernel_rfl) hW (f042 E n k m ⟨h, hn⟩ ⟨g, hk⟩ ⟨j, hm⟩)
  · exact law_whole okt callsOK mixed hW_good dhC_good cF_fn (args := [.par .u8 n 2 0 ⟨h, hn⟩, .par .u8 k 6 4 ⟨g, hk⟩, .par .u8 m 4 3 ⟨j, hm⟩]) rfl (by kernel_rfl) (by kernel_rfl) hW (f043 E n k m ⟨h, hn⟩ ⟨g, hk⟩ ⟨j, hm⟩)
  · exact law_whole okt callsOK mixed hW_good dhC_good cF_fn (args := [.par .u8 n 2 0 ⟨h, hn⟩, .par .u8 k 6 5 ⟨g, hk⟩, .par .u8 m 4 0 ⟨j, hm⟩]) rfl (by kernel_rfl) (by kernel_rfl) hW (f050 E n k m ⟨h, hn⟩ ⟨g, hk⟩ ⟨j, hm⟩)
  · exact law_whole okt callsOK mixed hW_good dhC_good cF_fn (args := [.par .u8 n 2 0 ⟨h, hn⟩, .par .u8 k 6 5 ⟨g, hk⟩, .par .u8 m 4 1 ⟨j, hm⟩]) rfl (by kernel_rfl) (by kernel_rfl) hW (f051 E n k m ⟨h, hn⟩ ⟨g, hk⟩ ⟨j, hm⟩)
  · exact law_whole okt callsOK mixed hW_good dhC_good cF_fn (args := [.par .u8 n 2 0 ⟨h, hn⟩, .par .u8 k 6 5 ⟨g, hk⟩, .par .u8 m 4 2 ⟨j, hm⟩]) rfl (by kernel_rfl) (by kernel_rfl) hW (f052 E n k m ⟨h, hn⟩ ⟨g, hk⟩ ⟨j, hm⟩)
  · exact law_whole okt callsOK mixed hW_good dhC_good cF_fn (args := [.par .u8 n 2 0 ⟨h, hn⟩, .par .u8 k 6 5 ⟨g, hk⟩, .par .u8 m 4 3 ⟨j, hm⟩]) rfl (by kernel_rfl) (by kernel_rfl) hW (f053 E n k m ⟨h, hn⟩ ⟨g, hk⟩ ⟨j, hm⟩)
  · exact law_whole okt callsOK mixed hW_good dhC_good cF_fn (args := [.par .u8 n 2 1 ⟨h, hn⟩, .par .u8 k 6 0 ⟨g, hk⟩, .par .u8 m 4 0 ⟨j, hm⟩]) rfl (by kernel_rfl) (by kernel_rfl) hW (f100 E n k m ⟨h, hn⟩ ⟨g, hk⟩ ⟨j, hm⟩)
  · exact law_whole okt callsOK mixed hW_good dhC_good cF_fn (args := [.par .u8 n 2 1 ⟨h, hn⟩, .par .u8 k 6 0 ⟨g, hk⟩, .par .u8 m 4 1 ⟨j, hm⟩]) rfl (by kernel_rfl) (by kernel_rfl) hW (f101 E n k m ⟨h, hn⟩ ⟨g, hk⟩ ⟨j, hm⟩)
  · exact law_whole okt callsOK mixed hW_good dhC_good cF_fn (args := [.par .u8 n 2 1 ⟨h, hn⟩, .par .u8 k 6 0 ⟨g, hk⟩, .par .u8 m 4 2 ⟨j, hm⟩]) rfl (by kernel_rfl) (by kernel_rfl) hW (f102 E n k m ⟨h, hn⟩ ⟨g, hk⟩ ⟨j, hm⟩)
  · exact law_whole okt callsOK mixed hW_good dhC_good cF_fn (args := [.par .u8 n 2 1 ⟨h, hn⟩, .par .u8 k 6 0 ⟨g, hk⟩, .par .u8 m 4 3 ⟨j, hm⟩]) rfl (by kernel_rfl) (by kernel_rfl) hW (f103 E n k m ⟨h, hn⟩ ⟨g, hk⟩ ⟨j, hm⟩)
  · exact law_whole okt callsOK mixed hW_good dhC_good cF_fn (args := [.par .u8 n 2 1 ⟨h, hn⟩, .par .u8 k 6 1 ⟨g, hk⟩, .par .u8 m 4 0 ⟨j, hm⟩]) rfl (by kernel_rfl) (by kernel_rfl) hW (f110 E n k m ⟨h, hn⟩ ⟨g, hk⟩ ⟨j, hm⟩)
  · exact law_whole okt callsOK mixed hW_good dhC_good cF_fn (args := [.par .u8 n 2 1 ⟨h, hn⟩, .par .u8 k 6 1 ⟨g, hk⟩, .par .u8 m 4 1 ⟨j, hm⟩]) rfl (by kernel_rfl) (by kernel_rfl) hW (f111 E n k m ⟨h, hn⟩ ⟨g, hk⟩ ⟨j, hm⟩)
  · exact law_whole okt callsOK mixed hW_good dhC_good cF_fn (args := [.par .u8 n 2 1 ⟨h, hn⟩, .par .u8 k 6 1 ⟨g, hk⟩, .par .u8 m 4 2 ⟨j, hm⟩]) rfl (by kernel_rfl) (by kernel_rfl) hW (f112 E n k m ⟨h, hn⟩ ⟨g, hk⟩ ⟨j, hm⟩)
  · exact law_whole okt callsOK mixed hW_good dhC_good cF_fn (args := [.par .u8 n 2 1 ⟨h, hn⟩, .par .u8 k 6 1 ⟨g, hk⟩, .par .u8 m 4 3 ⟨j, hm⟩]) rfl (by kernel_rfl) (by kernel_rfl) hW (f113 E n k m ⟨h, hn⟩ ⟨g, hk⟩ ⟨j, hm⟩)
  · exact law_whole okt callsOK mixed hW_good dhC_good cF_fn (args := [.par .u8 n 2 1 ⟨h, hn⟩, .par .u8 k 6 2 ⟨g, hk⟩, .par .u8 m 4 0 ⟨j, hm⟩]) rfl (by kernel_rfl) (by kernel_rfl) hW (f120 E n k m ⟨h, hn⟩ ⟨g, hk⟩ ⟨j, hm⟩)
  · exact law_whole okt callsOK mixed hW_good dhC_good cF_fn (args := [.par .u8 n 2 1 ⟨h, hn⟩, .par .u8 k 6 2 ⟨g, hk⟩, .par .u8 m 4 1 ⟨j, hm⟩]) rfl (by kernel_rfl) (by kernel_rfl) hW (f121 E n k m ⟨h, hn⟩ ⟨g, hk⟩ ⟨j, hm⟩)
  · exact law_whole okt callsOK mixed hW_good dhC_good cF_fn (args := [.par .u8 n 2 1 ⟨h, hn⟩, .par .u8 k 6 2 ⟨g, hk⟩, .par .u8 m 4 2 ⟨j, hm⟩]) rfl (by kernel_rfl) (by kernel_rfl) hW (f122 E n k m ⟨h, hn⟩ ⟨g, hk⟩ ⟨j, hm⟩)
  · exact law_whole okt callsOK mixed hW_good dhC_good cF_fn (args := [.par .u8 n 2 1 ⟨h, hn⟩, .par .u8 k 6 2 ⟨g, hk⟩, .par .u8 m 4 3 ⟨j, hm⟩]) rfl (by kernel_rfl) (by kernel_rfl) hW (f123 E n k m ⟨h, hn⟩ ⟨g, hk⟩ ⟨j, hm⟩)
  · exact law_whole okt callsOK mixed hW_good dhC_good cF_fn (args := [.par .u8 n 2 1 ⟨h, hn⟩, .par .u8 k 6 3 ⟨g, hk⟩, .par .u8 m 4 0 ⟨j, hm⟩]) rfl (by kernel_rfl) (by kernel_rfl) hW (f130 E n k m ⟨h, hn⟩ ⟨g, hk⟩ ⟨j, hm⟩)
  · exact law_whole okt callsOK mixed hW_good dhC_good cF_fn (args := [.par .u8 n 2 1 ⟨h, hn⟩, .par .u8 k 6 3 ⟨g, hk⟩, .par .u8 m 4 1 ⟨j, hm⟩]) rfl (by kernel_rfl) (by kernel_rfl) hW (f131 E n k m ⟨h, hn⟩ ⟨g, hk⟩ ⟨j, hm⟩)
  · exact law_whole okt callsOK mixed hW_good dhC_good cF_fn (args := [.par .u8 n 2 1 ⟨h, hn⟩, .par .u8 k 6 3 ⟨g, hk⟩, .par .u8 m 4 2 ⟨j, hm⟩]) rfl (by kernel_rfl) (by kernel_rfl) hW (f132 E n k m ⟨h, hn⟩ ⟨g, hk⟩ ⟨j, hm⟩)
  · exact law_whole okt callsOK mixed hW_good dhC_good cF_fn (args := [.par .u8 n 2 1 ⟨h, hn⟩, .par .u8 k 6 3 ⟨g, hk⟩, .par .u8 m 4 3 ⟨j, hm⟩]) rfl (by kernel_rfl) (by kernel_rfl) hW (f133 E n k m ⟨h, hn⟩ ⟨g, hk⟩ ⟨j, hm⟩)
  · exact law_whole okt callsOK mixed hW_good dhC_good cF_fn (args := [.par .u8 n 2 1 ⟨h, hn⟩, .par .u8 k 6 4 ⟨g, hk⟩, .par .u8 m 4 0 ⟨j, hm⟩]) rfl (by kernel_rfl) (by kernel_rfl) hW (f140 E n k m ⟨h, hn⟩ ⟨g, hk⟩ ⟨j, hm⟩)
  · exact law_whole okt callsOK mixed hW_good dhC_good cF_fn (args := [.par .u8 n 2 1 ⟨h, hn⟩, .par .u8 k 6 4 ⟨g, hk⟩, .par .u8 m 4 1 ⟨j, hm⟩]) rfl (by kernel_rfl) (by kernel_rfl) hW (f141 E n k m ⟨h, hn⟩ ⟨g, hk⟩ ⟨j, hm⟩)
  · exact law_whole okt callsOK mixed hW_good dhC_good cF_fn (args := [.par .u8 n 2 1 ⟨h, hn⟩, .par .u8 k 6 4 ⟨g, hk⟩, .par .u8 m 4 2 ⟨j, hm⟩]) rfl (by kernel_rfl) (by kernel_rfl) hW (f142 E n k m ⟨h, hn⟩ ⟨g, hk⟩ ⟨j, hm⟩)
  · exact law_whole okt callsOK mixed hW_good dhC_good cF_fn (args := [.par .u8 n 2 1 ⟨h, hn⟩, .par .u8 k 6 4 ⟨g, hk⟩, .par .u8 m 4 3 ⟨j, hm⟩]) rfl (by kernel_rfl) (by kernel_rfl) hW (f143 E n k m ⟨h, hn⟩ ⟨g, hk⟩ ⟨j, hm⟩)
  · exact law_whole okt callsOK mixed hW_good dhC_good cF_fn (args := [.par .u8 n 2 1 ⟨h, hn⟩, .par .u8 k 6 5 ⟨g, hk⟩, .par .u8 m 4 0 ⟨j, hm⟩]) rfl (by kernel_rfl) (by kernel_rfl) hW (f150 E n k m ⟨h, hn⟩ ⟨g, hk⟩ ⟨j, hm⟩)
  · exact law_whole okt callsOK mixed hW_good dhC_good cF_fn (args := [.par .u8 n 2 1 ⟨h, hn⟩, .par .u8 k 6 5 ⟨g, hk⟩, .par .u8 m 4 1 ⟨j, hm⟩]) rfl (by kernel_rfl) (by kernel_rfl) hW (f151 E n k m ⟨h, hn⟩ ⟨g, hk⟩ ⟨j, hm⟩)
  · exact law_whole okt callsOK mixed hW_good dhC_good cF_fn (args := [.par .u8 n 2 1 ⟨h, hn⟩, .par .u8 k 6 5 ⟨g, hk⟩, .par .u8 m 4 2 ⟨j, hm⟩]) rfl (by kernel_rfl) (by kernel_rfl) hW (f152 E n k m ⟨h, hn⟩ ⟨g, hk⟩ ⟨j, hm⟩)
  · exact law_whole okt callsOK mixed hW_good dhC_good cF_fn (args := [.par .u8 n 2 1 ⟨h, hn⟩, .par .u8 k 6 5 ⟨g, hk⟩, .par .u8 m 4 3 ⟨j, hm⟩]) rfl (by kernel_rfl) (by kernel_rfl) hW (f153 E n k m ⟨h, hn⟩ ⟨g, hk⟩ ⟨j, hm⟩)
#print axioms deviceOnce_any
end Go.Proofs.YtjfmelmiegnmjaaGreatDoor
end
section
open Go Go.Sx Go.Proofs Go.RowKit
set_option linter.unusedVariables false
namespace Go.Proofs.YtjfmelmiegnmjaaGreatDoor
set_option maxRecDepth 100000
theorem u8_in {H : Type} {enc : TypeId × Value → H} {base : Nat} {W : World} {v : Value} {d : DataW H} {p : List MemPlace} (k0 : Value.okWide Tryz.prog W .any base 5 v) (t0 : DataW.Trod enc Tryz.prog W 0 (fun _ => true) true 5 v d p) : ∃ m : Nat, m < 256 ∧ v = .int .u8 m := by
  obtain ⟨n, rfl⟩ := Go.WideShapes.okWide_int Tryz.underlying5 k0
  obtain ⟨n', he, hw⟩ := reads_int Tryz.underlying5 (reads_of t0)
  obtain rfl : n = n' := by simpa [Value.cells] using he
  have h0 : 0 ≤ n ∧ n < 256 := by
    simp [Lit.wf, IntKind.min, IntKind.max, IntKind.signed, IntKind.bits] at hw
    omega
  obtain ⟨m, rfl⟩ := Int.eq_ofNat_of_zero_le h0.1
  exact ⟨m, by have := h0.2; omega, rfl⟩
theorem deviceOnce_walk : deviceOnce.Walk := by
  intro H enc base W v0 v1 v2 d0 p0 d1 p1 d2 p2 hL k0 t0 k1 t1 k2 t2
  obtain ⟨n, hn, rfl⟩ := u8_in k0 t0
  obtain ⟨k, hk, rfl⟩ := u8_in k1 t1
  obtain ⟨m, hm, rfl⟩ := u8_in k2 t2
  rw [MakeChecks.laidMetH_plain _ _ _ (by kernel_rfl)] at hL
  obtain ⟨E, hb⟩ := laid_ro hL (List.mem_of_getElem? (show Rows.deviceOnceRow.laid[4]? = some (_, _) from rfl)) (List.mem_of_getElem? (show Rows.deviceOnceRow.laid[3]? = some (_, _) from rfl)) (List.mem_of_getElem? (show Rows.deviceOnceRow.laid[2]? = some (_, _) from rfl)) (by kernel_rfl) (by kernel_rfl) (by kernel_rfl) (by kernel_rfl) (by kernel_rfl) (by kernel_rfl)
  exact deviceOnce_any (E := E) hb n k m hn hk hm
theorem deviceOnceCard_holds : Rows.DeviceOnceCardSaid := deviceOnce.card deviceOnce_walk
#print axioms deviceOnceCard_holds
end Go.Proofs.YtjfmelmiegnmjaaGreatDoor
end
