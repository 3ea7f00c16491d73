/- The hooks of a text that came in: its copies, and the envelope's inner part. -/
import Derived.Test.YtjfmelmiegnmjaaGreatDoorXWe
import Derived.Test.YtjfmelmiegnmjaaGreatDoorXCb
set_option linter.all false
open Go Go.Sx Go.Proofs
set_option linter.all false
namespace Go.Proofs.YtjfmelmiegnmjaaGreatDoor
set_option maxRecDepth 1000000
noncomputable def hT : Hk := hor (txHook 63 5 gTx) (hor (txHook 53 5 gTx) (hor (txHook 111 5 gE) (hor (uHook 63 gU) (hor (uHook 53 gU) (nxHook 111 5 gEU)))))
theorem hT_good : HkGood Tryz.prog hT := HkGood.or tx_s_good (HkGood.or tx_b_good (HkGood.or inner_good (HkGood.or u_s_good (HkGood.or u_b_good innerU_good))))
end Go.Proofs.YtjfmelmiegnmjaaGreatDoor
