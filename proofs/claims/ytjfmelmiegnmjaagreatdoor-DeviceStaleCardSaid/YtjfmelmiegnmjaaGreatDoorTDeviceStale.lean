/- The tied card of DeviceStale out of its walk: written by a program of ours. -/
import Derived.Test.YtjfmelmiegnmjaaGreatDoorCDeviceStale0
import Derived.Test.YtjfmelmiegnmjaaGreatDoorCDeviceStale1
import Derived.Test.YtjfmelmiegnmjaaGreatDoorCDeviceStale2
import Derived.Test.YtjfmelmiegnmjaaGreatDoorCDeviceStale3
import Derived.Test.YtjfmelmiegnmjaaGreatDoorSDeviceStale
import Derived.Test.YtjfmelmiegnmjaaGreatDoorTie
import Derived.SevenTiedAt
import Derived.KernelRfl
set_option linter.all false
namespace Go.Proofs.YtjfmelmiegnmjaaGreatDoor.deviceStale
open Go
set_option maxRecDepth 100000
theorem card (walk : Walk) : Rows.DeviceStaleCardSaid :=
  Claim7.holds_tied_plain_at .later [] [.data, .data, .data, .data, .data, .sentinel, .sentinel] true (true, "43fd9c24f37b97519e4e02445eaed747166dd7836b839f0c4d9bdfe464ad79df") true (said walk) (fun _ h => by cases h) c1 (fun _ h => by cases h) deviceStale_row_tie rfl ⟨rfl, rfl⟩ c2 rfl
    (fun f fn hf hfn => by
      obtain rfl : f = 6 := Option.some.inj (c3.symm.trans hf) |>.symm
      obtain rfl : fn = Tryz.f6 := (Option.some.inj (Tryz.func6.symm.trans hfn)).symm
      exact ⟨c4, fun j t ht => by
        rw [Tryz.params6] at ht
        have hm : t ∈ [5, 47, 47] := by simpa using Array.mem_of_getElem? ht
        exact (show Tryz.prog.wantsStandIn t = false by simpa using List.all_eq_true.1 c5 t hm)⟩)
    c6
end Go.Proofs.YtjfmelmiegnmjaaGreatDoor.deviceStale
