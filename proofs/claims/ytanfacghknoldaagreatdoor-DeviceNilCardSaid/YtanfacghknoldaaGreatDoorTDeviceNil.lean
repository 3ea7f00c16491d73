/- The tied card of DeviceNil out of its walk: written by a program of ours. -/
import Derived.Test.YtanfacghknoldaaGreatDoorCDeviceNil
import Derived.Test.YtanfacghknoldaaGreatDoorSDeviceNil
import Derived.Test.YtanfacghknoldaaGreatDoorTie
import Derived.SevenTiedAt
import Derived.KernelRfl
set_option linter.all false
namespace Go.Proofs.YtanfacghknoldaaGreatDoor.deviceNil
open Go
set_option maxRecDepth 100000
theorem card (walk : Walk) : Rows.DeviceNilCardSaid :=
  Claim7.holds_tied_plain_at .later [] [.data, .data, .data, .data, .data, .sentinel, .sentinel] true (true, "80ebe5b30cac33fd274a9c3539abd60c8379366e0465d510e4865bdc452fdce6") true (said walk) (fun _ h => by cases h) c1 (fun _ h => by cases h) deviceNil_row_tie rfl ⟨rfl, rfl⟩ c2 rfl
    (fun f fn hf hfn => by
      obtain rfl : f = 9 := Option.some.inj (c3.symm.trans hf) |>.symm
      obtain rfl : fn = Tryz.f9 := (Option.some.inj (Tryz.func9.symm.trans hfn)).symm
      exact ⟨c4, fun j t ht => by
        rw [Tryz.params9] at ht
        have hm : t ∈ [47, 3, 50, 30] := by simpa using Array.mem_of_getElem? ht
        exact (show Tryz.prog.wantsStandIn t = false by simpa using List.all_eq_true.1 c5 t hm)⟩)
    c6
end Go.Proofs.YtanfacghknoldaaGreatDoor.deviceNil
