/- The tied card of WorldTime out of its walk: written by a program of ours. -/
import Derived.Test.YtdkcmjifkhcfcaaGreatDoorCWorldTime0
import Derived.Test.YtdkcmjifkhcfcaaGreatDoorCWorldTime1
import Derived.Test.YtdkcmjifkhcfcaaGreatDoorCWorldTime2
import Derived.Test.YtdkcmjifkhcfcaaGreatDoorCWorldTime3
import Derived.Test.YtdkcmjifkhcfcaaGreatDoorSWorldTime
import Derived.Test.YtdkcmjifkhcfcaaGreatDoorTie
import Derived.SevenTiedAt
import Derived.KernelRfl
set_option linter.all false
namespace Go.Proofs.YtdkcmjifkhcfcaaGreatDoor.worldTime
open Go
set_option maxRecDepth 100000
theorem card (walk : Walk) : Rows.WorldTimeCardSaid :=
  Claim7.holds_tied_plain_at .later [] [.data, .data, .data, .data, .data, .sentinel, .sentinel] true (true, "7d6da06738491256d6fb5a364a52edce606a10e7dcad3edc304f008a4fbaf496") true (said walk) (fun _ h => by cases h) c1 (fun _ h => by cases h) worldTime_row_tie rfl ⟨rfl, rfl⟩ c2 rfl
    (fun f fn hf hfn => by
      obtain rfl : f = 3 := Option.some.inj (c3.symm.trans hf) |>.symm
      obtain rfl : fn = Tryz.f3 := (Option.some.inj (Tryz.func3.symm.trans hfn)).symm
      exact ⟨c4, fun j t ht => by
        rw [Tryz.params3] at ht
        have hm : t ∈ [22] := by simpa using Array.mem_of_getElem? ht
        exact (show Tryz.prog.wantsStandIn t = false by simpa using List.all_eq_true.1 c5 t hm)⟩)
    c6
end Go.Proofs.YtdkcmjifkhcfcaaGreatDoor.worldTime
