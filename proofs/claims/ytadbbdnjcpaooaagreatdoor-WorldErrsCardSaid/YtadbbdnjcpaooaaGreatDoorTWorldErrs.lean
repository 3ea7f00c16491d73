/- The tied card of WorldErrs out of its walk: written by a program of ours. -/
import Derived.Test.YtadbbdnjcpaooaaGreatDoorCWorldErrs0
import Derived.Test.YtadbbdnjcpaooaaGreatDoorCWorldErrs1
import Derived.Test.YtadbbdnjcpaooaaGreatDoorCWorldErrs2
import Derived.Test.YtadbbdnjcpaooaaGreatDoorCWorldErrs3
import Derived.Test.YtadbbdnjcpaooaaGreatDoorSWorldErrs
import Derived.Test.YtadbbdnjcpaooaaGreatDoorTie
import Derived.SevenTiedAt
import Derived.KernelRfl
set_option linter.all false
namespace Go.Proofs.YtadbbdnjcpaooaaGreatDoor.worldErrs
open Go
set_option maxRecDepth 100000
theorem card (walk : Walk) : Rows.WorldErrsCardSaid :=
  Claim7.holds_tied_plain_at .later [] [.data, .data, .data, .data, .data, .sentinel, .sentinel] true (true, "d4c95cf5e523a4af0f8d8683232982c548788487a9eb71792799ae36c49ee320") true (said walk) (fun _ h => by cases h) c1 (fun _ h => by cases h) worldErrs_row_tie rfl ⟨rfl, rfl⟩ c2 rfl
    (fun f fn hf hfn => by
      obtain rfl : f = 3 := Option.some.inj (c3.symm.trans hf) |>.symm
      obtain rfl : fn = Tryz.f3 := (Option.some.inj (Tryz.func3.symm.trans hfn)).symm
      exact ⟨c4, fun j t ht => by
        rw [Tryz.params3] at ht
        have hm : t ∈ [25, 4] := by simpa using Array.mem_of_getElem? ht
        exact (show Tryz.prog.wantsStandIn t = false by simpa using List.all_eq_true.1 c5 t hm)⟩)
    c6
end Go.Proofs.YtadbbdnjcpaooaaGreatDoor.worldErrs
