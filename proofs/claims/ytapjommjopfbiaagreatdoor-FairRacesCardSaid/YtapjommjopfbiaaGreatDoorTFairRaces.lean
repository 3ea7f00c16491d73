/- The tied card of FairRaces out of its walk: written by a program of ours. -/
import Derived.Test.YtapjommjopfbiaaGreatDoorCFairRaces0
import Derived.Test.YtapjommjopfbiaaGreatDoorCFairRaces1
import Derived.Test.YtapjommjopfbiaaGreatDoorCFairRaces2
import Derived.Test.YtapjommjopfbiaaGreatDoorCFairRaces3
import Derived.Test.YtapjommjopfbiaaGreatDoorSFairRaces
import Derived.Test.YtapjommjopfbiaaGreatDoorTie
import Derived.SevenTiedAt
import Derived.KernelRfl
set_option linter.all false
namespace Go.Proofs.YtapjommjopfbiaaGreatDoor.fairRaces
open Go
set_option maxRecDepth 100000
theorem card (walk : Walk) : Rows.FairRacesCardSaid :=
  Claim7.holds_tied_plain_at .later [] [.data, .data, .data, .data, .data, .sentinel, .sentinel] true (true, "5f033d208b9e4f54bb9448cb9c34bf0812d319354feff043d60be8ff03d276b3") true (said walk) (fun _ h => by cases h) c1 (fun _ h => by cases h) fairRaces_row_tie rfl ⟨rfl, rfl⟩ c2 rfl
    (fun f fn hf hfn => by
      obtain rfl : f = 4 := Option.some.inj (c3.symm.trans hf) |>.symm
      obtain rfl : fn = Tryz.f4 := (Option.some.inj (Tryz.func4.symm.trans hfn)).symm
      exact ⟨c4, fun j t ht => by
        rw [Tryz.params4] at ht
        have hm : t ∈ [5, 4] := by simpa using Array.mem_of_getElem? ht
        exact (show Tryz.prog.wantsStandIn t = false by simpa using List.all_eq_true.1 c5 t hm)⟩)
    c6
end Go.Proofs.YtapjommjopfbiaaGreatDoor.fairRaces
