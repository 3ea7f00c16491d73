/- The tied card of WorldLinks out of its walk: written by a program of ours. -/
import Derived.Test.YtmmhbehlpppdiaaGreatDoorCWorldLinks0
import Derived.Test.YtmmhbehlpppdiaaGreatDoorCWorldLinks1
import Derived.Test.YtmmhbehlpppdiaaGreatDoorCWorldLinks2
import Derived.Test.YtmmhbehlpppdiaaGreatDoorCWorldLinks3
import Derived.Test.YtmmhbehlpppdiaaGreatDoorSWorldLinks
import Derived.Test.YtmmhbehlpppdiaaGreatDoorTie
import Derived.SevenTiedAt
import Derived.KernelRfl
set_option linter.all false
namespace Go.Proofs.YtmmhbehlpppdiaaGreatDoor.worldLinks
open Go
set_option maxRecDepth 100000
theorem card (walk : Walk) : Rows.WorldLinksCardSaid :=
  Claim7.holds_tied_plain_at .later [] [.data, .data, .data, .data, .data, .sentinel, .sentinel] true (true, "ce5555ec14d422bb4d95a70a393629bb0e4181470dfcf8e18a286174842f0c56") true (said walk) (fun _ h => by cases h) c1 (fun _ h => by cases h) worldLinks_row_tie rfl ⟨rfl, rfl⟩ c2 rfl
    (fun f fn hf hfn => by
      obtain rfl : f = 3 := Option.some.inj (c3.symm.trans hf) |>.symm
      obtain rfl : fn = Tryz.f3 := (Option.some.inj (Tryz.func3.symm.trans hfn)).symm
      exact ⟨c4, fun j t ht => by
        rw [Tryz.params3] at ht
        have hm : t ∈ [22] := by simpa using Array.mem_of_getElem? ht
        exact (show Tryz.prog.wantsStandIn t = false by simpa using List.all_eq_true.1 c5 t hm)⟩)
    c6
end Go.Proofs.YtmmhbehlpppdiaaGreatDoor.worldLinks
