/- The tied card of JudgeReveals out of its walk: written by a program of ours. -/
import Derived.Test.YtdkcmjifkhcfcaaGreatDoorCJudgeReveals0
import Derived.Test.YtdkcmjifkhcfcaaGreatDoorCJudgeReveals1
import Derived.Test.YtdkcmjifkhcfcaaGreatDoorCJudgeReveals2
import Derived.Test.YtdkcmjifkhcfcaaGreatDoorCJudgeReveals3
import Derived.Test.YtdkcmjifkhcfcaaGreatDoorSJudgeReveals
import Derived.Test.YtdkcmjifkhcfcaaGreatDoorTie
import Derived.SevenTiedAt
import Derived.KernelRfl
set_option linter.all false
namespace Go.Proofs.YtdkcmjifkhcfcaaGreatDoor.judgeReveals
open Go
set_option maxRecDepth 100000
theorem card (walk : Walk) : Rows.JudgeRevealsCardSaid :=
  Claim7.holds_tied_plain_at .later [] [.data, .data, .data, .data, .data, .sentinel, .sentinel] true (true, "7d6da06738491256d6fb5a364a52edce606a10e7dcad3edc304f008a4fbaf496") true (said walk) (fun _ h => by cases h) c1 (fun _ h => by cases h) judgeReveals_row_tie rfl ⟨rfl, rfl⟩ c2 rfl
    (fun f fn hf hfn => by
      obtain rfl : f = 5 := Option.some.inj (c3.symm.trans hf) |>.symm
      obtain rfl : fn = Tryz.f5 := (Option.some.inj (Tryz.func5.symm.trans hfn)).symm
      exact ⟨c4, fun j t ht => by
        rw [Tryz.params5] at ht
        have hm : t ∈ [48, 3, 52] := by simpa using Array.mem_of_getElem? ht
        exact (show Tryz.prog.wantsStandIn t = false by simpa using List.all_eq_true.1 c5 t hm)⟩)
    c6
end Go.Proofs.YtdkcmjifkhcfcaaGreatDoor.judgeReveals
