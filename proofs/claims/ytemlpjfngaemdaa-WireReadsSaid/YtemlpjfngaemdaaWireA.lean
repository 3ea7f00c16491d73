/- The document's example of layer 9 (wire) holds: awake returns true and leaves what was there. -/
import Derived.Test.YtemlpjfngaemdaaWireP
import Derived.Test.YtemlpjfngaemdaaOpen
namespace Go.Proofs.Ytemlpjfngaemdaa
open Go.RowKit Go.Pw
set_option linter.unusedVariables false

set_option maxHeartbeats 400000 in
theorem awake9 (w : World) : Calls Try.prog 13 #[] w fun e w' => e = .returned (.bool true) ∧ Only w w' [] := by
  go_enter Try.func13, Try.ntmps13
  go_wp2_with fail
  refine (wnum_any w.heap.size (.slice none 0 0) [] 258 2 _ (by decide) (by decide) (by decide) ⟨heap_alloc_new w _, World.ownsRow_nil _ _ _ _⟩ (by simp)).mono ?_
  rintro e w1 ⟨rfl, v1, hw1, hs1, ho1⟩
  go_wp2_with fail
  refine (wdone_any w.heap.size v1 _ _ hw1 (by decide)).mono ?_
  rintro e w2 ⟨v2, rfl, hv2, hs2, ho2⟩
  have e1 : ([] ++ be 258 2 : List Int) = [1, 2] := by decide
  rw [e1] at hv2
  obtain ⟨ao, c, rfl⟩ := own_slice hv2
  have hst := run_str (P := Try.prog) (S := 22) (T := 9) Try.underlying22 Try.underlying5 Try.underlying9 (n := 2) (own_src hv2) rfl
  have ho : Only w w1 [] := (Only.alloc w _ []).new ho1 (by simp [Value.ownBlock])
  clear e1 hw1 hs1 ho1 hs2 hv2
  go_wp2_with fail
  go_ret
  refine ⟨?_, ho.trans ho2⟩
  show Ending.returned (.bool ((strOfNums [1, 2]).toList == [1, 2])) = _
  rw [Lib.strOfNums_toList]
  rfl
end Go.Proofs.Ytemlpjfngaemdaa
