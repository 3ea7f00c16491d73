/- The document's example of layer 14 (envelope) holds: awake returns true and leaves what was there; how a struct of the layer is opened. -/
import Derived.Test.YtemlpjfngaemdaaEnvR3
import Derived.Test.YtemlpjfngaemdaaOpenS
namespace Go.Proofs.Ytemlpjfngaemdaa
open Go.RowKit Go.Pw
set_option linter.unusedVariables false

/-- A whole block of bytes, as a slice. -/
theorem src_block {w : World} {b n : Nat} {cs : Array Value} {T : TypeId} {fr : Nat × Nat} {news : List Value} (h : w.heap[b]? = some (.cells cs T fr)) (hc : cs.toList = news) (hn : news.length = n ∧ n ≤ maxLen) : Src w (.slice (some ⟨b, 0, none⟩) n n) 1 n news := by
  refine ⟨_, _, rfl, Nat.le_refl _, hn.2, by omega, by simp, fun a ha j u hj => ?_⟩
  obtain rfl : a = ⟨b, 0, none⟩ := by simpa using ha.symm
  rw [Addr.add_lit, Nat.zero_add, cell_in h j, ← hj, ← hc]
  simp

set_option maxRecDepth 100000 in
set_option maxHeartbeats 400000 in
theorem awake14 (w : World) : Calls Try.prog 18 #[] w fun e w' => e = .returned (.bool true) ∧ Only w w' [] := by
  have kc := fun (w : World) (C : Array Value) (n c : Nat) => Lib.run_convert_bytes_const (P := Try.prog) w 22 5 C n c Try.underlying22 Try.underlying5
  go_enter Try.func18, Try.ntmps18
  go_wp2_with fail
  have hr : Rd (w.alloc (.cells #[.int .u8 104, .int .u8 105] 5 (2, 3))) (.slice (some ⟨w.heap.size, 0, none⟩) 2 2) [104, 105] := src_block (heap_alloc_new w _) rfl (by decide)
  refine (encinner_any 1 2 _ [104, 105] _ hr ⟨by decide, by decide⟩ (by decide)).mono fun e w1 hq => ?_
  obtain ⟨ys, a1, c1, Hys, rfl, g1, g2, g3⟩ := hq.name
  clear hq hr
  have hst := run_str (P := Try.prog) (S := 22) (T := 9) Try.underlying22 Try.underlying5 Try.underlying9 (own_src g1) rfl
  clear g1 g2 kc
  go_wp2_with fail
  go_ret
  refine ⟨?_, (Only.alloc w _ []).trans g3⟩
  show Ending.returned (.bool ((strOfNums ys).toList == [0, 0, 0, 1, 0, 0, 0, 2, 0, 0, 0, 2, 104, 105])) = _
  rw [Lib.strOfNums_toList, Hys.out]
  rfl
end Go.Proofs.Ytemlpjfngaemdaa
