/- Get, Len, New of layer 16 (record). -/
import Derived.Test.YtdlbkdnpbcpjfaaBk2
namespace Go.Proofs.Ytdlbkdnpbcpjfaa
open Go.RowKit Go.Pw
set_option linter.unusedVariables false

theorem new_any (w : World) : Calls Try.prog 7 #[] w fun e w' => e = .returned (.pointer (some ⟨w.heap.size, 0, none⟩)) ∧ w' = w.alloc (.cells #[.slice none 0 0] 68) := by
  go_enter Try.func7, Try.ntmps7
  go_wp2
  go_ret
  exact ⟨rfl, rfl⟩

theorem len_nil (w : World) : Calls Try.prog 16 #[.pointer none] w fun e w' => e = .returned (.int .i64 0) ∧ w' = w := by
  go_enter Try.func16, Try.ntmps16
  go_wp2
  go_ret
  exact ⟨rfl, rfl⟩

theorem len_any (B : Nat) (ao : Option Addr) (n c : Nat) (w : World) (h : w.heap[B]? = some (.cells #[.slice ao n c] 68 (0, 0))) : Calls Try.prog 16 #[.pointer (some ⟨B, 0, none⟩)] w fun e w' => e = .returned (.int .i64 n) ∧ w' = w := by
  have hc0 := cell_of_one h
  go_enter Try.func16, Try.ntmps16
  go_wp2
  go_ret
  exact ⟨rfl, rfl⟩

def rv0 : Value := .agg #[.int .i64 0, .int .i64 0, .slice none 0 0, .slice none 0 0, .pointer none, .bool false, .float .f64 0]

set_option maxRecDepth 100000 in
set_option maxHeartbeats 1600000 in
theorem get_nil (u d : Int) (w : World) :
    Calls Try.prog 12 #[.pointer none, wv u d] w fun e w' => e = .returned (.tuple #[rv0, .bool false]) ∧ Only w w' [] := by
  simp only [wv, rv0]
  have hW : (w.alloc (.cells #[.int .i64 u, .int .i64 d] 26)).heap[w.heap.size]? = some (.cells #[.int .i64 u, .int .i64 d] 26 (0, 0)) := heap_alloc_new w _
  go_enter Try.func12, Try.ntmps12
  go_wp2_with fail
  refine (find_nil u d _).mono ?_
  rintro e w1 ⟨rfl, o1⟩
  have eS : (w.alloc (.cells #[.int .i64 u, .int .i64 d] 26)).heap.size = w.heap.size + 1 := by simp
  have hX := o1.at (heap_alloc_new (w.alloc (.cells #[.int .i64 u, .int .i64 d] 26)) (.cells #[.int .i64 0, .int .i64 0, .slice none 0 0, .slice none 0 0, .pointer none, .bool false, .float .f64 0] 36)) (by simp)
  rw [eS] at hX
  have oA : Only w w1 [] := ((Only.alloc _ _ _).trans (Only.alloc _ _ _)).trans o1
  have hth : w1.there (w.heap.size + 1) 0 7 := fun j hj => by
    have : j < 7 := hj
    rw [Nat.zero_add]
    refine ⟨?_, free_in hX j⟩
    rw [cell_in hX j]
    simp
    omega
  have hN : w.heap.size ≤ w.heap.size + 1 := by omega
  generalize w.heap.size + 1 = X at *
  clear o1 eS hW hX
  have h1c : (#[.int .i64 0, .int .i64 0, .slice none 0 0, .slice none 0 0, .pointer none, .bool false, .float .f64 0] : Array Value).all (·.oneCell') = true := by simp [Value.oneCell']
  go_wp2_with (refine wpList_store_mid rfl 36 _ _ rfl X 0 #[.int .i64 0, .int .i64 0, .slice none 0 0, .slice none 0 0, .pointer none, .bool false, .float .f64 0] rfl rfl hth (by kernel_rfl) h1c ?_)
  have hr := World.rangeAt_setCells_same w1 X 0 [.int .i64 0, .int .i64 0, .slice none 0 0, .slice none 0 0, .pointer none, .bool false, .float .f64 0] hth
  have hoS : Only w1 (w1.setCells X 0 [.int .i64 0, .int .i64 0, .slice none 0 0, .slice none 0 0, .pointer none, .bool false, .float .f64 0]) [X] := only_setCells _ _ _
  have oF : Only w (w1.setCells X 0 [.int .i64 0, .int .i64 0, .slice none 0 0, .slice none 0 0, .pointer none, .bool false, .float .f64 0]) [] := oA.new hoS (fun i hi => by simp only [List.mem_singleton] at hi; rw [hi]; exact hN)
  generalize w1.setCells X 0 [.int .i64 0, .int .i64 0, .slice none 0 0, .slice none 0 0, .pointer none, .bool false, .float .f64 0] = wE at *
  have d0 := hr 0 _ rfl
  have d1 := hr 1 _ rfl
  have d2 := hr 2 _ rfl
  have d3 := hr 3 _ rfl
  have d4 := hr 4 _ rfl
  have d5 := hr 5 _ rfl
  have d6 := hr 6 _ rfl
  simp only [Nat.zero_add, Nat.add_zero] at d0 d1 d2 d3 d4 d5 d6
  refine bodyPost_ret (v := .tuple #[.agg #[.int .i64 0, .int .i64 0, .slice none 0 0, .slice none 0 0, .pointer none, .bool false, .float .f64 0], .bool false]) (by simp [results, Try.results12, go_sem, d0, d1, d2, d3, d4, d5, d6]) rfl ?_
  exact ⟨rfl, oF⟩
end Go.Proofs.Ytdlbkdnpbcpjfaa
