/- Get of layer 16 (record). -/
import Derived.Test.YtdlbkdnpbcpjfaaBk3
namespace Go.Proofs.Ytdlbkdnpbcpjfaa
open Go.RowKit Go.Pw
set_option linter.unusedVariables false

/-- What Get tells. -/
def gotL (l : List Re) (u d : Int) : Value := if foundL l u d = true then match l[placeL l u d]? with
  | some r => rv r
  | none => rv0
 else rv0

theorem found_at {l : List Re} {u d : Int} (h : foundL l u d = true) : ∃ hk : placeL l u d < l.length, cmpW (l[placeL l u d]).u (l[placeL l u d]).d u d = 0 := by
  unfold foundL at h
  by_cases hk : placeL l u d < l.length
  · rw [List.getElem?_eq_getElem hk] at h
    exact ⟨hk, by simpa using h⟩
  · rw [List.getElem?_eq_none (by omega)] at h
    simp at h

set_option maxRecDepth 100000 in
set_option maxHeartbeats 1600000 in
theorem get_any {w0 : World} {rs : List Res} (B : Nat) (l : List Re) (v : Value) (u d : Int) (w : World) (h : Sep w0 w (row 36 7 v l.length (fl rc l) :: blk B [v] 68 :: rs)) (hl : l.length ≤ 1000000) (hr : Rise l) :
    Calls Try.prog 12 #[.pointer (some ⟨B, 0, none⟩), wv u d] w fun e w' => e = .returned (.tuple #[gotL l u d, .bool (foundL l u d)]) ∧ Only w w' [] := by
  simp only [wv]
  obtain ⟨ao, c, rfl⟩ := own_slice (show w.ownsRow 0 _ 7 v l.length (fl rc l) from h.head)
  have hW : (w.alloc (.cells #[.int .i64 u, .int .i64 d] 26)).heap[w.heap.size]? = some (.cells #[.int .i64 u, .int .i64 d] 26 (0, 0)) := heap_alloc_new w _
  have oA0 : Only w ((w.alloc (.cells #[.int .i64 u, .int .i64 d] 26)).alloc (.cells #[.int .i64 0, .int .i64 0, .slice none 0 0, .slice none 0 0, .pointer none, .bool false, .float .f64 0] 36)) [] := (Only.alloc _ _ _).trans (Only.alloc _ _ _)
  have sB := h.quiet oA0
  clear h
  go_enter Try.func12, Try.ntmps12
  go_wp2_with fail
  refine (find_any B l _ u d _ sB hl hr).mono ?_
  rintro e w1 ⟨rfl, o1⟩
  have s1 := sB.quiet o1
  have eS : (w.alloc (.cells #[.int .i64 u, .int .i64 d] 26)).heap.size = w.heap.size + 1 := by simp
  have hX := o1.at (heap_alloc_new (w.alloc (.cells #[.int .i64 u, .int .i64 d] 26)) (.cells #[.int .i64 0, .int .i64 0, .slice none 0 0, .slice none 0 0, .pointer none, .bool false, .float .f64 0] 36)) (by simp)
  rw [eS] at hX
  have oA : Only w w1 [] := oA0.trans o1
  have hth : w1.there (w.heap.size + 1) 0 7 := fun j hj => by
    have : j < 7 := hj
    rw [Nat.zero_add]
    refine ⟨?_, free_in hX j⟩
    rw [cell_in hX j]
    simp
    omega
  have hN : w.heap.size ≤ w.heap.size + 1 := by omega
  generalize w.heap.size + 1 = X at *
  clear o1 eS hW hX sB oA0
  by_cases hf : foundL l u d = true
  · obtain ⟨hk, _⟩ := found_at hf
    have hg : Hid (gotL l u d = rv l[placeL l u d]) := by
      show gotL l u d = _
      unfold gotL
      rw [if_pos hf, List.getElem?_eq_getElem hk]
    rw [hf]
    generalize placeL l u d = k at *
    obtain ⟨g, rfl, _⟩ := own_some (show w1.ownsRow 0 _ 7 (.slice ao l.length c) l.length (fl rc l) from s1.head) (by omega)
    obtain ⟨e0, e1, e2, e3, e4, e5, e6⟩ := rec_at s1.head hk
    have hBk := cell_of_one s1.tail.head
    generalize l[k] = x at *
    obtain ⟨xu, xd, a1, n1, c1, a2, n2, c2, q, st, t⟩ := x
    simp only [rv] at hg
    simp only at e0 e1 e2 e3 e4 e5 e6
    have h1c : (#[.int .i64 xu, .int .i64 xd, .slice a1 n1 c1, .slice a2 n2 c2, .pointer q, .bool st, .float .f64 t] : Array Value).all (·.oneCell') = true := by simp [Value.oneCell']
    clear s1
    go_wp2_with (refine wpList_store_mid rfl 36 _ _ rfl X 0 #[.int .i64 xu, .int .i64 xd, .slice a1 n1 c1, .slice a2 n2 c2, .pointer q, .bool st, .float .f64 t] rfl rfl hth (by kernel_rfl) h1c ?_)
    have hr := World.rangeAt_setCells_same w1 X 0 [.int .i64 xu, .int .i64 xd, .slice a1 n1 c1, .slice a2 n2 c2, .pointer q, .bool st, .float .f64 t] hth
    have hoS : Only w1 (w1.setCells X 0 [.int .i64 xu, .int .i64 xd, .slice a1 n1 c1, .slice a2 n2 c2, .pointer q, .bool st, .float .f64 t]) [X] := only_setCells _ _ _
    have oF : Only w (w1.setCells X 0 [.int .i64 xu, .int .i64 xd, .slice a1 n1 c1, .slice a2 n2 c2, .pointer q, .bool st, .float .f64 t]) [] := oA.new hoS (fun i hi => by simp only [List.mem_singleton] at hi; rw [hi]; exact hN)
    generalize w1.setCells X 0 [.int .i64 xu, .int .i64 xd, .slice a1 n1 c1, .slice a2 n2 c2, .pointer q, .bool st, .float .f64 t] = wE at *
    have d0 := hr 0 _ rfl
    have d1 := hr 1 _ rfl
    have d2 := hr 2 _ rfl
    have d3 := hr 3 _ rfl
    have d4 := hr 4 _ rfl
    have d5 := hr 5 _ rfl
    have d6 := hr 6 _ rfl
    simp only [Nat.zero_add, Nat.add_zero] at d0 d1 d2 d3 d4 d5 d6
    refine bodyPost_ret (v := .tuple #[.agg #[.int .i64 xu, .int .i64 xd, .slice a1 n1 c1, .slice a2 n2 c2, .pointer q, .bool st, .float .f64 t], .bool true]) (by simp [results, Try.results12, go_sem, d0, d1, d2, d3, d4, d5, d6]) rfl ?_
    exact ⟨by rw [hg.out, hf], oF⟩
  · have hf : foundL l u d = false := by simpa using hf
    have hg : Hid (gotL l u d = rv0) := by
      show gotL l u d = _
      unfold gotL
      rw [hf]
      rfl
    rw [hf]
    have h1c : (#[.int .i64 0, .int .i64 0, .slice none 0 0, .slice none 0 0, .pointer none, .bool false, .float .f64 0] : Array Value).all (·.oneCell') = true := by simp [Value.oneCell']
    clear s1
    go_wp2_with (refine wpList_store_mid rfl 36 _ _ rfl X 0 #[.int .i64 0, .int .i64 0, .slice none 0 0, .slice none 0 0, .pointer none, .bool false, .float .f64 0] rfl rfl hth (by kernel_rfl) h1c ?_)
    have hr := World.rangeAt_setCells_same w1 X 0 [.int .i64 0, .int .i64 0, .slice none 0 0, .slice none 0 0, .pointer none, .bool false, .float .f64 0] hth
    have hoS : Only w1 (w1.setCells X 0 [.int .i64 0, .int .i64 0, .slice none 0 0, .slice none 0 0, .pointer none, .bool false, .float .f64 0]) [X] := only_setCells _ _ _
    have oF : Only w (w1.setCells X 0 [.int .i64 0, .int .i64 0, .slice none 0 0, .slice none 0 0, .pointer none, .bool false, .float .f64 0]) [] := oA.new hoS (fun i hi => by simp only [List.mem_singleton] at hi; rw [hi]; exact hN)
    generalize w1.setCells X 0 [.int .i64 0, .int .i64 0, .slice none 0 0, .slice none 0 0, .pointer none, .bool false, .float .f64 0] = wE at *
    have d0 := hr 0 _ rfl
    have d1 := hr 1 _ rfl
    have d2 := hr 2 _ rfl
    have d3 := hr 3 _ rfl
    have d4 := hr 4 _ rfl
    have d5 := hr 5 _ rfl
    have d6 := hr 6 _ rfl
    simp only [Nat.zero_add, Nat.add_zero] at d0 d1 d2 d3 d4 d5 d6
    refine bodyPost_ret (v := .tuple #[.agg #[.int .i64 0, .int .i64 0, .slice none 0 0, .slice none 0 0, .pointer none, .bool false, .float .f64 0], .bool false]) (by simp [results, Try.results12, go_sem, d0, d1, d2, d3, d4, d5, d6]) rfl ?_
    exact ⟨by rw [hg.out, hf]; rfl, oF⟩
end Go.Proofs.Ytdlbkdnpbcpjfaa
