/- The law's bundle with a prekey for once, with its bytes (layer 17). Printed by gen_rfb.py. -/
import Derived.Test.YteljkfihmbddaaaRfB
set_option linter.unusedSimpArgs false
set_option linter.unusedVariables false
namespace Go.Proofs.Yteljkfihmbddaaa
open Go.RowKit Go.Pw
set_option linter.unusedVariables false

set_option maxRecDepth 100000 in
set_option maxHeartbeats 1200000 in
theorem bundleR_yes (u d n : Int) (h0 : 0 ≤ n) (h1 : n < 256) (w : World) : Calls Try.prog 13 #[wv u d, .int .u8 n, .bool true] w (BundR u d n true w) := by
  simp only [wv]
  have e1 : IntKind.u32.wrap n = n := by simp [IntKind.wrap, IntKind.bits, IntKind.signed]; omega
  have h1c : ∀ s : Nat, ([.int .i64 u, .int .i64 d, .slice (some ⟨s, 0, none⟩) 2 2, .slice (some ⟨s + 1, 0, none⟩) 1 1, .int .u32 n, .slice (some ⟨s + 1 + 1, 0, none⟩) 1 1, .slice (some ⟨s + 1 + 1 + 1, 0, none⟩) 3 3, .bool true, .int .u32 0, .slice none 0 0] : List Value).toArray.all (·.oneCell') = true := by simp [Value.oneCell']
  have h2c : ∀ s t : Nat, ([.int .i64 u, .int .i64 d, .slice (some ⟨s, 0, none⟩) 2 2, .slice (some ⟨s + 1, 0, none⟩) 1 1, .int .u32 n, .slice (some ⟨s + 1 + 1, 0, none⟩) 1 1, .slice (some ⟨s + 1 + 1 + 1, 0, none⟩) 3 3, .bool true, .int .u32 n, .slice (some ⟨t, 0, none⟩) 2 2] : List Value).toArray.all (·.oneCell') = true := by simp [Value.oneCell']
  go_enter Try.func13, Try.ntmps13
  go_wp2_with (first
    | (refine wpList_box_new rfl 30 _ rfl (.agg #[.int .i64 u, .int .i64 d]) rfl ?_; intro Z wZ oZ hZl hZ)
    | (refine wpList_convert_const rfl _ 22 5 rfl rfl (by simp) Try.underlying22 Try.underlying5 ?_)
    | (have hQ := hX; refine wpList_alloc_new rfl 40 rfl (.agg (bc b0).toArray) (fun _ => by kernel_rfl) ?_; intro Y wY oY hYl hY; clear hQ; have hc := h1c wX.heap.size; have oXY : Only wX wY [] := Only.trans (((((Only.alloc _ _ _).trans (Only.alloc _ _ _)).trans (Only.alloc _ _ _)).trans (Only.alloc _ _ _))) oY; have hX2 := oXY.at hX (by simp); have hYX : wX.heap.size ≤ Y := (by simp at hYl; omega); have hY4 : wX.heap.size + 4 ≤ Y := Nat.le_trans (by simp) hYl; have hYs : Y < wY.heap.size := (Array.getElem?_eq_some_iff.1 hY).1; have hQ4 := Lib.hid (at4 oY))
    | (refine wpList_alloc_new rfl 40 rfl (.agg (bc b0).toArray) (fun _ => by kernel_rfl) ?_; intro X wX oX hXl hX; have hZX := oX.at hZ (by simp); have hz0 := cell_two0 hZX; have hz1 := cell_two1 hZX)
    | (refine wpList_store_blk rfl 40 _ _ rfl Y [.int .i64 u, .int .i64 d, .slice (some ⟨wX.heap.size, 0, none⟩) 2 2, .slice (some ⟨wX.heap.size + 1, 0, none⟩) 1 1, .int .u32 n, .slice (some ⟨wX.heap.size + 1 + 1, 0, none⟩) 1 1, .slice (some ⟨wX.heap.size + 1 + 1 + 1, 0, none⟩) 3 3, .bool true, .int .u32 0, .slice none 0 0] rfl rfl hY rfl (by kernel_rfl) hc ?_; intro wU oU hU; have hX3 := oU.at hX2 (by simp; have := (Array.getElem?_eq_some_iff.1 hX).1; omega); have oF := (oZ.trans oX).trans (oXY.new oU (fun i hi => by simp only [List.mem_singleton] at hi; omega)); clear hY hc hX2)
    | (refine wpList_store_cell rfl 38 _ _ rfl Y 8 (.int .u32 n) rfl rfl rfl hU (by simp) (by kernel_rfl) rfl ?_; intro w8 o8 h8; have hX4 := o8.at hX3 (by simp; have := (Array.getElem?_eq_some_iff.1 hX).1; omega); have oF8 := oF.new o8 (fun i hi => by simp only [List.mem_singleton] at hi; have := oZ.size; have := oX.size; omega); clear hU hX3 oF)
    | (refine wpList_store_cell rfl 22 _ _ rfl Y 9 (.slice (some ⟨w8.heap.size, 0, none⟩) 2 2) rfl rfl rfl ((Only.alloc _ _ []).at h8 (by simp)) (by simp) (by kernel_rfl) rfl ?_; intro w9 o9 h9; have hX5 := o9.at ((Only.alloc _ _ []).at hX4 (by simp)) (by simp; have := (Array.getElem?_eq_some_iff.1 hX).1; omega); have oF9 := (oF8.trans (Only.alloc _ _ [])).new o9 (fun i hi => by simp only [List.mem_singleton] at hi; have := oZ.size; have := oX.size; omega); have h9' : w9.heap[Y]? = some (.cells ([.int .i64 u, .int .i64 d, .slice (some ⟨wX.heap.size, 0, none⟩) 2 2, .slice (some ⟨wX.heap.size + 1, 0, none⟩) 1 1, .int .u32 n, .slice (some ⟨wX.heap.size + 1 + 1, 0, none⟩) 1 1, .slice (some ⟨wX.heap.size + 1 + 1 + 1, 0, none⟩) 3 3, .bool true, .int .u32 n, .slice (some ⟨w8.heap.size, 0, none⟩) 2 2] : List Value).toArray 40 (0, 0)) := h9; have hc2 := h2c wX.heap.size w8.heap.size; clear h8 hX4 oF8 h9)
    | (refine wpList_load_blk rfl 40 _ rfl Y rfl [.int .i64 u, .int .i64 d, .slice (some ⟨wX.heap.size, 0, none⟩) 2 2, .slice (some ⟨wX.heap.size + 1, 0, none⟩) 1 1, .int .u32 n, .slice (some ⟨wX.heap.size + 1 + 1, 0, none⟩) 1 1, .slice (some ⟨wX.heap.size + 1 + 1 + 1, 0, none⟩) 3 3, .bool true, .int .u32 n, .slice (some ⟨w8.heap.size, 0, none⟩) 2 2] _ h9' Try.underlying40 (by rfl) (by kernel_rfl) ?_)
    | (refine wpList_store_blk rfl 40 _ _ rfl X [.int .i64 u, .int .i64 d, .slice (some ⟨wX.heap.size, 0, none⟩) 2 2, .slice (some ⟨wX.heap.size + 1, 0, none⟩) 1 1, .int .u32 n, .slice (some ⟨wX.heap.size + 1 + 1, 0, none⟩) 1 1, .slice (some ⟨wX.heap.size + 1 + 1 + 1, 0, none⟩) 3 3, .bool true, .int .u32 n, .slice (some ⟨w8.heap.size, 0, none⟩) 2 2] rfl rfl hX5 rfl (by kernel_rfl) hc2 ?_; intro wV oV hV; have oG := oF9.new oV (fun i hi => by simp only [List.mem_singleton] at hi; have := oZ.size; omega)))
  have d0 : wV.cell? ⟨X, 0, none⟩ = some (.int .i64 u) := cell_in hV 0
  have d1 : wV.cell? ⟨X, 1, none⟩ = some (.int .i64 d) := cell_in hV 1
  have d2 : wV.cell? ⟨X, 2, none⟩ = some (.slice (some ⟨wX.heap.size, 0, none⟩) 2 2) := cell_in hV 2
  have d3 : wV.cell? ⟨X, 3, none⟩ = some (.slice (some ⟨wX.heap.size + 1, 0, none⟩) 1 1) := cell_in hV 3
  have d4 : wV.cell? ⟨X, 4, none⟩ = some (.int .u32 n) := cell_in hV 4
  have d5 : wV.cell? ⟨X, 5, none⟩ = some (.slice (some ⟨wX.heap.size + 1 + 1, 0, none⟩) 1 1) := cell_in hV 5
  have d6 : wV.cell? ⟨X, 6, none⟩ = some (.slice (some ⟨wX.heap.size + 1 + 1 + 1, 0, none⟩) 3 3) := cell_in hV 6
  have d7 : wV.cell? ⟨X, 7, none⟩ = some (.bool true) := cell_in hV 7
  have d8 : wV.cell? ⟨X, 8, none⟩ = some (.int .u32 n) := cell_in hV 8
  have d9 : wV.cell? ⟨X, 9, none⟩ = some (.slice (some ⟨w8.heap.size, 0, none⟩) 2 2) := cell_in hV 9
  have hXx : X < wX.heap.size := (Array.getElem?_eq_some_iff.1 hX).1
  have hwX : w.heap.size ≤ wX.heap.size := Nat.le_trans oZ.size oX.size
  have hs8 : Y < w8.heap.size := Nat.lt_of_lt_of_le hYs (Nat.le_trans oU.size o8.size)
  have hQV : Hid (_ ∧ _ ∧ _ ∧ _ ∧ _) := ⟨(oV.at (o9.at ((Only.alloc w8 _ []).at (o8.at (oU.at hQ4.out.1 (by simp; omega)) (by simp; omega)) (by simp)) (by simp; omega)) (by simp; omega)), (oV.at (o9.at ((Only.alloc w8 _ []).at (o8.at (oU.at hQ4.out.2.1 (by simp; omega)) (by simp; omega)) (by simp)) (by simp; omega)) (by simp; omega)), (oV.at (o9.at ((Only.alloc w8 _ []).at (o8.at (oU.at hQ4.out.2.2.1 (by simp; omega)) (by simp; omega)) (by simp)) (by simp; omega)) (by simp; omega)), (oV.at (o9.at ((Only.alloc w8 _ []).at (o8.at (oU.at hQ4.out.2.2.2 (by simp; omega)) (by simp; omega)) (by simp)) (by simp; omega)) (by simp; omega)), (oV.at (o9.at (heap_alloc_new w8 _) (by simp; omega)) (by simp; omega))⟩
  clear hQ4
  clear hV hX5 hX hZ hZX oXY oF9 h9'
  refine bodyPost_ret (v := .agg #[.int .i64 u, .int .i64 d, .slice (some ⟨wX.heap.size, 0, none⟩) 2 2, .slice (some ⟨wX.heap.size + 1, 0, none⟩) 1 1, .int .u32 n, .slice (some ⟨wX.heap.size + 1 + 1, 0, none⟩) 1 1, .slice (some ⟨wX.heap.size + 1 + 1 + 1, 0, none⟩) 3 3, .bool true, .int .u32 n, .slice (some ⟨w8.heap.size, 0, none⟩) 2 2]) (by simp [results, Try.results13, go_sem, d0, d1, d2, d3, d4, d5, d6, d7, d8, d9]) rfl ?_
  obtain ⟨v0, v1, v2, v3, v4⟩ := hQV.out
  refine ⟨⟨u, d, .slice (some ⟨wX.heap.size, 0, none⟩) 2 2, .slice (some ⟨wX.heap.size + 1, 0, none⟩) 1 1, n, .slice (some ⟨wX.heap.size + 1 + 1, 0, none⟩) 1 1, .slice (some ⟨wX.heap.size + 1 + 1 + 1, 0, none⟩) 3 3, true, n, .slice (some ⟨w8.heap.size, 0, none⟩) 2 2, by simp [Value.oneCell']⟩, rfl, oG, rfl, rfl, rfl, rfl, rfl, ⟨fun v hv => ?_, fun k hk => ?_⟩, fun k hk => ?_⟩
  · simp only [parts, List.mem_cons, List.not_mem_nil, or_false] at hv
    rcases hv with rfl | rfl | rfl | rfl | rfl
    · exact rdS_blk (xs := [IntKind.u8.wrap u, IntKind.u8.wrap d]) v0 rfl (by simp) (by simp only [List.mem_cons, List.not_mem_nil, or_false, forall_eq_or_imp, forall_eq]; rw [IntKind.wrap_u8, IntKind.wrap_u8]; omega)
    · exact rdS_blk (xs := [115]) v1 rfl (by simp) (by simp)
    · exact rdS_blk (xs := [n]) v2 rfl (by simp) (by simpa using ⟨h0, h1⟩)
    · exact rdS_blk (xs := [115, 105, 103]) v3 rfl (by simp) (by simp)
    · exact rdS_blk (xs := [n, 1]) v4 rfl (by simp) (by simpa using ⟨h0, h1⟩)
  · have l3 := (Array.getElem?_eq_some_iff.1 v3).1
    have l4 := (Array.getElem?_eq_some_iff.1 v4).1
    have hk2 : k = wX.heap.size ∨ k = wX.heap.size + 1 ∨ k = wX.heap.size + 1 + 1 ∨ k = wX.heap.size + 1 + 1 + 1 ∨ k = w8.heap.size := by simpa [parts, Value.ownBlock] using hk
    omega
  · have hk2 : k = wX.heap.size ∨ k = wX.heap.size + 1 ∨ k = wX.heap.size + 1 + 1 ∨ k = wX.heap.size + 1 + 1 + 1 ∨ k = w8.heap.size := by simpa [rdB, parts, Value.ownBlock] using hk
    omega
end Go.Proofs.Yteljkfihmbddaaa
