/- The law's bundle, with its bytes (layer 17). Printed by gen_rfb.py. -/
import Derived.Test.YteljkfihmbddaaaRdR
import Derived.Test.YteljkfihmbddaaaPd
set_option linter.unusedSimpArgs false
set_option linter.unusedVariables false
namespace Go.Pw
open Go.RowKit
theorem at4 {w w' : World} {a b c e : Obj} (h : Only ((((w.alloc a).alloc b).alloc c).alloc e) w' []) : w'.heap[w.heap.size]? = some a ∧ w'.heap[w.heap.size + 1]? = some b ∧ w'.heap[w.heap.size + 1 + 1]? = some c ∧ w'.heap[w.heap.size + 1 + 1 + 1]? = some e := by
  have e1 : (w.alloc a).heap.size = w.heap.size + 1 := by simp
  have e2 : ((w.alloc a).alloc b).heap.size = w.heap.size + 1 + 1 := by simp
  have e3 : (((w.alloc a).alloc b).alloc c).heap.size = w.heap.size + 1 + 1 + 1 := by simp
  have q0 := heap_alloc_new w a
  have q1 := heap_alloc_new (w.alloc a) b
  have q2 := heap_alloc_new ((w.alloc a).alloc b) c
  have q3 := heap_alloc_new (((w.alloc a).alloc b).alloc c) e
  rw [e1] at q1
  rw [e2] at q2
  rw [e3] at q3
  exact ⟨h.at ((Only.alloc _ _ []).at ((Only.alloc _ _ []).at ((Only.alloc _ _ []).at q0 (by simp)) (by simp)) (by simp)) (by simp), h.at ((Only.alloc _ _ []).at ((Only.alloc _ _ []).at q1 (by simp)) (by simp)) (by simp), h.at ((Only.alloc _ _ []).at q2 (by simp)) (by simp), h.at q3 (by simp)⟩
end Go.Pw
namespace Go.Proofs.Yteljkfihmbddaaa
open Go.RowKit Go.Pw
set_option linter.unusedVariables false

/-- A bundle of the laws; its bytes lie in new blocks. -/
def BundR (u d n : Int) (has : Bool) (w : World) (e : Ending) (w' : World) : Prop := ∃ b : Bu, e = .returned (.agg (bc b).toArray) ∧ Only w w' [] ∧ b.u = u ∧ b.d = d ∧ b.sg = n ∧ b.has = has ∧ b.on = (if has = true then n else 0) ∧ (rdB b).ok w' ∧ ∀ k ∈ (rdB b).fp, w.heap.size ≤ k

set_option maxRecDepth 100000 in
set_option maxHeartbeats 800000 in
theorem bundleR_no (u d n : Int) (h0 : 0 ≤ n) (h1 : n < 256) (w : World) : Calls Try.prog 13 #[wv u d, .int .u8 n, .bool false] w (BundR u d n false w) := by
  simp only [wv]
  have e1 : IntKind.u32.wrap n = n := by simp [IntKind.wrap, IntKind.bits, IntKind.signed]; omega
  have h1c : ∀ s : Nat, ([.int .i64 u, .int .i64 d, .slice (some ⟨s, 0, none⟩) 2 2, .slice (some ⟨s + 1, 0, none⟩) 1 1, .int .u32 n, .slice (some ⟨s + 1 + 1, 0, none⟩) 1 1, .slice (some ⟨s + 1 + 1 + 1, 0, none⟩) 3 3, .bool false, .int .u32 0, .slice none 0 0] : List Value).toArray.all (·.oneCell') = true := by simp [Value.oneCell']
  go_enter Try.func13, Try.ntmps13
  go_wp2_with (first
    | (refine wpList_box_new rfl 30 _ rfl (.agg #[.int .i64 u, .int .i64 d]) rfl ?_; intro Z wZ oZ hZl hZ)
    | (refine wpList_convert_const rfl _ 22 5 rfl rfl (by simp) Try.underlying22 Try.underlying5 ?_)
    | (have hQ := hX; refine wpList_alloc_new rfl 40 rfl (.agg (bc b0).toArray) (fun _ => by kernel_rfl) ?_; intro Y wY oY hYl hY; clear hQ; have hc := h1c wX.heap.size; have oXY : Only wX wY [] := Only.trans (((((Only.alloc _ _ _).trans (Only.alloc _ _ _)).trans (Only.alloc _ _ _)).trans (Only.alloc _ _ _))) oY; have hX2 := oXY.at hX (by simp); have hYX : wX.heap.size ≤ Y := (by simp at hYl; omega); have hY4 : wX.heap.size + 4 ≤ Y := Nat.le_trans (by simp) hYl; have hQ4 := Lib.hid (at4 oY))
    | (refine wpList_alloc_new rfl 40 rfl (.agg (bc b0).toArray) (fun _ => by kernel_rfl) ?_; intro X wX oX hXl hX; have hZX := oX.at hZ (by simp); have hz0 := cell_two0 hZX; have hz1 := cell_two1 hZX)
    | (refine wpList_store_blk rfl 40 _ _ rfl Y [.int .i64 u, .int .i64 d, .slice (some ⟨wX.heap.size, 0, none⟩) 2 2, .slice (some ⟨wX.heap.size + 1, 0, none⟩) 1 1, .int .u32 n, .slice (some ⟨wX.heap.size + 1 + 1, 0, none⟩) 1 1, .slice (some ⟨wX.heap.size + 1 + 1 + 1, 0, none⟩) 3 3, .bool false, .int .u32 0, .slice none 0 0] rfl rfl hY rfl (by kernel_rfl) hc ?_; intro wU oU hU; have hX3 := oU.at hX2 (by simp; have := (Array.getElem?_eq_some_iff.1 hX).1; omega); have oF := (oZ.trans oX).trans (oXY.new oU (fun i hi => by simp only [List.mem_singleton] at hi; omega)))
    | (refine wpList_load_blk rfl 40 _ rfl Y rfl [.int .i64 u, .int .i64 d, .slice (some ⟨wX.heap.size, 0, none⟩) 2 2, .slice (some ⟨wX.heap.size + 1, 0, none⟩) 1 1, .int .u32 n, .slice (some ⟨wX.heap.size + 1 + 1, 0, none⟩) 1 1, .slice (some ⟨wX.heap.size + 1 + 1 + 1, 0, none⟩) 3 3, .bool false, .int .u32 0, .slice none 0 0] _ hU Try.underlying40 (by rfl) (by kernel_rfl) ?_)
    | (refine wpList_store_blk rfl 40 _ _ rfl X [.int .i64 u, .int .i64 d, .slice (some ⟨wX.heap.size, 0, none⟩) 2 2, .slice (some ⟨wX.heap.size + 1, 0, none⟩) 1 1, .int .u32 n, .slice (some ⟨wX.heap.size + 1 + 1, 0, none⟩) 1 1, .slice (some ⟨wX.heap.size + 1 + 1 + 1, 0, none⟩) 3 3, .bool false, .int .u32 0, .slice none 0 0] rfl rfl hX3 rfl (by kernel_rfl) hc ?_; intro wV oV hV; have oG := oF.new oV (fun i hi => by simp only [List.mem_singleton] at hi; have := oZ.size; omega)))
  have d0 : wV.cell? ⟨X, 0, none⟩ = some (.int .i64 u) := cell_in hV 0
  have d1 : wV.cell? ⟨X, 1, none⟩ = some (.int .i64 d) := cell_in hV 1
  have d2 : wV.cell? ⟨X, 2, none⟩ = some (.slice (some ⟨wX.heap.size, 0, none⟩) 2 2) := cell_in hV 2
  have d3 : wV.cell? ⟨X, 3, none⟩ = some (.slice (some ⟨wX.heap.size + 1, 0, none⟩) 1 1) := cell_in hV 3
  have d4 : wV.cell? ⟨X, 4, none⟩ = some (.int .u32 n) := cell_in hV 4
  have d5 : wV.cell? ⟨X, 5, none⟩ = some (.slice (some ⟨wX.heap.size + 1 + 1, 0, none⟩) 1 1) := cell_in hV 5
  have d6 : wV.cell? ⟨X, 6, none⟩ = some (.slice (some ⟨wX.heap.size + 1 + 1 + 1, 0, none⟩) 3 3) := cell_in hV 6
  have d7 : wV.cell? ⟨X, 7, none⟩ = some (.bool false) := cell_in hV 7
  have d8 : wV.cell? ⟨X, 8, none⟩ = some (.int .u32 0) := cell_in hV 8
  have d9 : wV.cell? ⟨X, 9, none⟩ = some (.slice none 0 0) := cell_in hV 9
  have hXx : X < wX.heap.size := (Array.getElem?_eq_some_iff.1 hX).1
  have hwX : w.heap.size ≤ wX.heap.size := Nat.le_trans oZ.size oX.size
  have hQV : Hid (_ ∧ _ ∧ _ ∧ _) := ⟨(oV.at (oU.at hQ4.out.1 (by simp; omega)) (by simp; omega)), (oV.at (oU.at hQ4.out.2.1 (by simp; omega)) (by simp; omega)), (oV.at (oU.at hQ4.out.2.2.1 (by simp; omega)) (by simp; omega)), (oV.at (oU.at hQ4.out.2.2.2 (by simp; omega)) (by simp; omega))⟩
  clear hQ4
  clear hV hU hX3 hX2 hX hZ hZX hY oXY oF
  refine bodyPost_ret (v := .agg #[.int .i64 u, .int .i64 d, .slice (some ⟨wX.heap.size, 0, none⟩) 2 2, .slice (some ⟨wX.heap.size + 1, 0, none⟩) 1 1, .int .u32 n, .slice (some ⟨wX.heap.size + 1 + 1, 0, none⟩) 1 1, .slice (some ⟨wX.heap.size + 1 + 1 + 1, 0, none⟩) 3 3, .bool false, .int .u32 0, .slice none 0 0]) (by simp [results, Try.results13, go_sem, d0, d1, d2, d3, d4, d5, d6, d7, d8, d9]) rfl ?_
  obtain ⟨v0, v1, v2, v3⟩ := hQV.out
  refine ⟨⟨u, d, .slice (some ⟨wX.heap.size, 0, none⟩) 2 2, .slice (some ⟨wX.heap.size + 1, 0, none⟩) 1 1, n, .slice (some ⟨wX.heap.size + 1 + 1, 0, none⟩) 1 1, .slice (some ⟨wX.heap.size + 1 + 1 + 1, 0, none⟩) 3 3, false, 0, .slice none 0 0, by simp [Value.oneCell']⟩, rfl, oG, rfl, rfl, rfl, rfl, rfl, ⟨fun v hv => ?_, fun k hk => ?_⟩, fun k hk => ?_⟩
  · simp only [parts, List.mem_cons, List.not_mem_nil, or_false] at hv
    rcases hv with rfl | rfl | rfl | rfl | rfl
    · exact rdS_blk (xs := [IntKind.u8.wrap u, IntKind.u8.wrap d]) v0 rfl (by simp) (by simp only [List.mem_cons, List.not_mem_nil, or_false, forall_eq_or_imp, forall_eq]; rw [IntKind.wrap_u8, IntKind.wrap_u8]; omega)
    · exact rdS_blk (xs := [115]) v1 rfl (by simp) (by simp)
    · exact rdS_blk (xs := [n]) v2 rfl (by simp) (by simpa using ⟨h0, h1⟩)
    · exact rdS_blk (xs := [115, 105, 103]) v3 rfl (by simp) (by simp)
    · exact rdS_nil _
  · have l3 := (Array.getElem?_eq_some_iff.1 v3).1
    have hk2 : k = wX.heap.size ∨ k = wX.heap.size + 1 ∨ k = wX.heap.size + 1 + 1 ∨ k = wX.heap.size + 1 + 1 + 1 := by simpa [parts, Value.ownBlock] using hk
    omega
  · have hk2 : k = wX.heap.size ∨ k = wX.heap.size + 1 ∨ k = wX.heap.size + 1 + 1 ∨ k = wX.heap.size + 1 + 1 + 1 := by simpa [rdB, parts, Value.ownBlock] using hk
    omega
end Go.Proofs.Yteljkfihmbddaaa
