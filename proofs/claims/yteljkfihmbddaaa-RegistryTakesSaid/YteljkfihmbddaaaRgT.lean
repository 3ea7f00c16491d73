/- Bundles with a prekey for once, Take, Left of layer 17 (registry). Printed by gen_rgt.py. -/
import Derived.Test.YteljkfihmbddaaaRgD
import Derived.Test.YteljkfihmbddaaaRgP
namespace Go.Pw
open Go.RowKit
set_option linter.unusedVariables false
theorem wpList_store_cell {P : Program} {ops : Array Oper} {rest : List Oper} {op : Oper} {a : Act} {w : World} {Q : Exit → Act → World → Prop} (hgd : op.guard = none) (ty : TypeId) (x y : Operand) (ho : op.op = .store ty x y)
    (b i : Nat) (v : Value) (hx : a.eval x = .pointer (some ⟨b, i, none⟩)) (hy : a.eval y = v) (hv : v.cells = #[v]) {old : List Value} {T : TypeId} (hc : w.heap[b]? = some (.cells old.toArray T (0, 0))) (hlt : i < old.length)
    (hs : (P.info? ty).map (·.size) = some 1) (h1 : v.oneCell' = true)
    (h : ∀ w', Only w w' [b] → w'.heap[b]? = some (.cells (old.set i v).toArray T (0, 0)) → wpList P ops Q rest (a.put op.dst undef) w') : wpList P ops Q (op :: rest) a w :=
  wpList_plain hgd fun K hK => by
    have hst := run_storeCells_cells (P := P) b i [v] 0 w (fun j hj => by simp at hj; subst hj; rw [Pw.cell_in hc]; simp [hlt]) (fun j hj => free_in hc _) (by simpa using h1)
    have hsv : (storeVar ty ⟨b, i, none⟩ v).run P w = .ok () (w.setCells b i [v]) := by
      cases hq : P.info? ty with
      | none => simp [hq] at hs
      | some inf =>
        have hz : inf.size = 1 := by simpa [hq] using hs
        simp only [Nat.add_zero] at hst
        simp [storeVar, sizeOf, typeInfo, hq, hv, hz, hst]
    unfold Oper.wp execOp
    simp only [ho, hx, hy, Instr.storeAt, Instr.sureAddr, Sem.run_bind, Sem.run_pure, Result.andThen_ok, hsv]
    refine hK _ _ (h _ (only_setCells _ _ _) ?_)
    rw [setCells_block _ _ _ _ hc]
    rfl
end Go.Pw
namespace Go.Proofs.Yteljkfihmbddaaa
open Go.RowKit Go.Pw
set_option linter.unusedVariables false

set_option maxRecDepth 100000 in
set_option maxHeartbeats 1200000 in
theorem bundle_yes (u d n : Int) (h0 : 0 ≤ n) (h1 : n < 256) (w : World) : Calls Try.prog 13 #[wv u d, .int .u8 n, .bool true] w (Bund u d n true w) := by
  simp only [wv]
  have e1 : IntKind.u32.wrap n = n := by simp [IntKind.wrap, IntKind.bits, IntKind.signed]; omega
  have h1c : ∀ s : Nat, ([.int .i64 u, .int .i64 d, .slice (some ⟨s, 0, none⟩) 2 2, .slice (some ⟨s + 1, 0, none⟩) 1 1, .int .u32 n, .slice (some ⟨s + 1 + 1, 0, none⟩) 1 1, .slice (some ⟨s + 1 + 1 + 1, 0, none⟩) 3 3, .bool true, .int .u32 0, .slice none 0 0] : List Value).toArray.all (·.oneCell') = true := by simp [Value.oneCell']
  have h2c : ∀ s t : Nat, ([.int .i64 u, .int .i64 d, .slice (some ⟨s, 0, none⟩) 2 2, .slice (some ⟨s + 1, 0, none⟩) 1 1, .int .u32 n, .slice (some ⟨s + 1 + 1, 0, none⟩) 1 1, .slice (some ⟨s + 1 + 1 + 1, 0, none⟩) 3 3, .bool true, .int .u32 n, .slice (some ⟨t, 0, none⟩) 2 2] : List Value).toArray.all (·.oneCell') = true := by simp [Value.oneCell']
  go_enter Try.func13, Try.ntmps13
  go_wp2_with (first
    | (refine wpList_box_new rfl 30 _ rfl (.agg #[.int .i64 u, .int .i64 d]) rfl ?_; intro Z wZ oZ hZl hZ)
    | (refine wpList_convert_const rfl _ 22 5 rfl rfl (by simp) Try.underlying22 Try.underlying5 ?_)
    | (have hQ := hX; refine wpList_alloc_new rfl 40 rfl (.agg (bc b0).toArray) (fun _ => by kernel_rfl) ?_; intro Y wY oY hYl hY; clear hQ; have hc := h1c wX.heap.size; have oXY : Only wX wY [] := Only.trans (((((Only.alloc _ _ _).trans (Only.alloc _ _ _)).trans (Only.alloc _ _ _)).trans (Only.alloc _ _ _))) oY; have hX2 := oXY.at hX (by simp); have hYX : wX.heap.size ≤ Y := by simp at hYl; omega)
    | (refine wpList_alloc_new rfl 40 rfl (.agg (bc b0).toArray) (fun _ => by kernel_rfl) ?_; intro X wX oX hXl hX; have hZX := oX.at hZ (by simp); have hz0 := cell_two0 hZX; have hz1 := cell_two1 hZX)
    | (refine wpList_store_blk rfl 40 _ _ rfl Y [.int .i64 u, .int .i64 d, .slice (some ⟨wX.heap.size, 0, none⟩) 2 2, .slice (some ⟨wX.heap.size + 1, 0, none⟩) 1 1, .int .u32 n, .slice (some ⟨wX.heap.size + 1 + 1, 0, none⟩) 1 1, .slice (some ⟨wX.heap.size + 1 + 1 + 1, 0, none⟩) 3 3, .bool true, .int .u32 0, .slice none 0 0] rfl rfl hY rfl (by kernel_rfl) hc ?_; intro wU oU hU; have hX3 := oU.at hX2 (by simp; have := (Array.getElem?_eq_some_iff.1 hX).1; omega); have oF := (oZ.trans oX).trans (oXY.new oU (fun i hi => by simp only [List.mem_singleton] at hi; omega)); clear hY hc hX2)
    | (refine wpList_store_cell rfl 38 _ _ rfl Y 8 (.int .u32 n) rfl rfl rfl hU (by simp) (by kernel_rfl) rfl ?_; intro w8 o8 h8; have hX4 := o8.at hX3 (by simp; have := (Array.getElem?_eq_some_iff.1 hX).1; omega); have oF8 := oF.new o8 (fun i hi => by simp only [List.mem_singleton] at hi; have := oZ.size; have := oX.size; omega); clear hU hX3 oF)
    | (refine wpList_store_cell rfl 22 _ _ rfl Y 9 (.slice (some ⟨w8.heap.size, 0, none⟩) 2 2) rfl rfl rfl ((Only.alloc _ _ []).at h8 (by simp)) (by simp) (by kernel_rfl) rfl ?_; intro w9 o9 h9; have hX5 := o9.at ((Only.alloc _ _ []).at hX4 (by simp)) (by simp; have := (Array.getElem?_eq_some_iff.1 hX).1; omega); have oF9 := (oF8.trans (Only.alloc _ _ [])).new o9 (fun i hi => by simp only [List.mem_singleton] at hi; have := oZ.size; have := oX.size; omega); have h9' : w9.heap[Y]? = some (.cells ([.int .i64 u, .int .i64 d, .slice (some ⟨wX.heap.size, 0, none⟩) 2 2, .slice (some ⟨wX.heap.size + 1, 0, none⟩) 1 1, .int .u32 n, .slice (some ⟨wX.heap.size + 1 + 1, 0, none⟩) 1 1, .slice (some ⟨wX.heap.size + 1 + 1 + 1, 0, none⟩) 3 3, .bool true, .int .u32 n, .slice (some ⟨w8.heap.size, 0, none⟩) 2 2] : List Value).toArray 40 (0, 0)) := h9; have hc2 := h2c wX.heap.size w8.heap.size; clear h8 hX4 oF8 h9)
    | (refine wpList_load_blk rfl 40 _ rfl Y rfl [.int .i64 u, .int .i64 d, .slice (some ⟨wX.heap.size, 0, none⟩) 2 2, .slice (some ⟨wX.heap.size + 1, 0, none⟩) 1 1, .int .u32 n, .slice (some ⟨wX.heap.size + 1 + 1, 0, none⟩) 1 1, .slice (some ⟨wX.heap.size + 1 + 1 + 1, 0, none⟩) 3 3, .bool true, .int .u32 n, .slice (some ⟨w8.heap.size, 0, none⟩) 2 2] _ h9' Try.underlying40 (by rfl) (by kernel_rfl) ?_)
    | (refine wpList_store_blk rfl 40 _ _ rfl X [.int .i64 u, .int .i64 d, .slice (some ⟨wX.heap.size, 0, none⟩) 2 2, .slice (some ⟨wX.heap.size + 1, 0, none⟩) 1 1, .int .u32 n, .slice (some ⟨wX.heap.size + 1 + 1, 0, none⟩) 1 1, .slice (some ⟨wX.heap.size + 1 + 1 + 1, 0, none⟩) 3 3, .bool true, .int .u32 n, .slice (some ⟨w8.heap.size, 0, none⟩) 2 2] rfl rfl hX5 rfl (by kernel_rfl) hc2 ?_; intro wV oV hV; have oG := oF9.new oV (fun i hi => by simp only [List.mem_singleton] at hi; have := oZ.size; omega)))
  have d0 : wV.cell? ⟨X, 0, none⟩ = some (.int .i64 u) := cell_in hV 0
  have d1 : wV.cell? ⟨X, 1, none⟩ = some (.int .i64 d) := cell_in hV 1
  have d2 : wV.cell? ⟨X, 2, none⟩ = some (.slice (some ⟨wX.heap.size, 0, none⟩) 2 2) := cell_in hV 2
  have d3 : wV.cell? ⟨X, 3, none⟩ = some (.slice (some ⟨wX.heap.size + 1, 0, none⟩) 1 1) := cell_in hV 3
  have d4 : wV.cell? ⟨X, 4, none⟩ = some (.int .u32 n) := cell_in hV 4
  have d5 : wV.cell? ⟨X, 5, none⟩ = some (.slice (some ⟨wX.heap.size + 1 + 1, 0, none⟩) 1 1) := cell_in hV 5
  have d6 : wV.cell? ⟨X, 6, none⟩ = some (.slice (some ⟨wX.heap.size + 1 + 1 + 1, 0, none⟩) 3 3) := cell_in hV 6
  have d7 : wV.cell? ⟨X, 7, none⟩ = some (.bool true) := cell_in hV 7
  have d8 : wV.cell? ⟨X, 8, none⟩ = some (.int .u32 n) := cell_in hV 8
  have d9 : wV.cell? ⟨X, 9, none⟩ = some (.slice (some ⟨w8.heap.size, 0, none⟩) 2 2) := cell_in hV 9
  clear hV hX5 hX hZ hZX oXY oF9 h9'
  refine bodyPost_ret (v := .agg #[.int .i64 u, .int .i64 d, .slice (some ⟨wX.heap.size, 0, none⟩) 2 2, .slice (some ⟨wX.heap.size + 1, 0, none⟩) 1 1, .int .u32 n, .slice (some ⟨wX.heap.size + 1 + 1, 0, none⟩) 1 1, .slice (some ⟨wX.heap.size + 1 + 1 + 1, 0, none⟩) 3 3, .bool true, .int .u32 n, .slice (some ⟨w8.heap.size, 0, none⟩) 2 2]) (by simp [results, Try.results13, go_sem, d0, d1, d2, d3, d4, d5, d6, d7, d8, d9]) rfl ?_
  exact ⟨⟨u, d, .slice (some ⟨wX.heap.size, 0, none⟩) 2 2, .slice (some ⟨wX.heap.size + 1, 0, none⟩) 1 1, n, .slice (some ⟨wX.heap.size + 1 + 1, 0, none⟩) 1 1, .slice (some ⟨wX.heap.size + 1 + 1 + 1, 0, none⟩) 3 3, true, n, .slice (some ⟨w8.heap.size, 0, none⟩) 2 2, by simp [Value.oneCell']⟩, rfl, oG, rfl, rfl, rfl, rfl, rfl⟩
end Go.Proofs.Yteljkfihmbddaaa
