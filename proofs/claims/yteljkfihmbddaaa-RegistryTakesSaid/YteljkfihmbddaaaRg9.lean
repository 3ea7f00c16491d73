/- New, the laws' bundles without a prekey for once, of layer 17 (registry). Printed by gen_rg9.py. -/
import Derived.Test.YteljkfihmbddaaaRg8
import Derived.Lib.SmallJoins
namespace Go.Pw
open Go.RowKit
theorem wpList_convert_const {P : Program} {W : World} {C : Array Value} {g n c : Nat} {ops : Array Oper} {rest : List Oper} {op : Oper} {a : Act} {Q : Exit → Act → World → Prop} (hgd : op.guard = none) (x : Operand) (t e : TypeId) (ho : op.op = .convert t t x)
    (hx : a.eval x = .slice (some ⟨g, 0, none⟩) n c) (hg : g = W.heap.size) (ht : P.underlying t = some (.slice e)) (he : P.underlying e = some (.int .u8))
    (h : wpList P ops Q rest (a.put op.dst (.slice (some ⟨g, 0, none⟩) n c)) (W.alloc (.cells C e (C.size, C.size + 1)))) : wpList P ops Q (op :: rest) a (W.alloc (.cells C e)) :=
  wpList_plain hgd fun _ hK => by
    unfold Oper.wp execOp
    have hr := Joins.run_convert_bytes_const_at (P := P) W t e C n c g hg ht he
    simp only [ho, hx, hr, Sem.run_bind, Result.andThen_ok]
    exact hK _ _ h
end Go.Pw
namespace Go.Proofs.Yteljkfihmbddaaa
open Go.RowKit Go.Pw
set_option linter.unusedVariables false

theorem new_any (w : World) : Calls Try.prog 8 #[] w fun e w' => e = .returned (.pointer (some ⟨w.heap.size, 0, none⟩)) ∧ w' = w.alloc (.cells #[.slice none 0 0] 72) := by
  go_enter Try.func8, Try.ntmps8
  go_wp2
  go_ret
  exact ⟨rfl, rfl⟩

/-- A bundle of the laws. -/
def Bund (u d n : Int) (has : Bool) (w : World) (e : Ending) (w' : World) : Prop := ∃ b : Bu, e = .returned (.agg (bc b).toArray) ∧ Only w w' [] ∧ b.u = u ∧ b.d = d ∧ b.sg = n ∧ b.has = has ∧ b.on = (if has = true then n else 0)

set_option maxRecDepth 100000 in
set_option maxHeartbeats 800000 in
theorem bundle_no (u d n : Int) (h0 : 0 ≤ n) (h1 : n < 256) (w : World) : Calls Try.prog 13 #[wv u d, .int .u8 n, .bool false] w (Bund u d n false w) := by
  simp only [wv]
  have e1 : IntKind.u32.wrap n = n := by simp [IntKind.wrap, IntKind.bits, IntKind.signed]; omega
  have h1c : ∀ s : Nat, ([.int .i64 u, .int .i64 d, .slice (some ⟨s, 0, none⟩) 2 2, .slice (some ⟨s + 1, 0, none⟩) 1 1, .int .u32 n, .slice (some ⟨s + 1 + 1, 0, none⟩) 1 1, .slice (some ⟨s + 1 + 1 + 1, 0, none⟩) 3 3, .bool false, .int .u32 0, .slice none 0 0] : List Value).toArray.all (·.oneCell') = true := by simp [Value.oneCell']
  go_enter Try.func13, Try.ntmps13
  go_wp2_with (first
    | (refine wpList_box_new rfl 30 _ rfl (.agg #[.int .i64 u, .int .i64 d]) rfl ?_; intro Z wZ oZ hZl hZ)
    | (refine wpList_convert_const rfl _ 22 5 rfl rfl (by simp) Try.underlying22 Try.underlying5 ?_)
    | (have hQ := hX; refine wpList_alloc_new rfl 40 rfl (.agg (bc b0).toArray) (fun _ => by kernel_rfl) ?_; intro Y wY oY hYl hY; clear hQ; have hc := h1c wX.heap.size; have oXY : Only wX wY [] := Only.trans (((((Only.alloc _ _ _).trans (Only.alloc _ _ _)).trans (Only.alloc _ _ _)).trans (Only.alloc _ _ _))) oY; have hX2 := oXY.at hX (by simp); have hYX : wX.heap.size ≤ Y := by simp at hYl; omega)
    | (refine wpList_alloc_new rfl 40 rfl (.agg (bc b0).toArray) (fun _ => by kernel_rfl) ?_; intro X wX oX hXl hX; have hZX := oX.at hZ (by simp); have hz0 := cell_two0 hZX; have hz1 := cell_two1 hZX)
    | (refine wpList_store_blk rfl 40 _ _ rfl Y [.int .i64 u, .int .i64 d, .slice (some ⟨wX.heap.size, 0, none⟩) 2 2, .slice (some ⟨wX.heap.size + 1, 0, none⟩) 1 1, .int .u32 n, .slice (some ⟨wX.heap.size + 1 + 1, 0, none⟩) 1 1, .slice (some ⟨wX.heap.size + 1 + 1 + 1, 0, none⟩) 3 3, .bool false, .int .u32 0, .slice none 0 0] rfl rfl hY rfl (by kernel_rfl) hc ?_; intro wU oU hU; have hX3 := oU.at hX2 (by simp; have := (Array.getElem?_eq_some_iff.1 hX).1; omega); have oF := (oZ.trans oX).trans (oXY.new oU (fun i hi => by simp only [List.mem_singleton] at hi; omega)))
    | (refine wpList_load_blk rfl 40 _ rfl Y rfl [.int .i64 u, .int .i64 d, .slice (some ⟨wX.heap.size, 0, none⟩) 2 2, .slice (some ⟨wX.heap.size + 1, 0, none⟩) 1 1, .int .u32 n, .slice (some ⟨wX.heap.size + 1 + 1, 0, none⟩) 1 1, .slice (some ⟨wX.heap.size + 1 + 1 + 1, 0, none⟩) 3 3, .bool false, .int .u32 0, .slice none 0 0] _ hU Try.underlying40 (by rfl) (by kernel_rfl) ?_)
    | (refine wpList_store_blk rfl 40 _ _ rfl X [.int .i64 u, .int .i64 d, .slice (some ⟨wX.heap.size, 0, none⟩) 2 2, .slice (some ⟨wX.heap.size + 1, 0, none⟩) 1 1, .int .u32 n, .slice (some ⟨wX.heap.size + 1 + 1, 0, none⟩) 1 1, .slice (some ⟨wX.heap.size + 1 + 1 + 1, 0, none⟩) 3 3, .bool false, .int .u32 0, .slice none 0 0] rfl rfl hX3 rfl (by kernel_rfl) hc ?_; intro wV oV hV; have oG := oF.new oV (fun i hi => by simp only [List.mem_singleton] at hi; have := oZ.size; omega)))
  have d0 : wV.cell? ⟨X, 0, none⟩ = some (.int .i64 u) := cell_in hV 0
  have d1 : wV.cell? ⟨X, 1, none⟩ = some (.int .i64 d) := cell_in hV 1
  have d2 : wV.cell? ⟨X, 2, none⟩ = some (.slice (some ⟨wX.heap.size, 0, none⟩) 2 2) := cell_in hV 2
  have d3 : wV.cell? ⟨X, 3, none⟩ = some (.slice (some ⟨wX.heap.size + 1, 0, none⟩) 1 1) := cell_in hV 3
  have d4 : wV.cell? ⟨X, 4, none⟩ = some (.int .u32 n) := cell_in hV 4
  have d5 : wV.cell? ⟨X, 5, none⟩ = some (.slice (some ⟨wX.heap.size + 1 + 1, 0, none⟩) 1 1) := cell_in hV 5
  have d6 : wV.cell? ⟨X, 6, none⟩ = some (.slice (some ⟨wX.heap.size + 1 + 1 + 1, 0, none⟩) 3 3) := cell_in hV 6
  have d7 : wV.cell? ⟨X, 7, none⟩ = some (.bool false) := cell_in hV 7
  have d8 : wV.cell? ⟨X, 8, none⟩ = some (.int .u32 0) := cell_in hV 8
  have d9 : wV.cell? ⟨X, 9, none⟩ = some (.slice none 0 0) := cell_in hV 9
  clear hV hU hX3 hX2 hX hZ hZX hY oXY oF
  refine bodyPost_ret (v := .agg #[.int .i64 u, .int .i64 d, .slice (some ⟨wX.heap.size, 0, none⟩) 2 2, .slice (some ⟨wX.heap.size + 1, 0, none⟩) 1 1, .int .u32 n, .slice (some ⟨wX.heap.size + 1 + 1, 0, none⟩) 1 1, .slice (some ⟨wX.heap.size + 1 + 1 + 1, 0, none⟩) 3 3, .bool false, .int .u32 0, .slice none 0 0]) (by simp [results, Try.results13, go_sem, d0, d1, d2, d3, d4, d5, d6, d7, d8, d9]) rfl ?_
  exact ⟨⟨u, d, .slice (some ⟨wX.heap.size, 0, none⟩) 2 2, .slice (some ⟨wX.heap.size + 1, 0, none⟩) 1 1, n, .slice (some ⟨wX.heap.size + 1 + 1, 0, none⟩) 1 1, .slice (some ⟨wX.heap.size + 1 + 1 + 1, 0, none⟩) 3 3, false, 0, .slice none 0 0, by simp [Value.oneCell']⟩, rfl, oG, rfl, rfl, rfl, rfl, rfl⟩
end Go.Proofs.Yteljkfihmbddaaa
