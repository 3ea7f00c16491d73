/- The registry's Ident, and Take of none (layer 17). Printed by gen_rf8.py. -/
import Derived.Test.YteljkfihmbddaaaPd
set_option linter.unusedSimpArgs false
set_option linter.unusedVariables false
namespace Go.Proofs.Yteljkfihmbddaaa
open Go.RowKit Go.Pw
set_option linter.unusedVariables false

set_option maxRecDepth 100000 in
set_option maxHeartbeats 1600000 in
theorem rident_any {w0 : World} {rs : List Res} (B : Nat) (l : List Li) (v : Value) (u d : Int) (k : Nat) (w : World) (h : Pw.Sep w0 w (regR B v l rs)) (hl : l.length ≤ 1000000) (hr : Rise l)
    (hf : foundL l u d = true) (hp : placeL l u d = k) (hk : k < l.length) :
    Calls Try.prog 24 #[.pointer (some ⟨B, 0, none⟩), wv u d] w fun e w' => e = .returned (.tuple #[.agg #[l[k].b.s1, l[k].b.s2], .bool true]) ∧ Only w w' [] := by
  obtain ⟨ao, c, rfl⟩ := own_slice (show w.ownsRow 0 _ 14 v l.length (fl lc l) from h.head)
  obtain ⟨g, rfl, _⟩ := own_some (show w.ownsRow 0 _ 14 (.slice ao l.length c) l.length (fl lc l) from h.head) (by omega)
  have Hfind := fun (w' : World) (o : Only w w' []) => find_any B l _ u d w' (h.quiet o) hl hr
  rw [hf, hp] at Hfind
  simp only [wv] at *
  clear hf hp hr
  have hlrow : ∀ w' : World, w'.ownsRow 0 76 14 (.slice (some ⟨g, 0, none⟩) l.length c) l.length (fl lc l) → w'.cell? ⟨g, k * 14 + 5, none⟩ = some l[k].b.s1 ∧ w'.cell? ⟨g, k * 14 + 6, none⟩ = some l[k].b.s2 := fun w' h' =>
    ⟨rec_cell lc_len h' hk 5 (by simp [lc, bc]), rec_cell lc_len h' hk 6 (by simp [lc, bc])⟩
  have hkI : (k : Int) < l.length := by omega
  have h1c : ([l[k].b.s1, l[k].b.s2] : List Value).toArray.all (·.oneCell') = true := by
    have := l[k].b.ok
    simp [this.1, this.2.1]
  go_enter Try.func24, Try.ntmps24
  go_wp2_with (first
    | (refine wpList_box_new rfl 30 _ rfl (.agg #[.int .i64 u, .int .i64 d]) rfl ?_; intro Z wZ oZ hZl hZ)
    | (refine wpList_alloc_new rfl 37 rfl (.agg #[.slice none 0 0, .slice none 0 0]) (fun _ => by kernel_rfl) ?_; intro X wX oX hXl hX; have hZX := oX.at hZ (by simp); have hz0 := cell_two0 hZX; have hz1 := cell_two1 hZX))
  refine (Hfind _ (oZ.trans oX)).mono ?_
  rintro e w1 ⟨rfl, o1⟩
  have hX1 := o1.at hX (by simp)
  have oA := (oZ.trans oX).trans o1
  have hXw : w.heap.size ≤ X := Nat.le_trans oZ.size hXl
  have s1 := h.quiet oA
  obtain ⟨c5, c6⟩ := hlrow w1 s1.head
  have hBc := cell_of_one s1.tail.head
  clear hz0 hz1 hX hZX oX oZ Hfind
  go_wp2_with (refine wpList_store_blk rfl 37 _ _ rfl X [l[k].b.s1, l[k].b.s2] rfl rfl hX1 rfl (by kernel_rfl) h1c ?_; intro wV oV hV; have oF := oA.new oV (fun i hi => by simp only [List.mem_singleton] at hi; omega); have d0 := cell_two0 hV; have d1 := cell_two1 hV)
  refine bodyPost_ret (v := .tuple #[.agg #[l[k].b.s1, l[k].b.s2], .bool true]) (by simp [results, Try.results24, go_sem, d0, d1]; try rfl) rfl ?_
  exact ⟨rfl, oF⟩

set_option maxRecDepth 100000 in
set_option maxHeartbeats 1600000 in
theorem take_none {w0 : World} {rs : List Res} (B : Nat) (l : List Li) (v : Value) (u d : Int) (w : World) (h : Pw.Sep w0 w (regR B v l rs)) (hl : l.length ≤ 1000000) (hr : Rise l) (hI : isL l u d = false) :
    Calls Try.prog 14 #[.pointer (some ⟨B, 0, none⟩), wv u d] w fun e w' => e = .returned (.tuple #[.agg (bc b0).toArray, .int .i64 2]) ∧ Only w w' [] := by
  obtain ⟨ao, c, rfl⟩ := own_slice (show w.ownsRow 0 _ 14 v l.length (fl lc l) from h.head)
  have Hfind := fun (w' : World) (o : Only w w' []) => find_any B l _ u d w' (h.quiet o) hl hr
  have hlb := bc_len b0
  have h1b : (bc b0).toArray.all (·.oneCell') = true := all_oneCell_toArray (bc_one b0)
  simp only [wv] at *
  cases hf : foundL l u d with
  | true =>
    obtain ⟨hk, hon⟩ := not_isL hI hf
    rw [hf] at Hfind
    generalize placeL l u d = k at *
    obtain ⟨g, rfl, _⟩ := own_some (show w.ownsRow 0 _ 14 (.slice ao l.length c) l.length (fl lc l) from h.head) (by omega)
    have hE := fun (w1 : World) (h1 : w1.ownsRow 0 76 14 (.slice (some ⟨g, 0, none⟩) l.length c) l.length (fl lc l)) => rec_cell lc_len h1 hk 2 (v := .bool l[k].on) rfl
    rw [hon] at hE
    have hkI : (k : Int) < l.length := by omega
    clear hon hI hr hf
    go_enter Try.func14, Try.ntmps14
    go_wp2_with (first
      | (refine wpList_box_new rfl 30 _ rfl (.agg #[.int .i64 u, .int .i64 d]) rfl ?_; intro Z wZ oZ hZl hZ)
      | (refine wpList_alloc_new rfl 40 rfl (.agg (bc b0).toArray) (fun _ => by kernel_rfl) ?_; intro X wX oX hXl hX; have hZX := oX.at hZ (by simp); have hz0 := cell_two0 hZX; have hz1 := cell_two1 hZX))
    refine (Hfind _ (oZ.trans oX)).mono ?_
    rintro e w1 ⟨rfl, o1⟩
    have hX1 := o1.at hX (by simp)
    have oA := (oZ.trans oX).trans o1
    have hXw : w.heap.size ≤ X := Nat.le_trans oZ.size hXl
    have s1 := h.quiet oA
    have c2 := hE w1 s1.head
    have hBc := cell_of_one s1.tail.head
    clear hz0 hz1 hX hZX oX oZ Hfind hE
    go_wp2_with (refine wpList_store_blk rfl 40 _ _ rfl X (bc b0) rfl rfl hX1 rfl (by rw [hlb]; kernel_rfl) h1b ?_; intro wV oV hV; have oF := oA.new oV (fun i hi => by simp only [List.mem_singleton] at hi; omega))
    have d0 : wV.cell? ⟨X, 0, none⟩ = some (.int .i64 b0.u) := cell_in hV 0
    have d1 : wV.cell? ⟨X, 1, none⟩ = some (.int .i64 b0.d) := cell_in hV 1
    have d2 : wV.cell? ⟨X, 2, none⟩ = some (b0.s1) := cell_in hV 2
    have d3 : wV.cell? ⟨X, 3, none⟩ = some (b0.s2) := cell_in hV 3
    have d4 : wV.cell? ⟨X, 4, none⟩ = some (.int .u32 b0.sg) := cell_in hV 4
    have d5 : wV.cell? ⟨X, 5, none⟩ = some (b0.s3) := cell_in hV 5
    have d6 : wV.cell? ⟨X, 6, none⟩ = some (b0.s4) := cell_in hV 6
    have d7 : wV.cell? ⟨X, 7, none⟩ = some (.bool b0.has) := cell_in hV 7
    have d8 : wV.cell? ⟨X, 8, none⟩ = some (.int .u32 b0.on) := cell_in hV 8
    have d9 : wV.cell? ⟨X, 9, none⟩ = some (b0.s5) := cell_in hV 9
    clear hV
    refine bodyPost_ret (v := .tuple #[.agg (bc b0).toArray, .int .i64 2]) (by simp [results, Try.results14, go_sem, d0, d1, d2, d3, d4, d5, d6, d7, d8, d9]; try rfl) rfl ?_
    exact ⟨rfl, oF⟩
  | false =>
    rw [hf] at Hfind
    clear hI hr hf
    go_enter Try.func14, Try.ntmps14
    go_wp2_with (first
      | (refine wpList_box_new rfl 30 _ rfl (.agg #[.int .i64 u, .int .i64 d]) rfl ?_; intro Z wZ oZ hZl hZ)
      | (refine wpList_alloc_new rfl 40 rfl (.agg (bc b0).toArray) (fun _ => by kernel_rfl) ?_; intro X wX oX hXl hX; have hZX := oX.at hZ (by simp); have hz0 := cell_two0 hZX; have hz1 := cell_two1 hZX))
    refine (Hfind _ (oZ.trans oX)).mono ?_
    rintro e w1 ⟨rfl, o1⟩
    have hX1 := o1.at hX (by simp)
    have oA := (oZ.trans oX).trans o1
    have hXw : w.heap.size ≤ X := Nat.le_trans oZ.size hXl
    clear hz0 hz1 hX hZX oX oZ Hfind
    go_wp2_with (refine wpList_store_blk rfl 40 _ _ rfl X (bc b0) rfl rfl hX1 rfl (by rw [hlb]; kernel_rfl) h1b ?_; intro wV oV hV; have oF := oA.new oV (fun i hi => by simp only [List.mem_singleton] at hi; omega))
    have d0 : wV.cell? ⟨X, 0, none⟩ = some (.int .i64 b0.u) := cell_in hV 0
    have d1 : wV.cell? ⟨X, 1, none⟩ = some (.int .i64 b0.d) := cell_in hV 1
    have d2 : wV.cell? ⟨X, 2, none⟩ = some (b0.s1) := cell_in hV 2
    have d3 : wV.cell? ⟨X, 3, none⟩ = some (b0.s2) := cell_in hV 3
    have d4 : wV.cell? ⟨X, 4, none⟩ = some (.int .u32 b0.sg) := cell_in hV 4
    have d5 : wV.cell? ⟨X, 5, none⟩ = some (b0.s3) := cell_in hV 5
    have d6 : wV.cell? ⟨X, 6, none⟩ = some (b0.s4) := cell_in hV 6
    have d7 : wV.cell? ⟨X, 7, none⟩ = some (.bool b0.has) := cell_in hV 7
    have d8 : wV.cell? ⟨X, 8, none⟩ = some (.int .u32 b0.on) := cell_in hV 8
    have d9 : wV.cell? ⟨X, 9, none⟩ = some (b0.s5) := cell_in hV 9
    clear hV
    refine bodyPost_ret (v := .tuple #[.agg (bc b0).toArray, .int .i64 2]) (by simp [results, Try.results14, go_sem, d0, d1, d2, d3, d4, d5, d6, d7, d8, d9]; try rfl) rfl ?_
    exact ⟨rfl, oF⟩
end Go.Proofs.Yteljkfihmbddaaa
