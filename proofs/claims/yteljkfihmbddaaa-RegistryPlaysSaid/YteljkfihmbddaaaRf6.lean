/- The reference's Take (layer 17). Printed by gen_rf6.py. -/
import Derived.Test.YteljkfihmbddaaaRf5
set_option linter.unusedSimpArgs false
set_option linter.unusedVariables false
namespace Go.Proofs.Yteljkfihmbddaaa
open Go.RowKit Go.Pw
set_option linter.unusedVariables false

set_option maxRecDepth 100000 in
set_option maxHeartbeats 1600000 in
theorem rtake_none {w0 : World} {rs : List Res} (S : Nat) (ms : List Rl) (v : Value) (u d : Int) (w : World) (h : Pw.Sep w0 w (refR S v ms rs)) (hl : ms.length ≤ 1000) (hI : ris ms u d = false) :
    Calls Try.prog 21 #[.pointer (some ⟨S, 0, none⟩), wv u d] w fun e w' => e = .returned (.tuple #[.agg (bc b0).toArray, .int .i64 2]) ∧ Only w w' [] := by
  have HI := fun (w' : World) (o : Only w w' []) => ris_any S ms v u d w' (h.quiet o) (by omega)
  rw [hI] at HI
  clear h
  have hlb := bc_len b0
  have h1b : (bc b0).toArray.all (·.oneCell') = true := all_oneCell_toArray (bc_one b0)
  simp only [wv] at *
  go_enter Try.func21, Try.ntmps21
  go_wp2_with (first
    | (refine wpList_box_new rfl 30 _ rfl (.agg #[.int .i64 u, .int .i64 d]) rfl ?_; intro Z wZ oZ hZl hZ)
    | (refine wpList_alloc_new rfl 40 rfl (.agg (bc b0).toArray) (fun _ => by kernel_rfl) ?_; intro X wX oX hXl hX; have hZX := oX.at hZ (by simp); have z0 := cell_two0 hZX; have z1 := cell_two1 hZX))
  refine (HI _ (oZ.trans oX)).mono ?_
  rintro e w1 ⟨rfl, o1⟩
  clear z0 z1
  have hX1 := o1.at hX (by simp)
  have oA := (oZ.trans oX).trans o1
  have hXw : w.heap.size ≤ X := Nat.le_trans oZ.size hXl
  clear HI hX hZX oX oZ
  go_wp2_with (refine wpList_store_blk rfl 40 _ _ rfl X (bc b0) rfl rfl hX1 rfl (by rw [hlb]; kernel_rfl) h1b ?_; intro wV oV hV; have oF := oA.new oV (fun i hi => by simp only [List.mem_singleton] at hi; omega))
  have d0 : wV.cell? ⟨X, 0, none⟩ = some (.int .i64 b0.u) := cell_in hV 0
  have d1 : wV.cell? ⟨X, 1, none⟩ = some (.int .i64 b0.d) := cell_in hV 1
  have d2 : wV.cell? ⟨X, 2, none⟩ = some (b0.s1) := cell_in hV 2
  have d3 : wV.cell? ⟨X, 3, none⟩ = some (b0.s2) := cell_in hV 3
  have d4 : wV.cell? ⟨X, 4, none⟩ = some (.int .u32 b0.sg) := cell_in hV 4
  have d5 : wV.cell? ⟨X, 5, none⟩ = some (b0.s3) := cell_in hV 5
  have d6 : wV.cell? ⟨X, 6, none⟩ = some (b0.s4) := cell_in hV 6
  have d7 : wV.cell? ⟨X, 7, none⟩ = some (.bool b0.has) := cell_in hV 7
  have d8 : wV.cell? ⟨X, 8, none⟩ = some (.int .u32 b0.on) := cell_in hV 8
  have d9 : wV.cell? ⟨X, 9, none⟩ = some (b0.s5) := cell_in hV 9
  clear hV
  refine bodyPost_ret (v := .tuple #[.agg (bc b0).toArray, .int .i64 2]) (by simp [results, Try.results21, go_sem, d0, d1, d2, d3, d4, d5, d6, d7, d8, d9]; try rfl) rfl ?_
  exact ⟨rfl, oF⟩

set_option maxRecDepth 100000 in
set_option maxHeartbeats 1600000 in
theorem rtake_last {w0 : World} {rs : List Res} (S : Nat) (ms : List Rl) (v : Value) (u d : Int) (w : World) (h : Pw.Sep w0 w (refR S v ms rs)) (hl : ms.length ≤ 1000) (k : Nat) (hI : ris ms u d = true) (hk : k < ms.length) (hp : rfp ms u d = k) (hos : ms[k].os = []) :
    Calls Try.prog 21 #[.pointer (some ⟨S, 0, none⟩), wv u d] w fun e w' => e = .returned (.tuple #[.agg (bc ms[k].b).toArray, .int .i64 0]) ∧ Only w w' [] := by
  obtain ⟨ao, c, rfl⟩ := own_slice (show w.ownsRow 0 _ 18 v ms.length (fl rlc ms) from h.head)
  obtain ⟨mg, rfl, _⟩ := own_some (show w.ownsRow 0 _ 18 (.slice ao ms.length c) ms.length (fl rlc ms) from h.head) (by omega)
  have HI := fun (w' : World) (o : Only w w' []) => ris_any S ms _ u d w' (h.quiet o) (by omega)
  have HF := fun (w' : World) (o : Only w w' []) => rfind_any S ms _ u d w' (h.quiet o) (by omega)
  rw [hI] at HI
  have hfi : rfi ms u d = (k : Int) := by unfold rfi; rw [hp, if_pos hk]
  rw [hfi] at HF
  clear hI hp hfi
  simp only [wv] at *
  have hkz : (0 : Int) ≤ (k : Int) ∧ (k : Int) < ms.length := by omega
  have hlrow : ∀ w' : World, w'.ownsRow 0 85 18 (.slice (some ⟨mg, 0, none⟩) ms.length c) ms.length (fl rlc ms) → w'.cell? ⟨mg, k * 18 + 13, none⟩ = some ms[k].v ∧ w'.rangeAt mg (k * 18 + 3) (bc ms[k].b) := fun w' h' => by
    refine ⟨rec_cell rlc_len h' hk 13 (by simp [rlc, bc]), fun j v hj => ?_⟩
    rw [Nat.add_assoc]
    refine rec_cell rlc_len h' hk (3 + j) ?_
    rw [rlc, Nat.add_comm]
    simp only [List.getElem?_cons_succ]
    rw [List.getElem?_append_left (List.getElem?_eq_some_iff.1 hj).1]
    exact hj
  have hpk : (ms.map oo)[k]? = some (oo ms[k]) := by rw [List.getElem?_map, List.getElem?_eq_getElem hk]; rfl
  have howk : OwnO w 40 10 ms[k].v ms[k].os.length (fl bc ms[k].os) := many_ok (h.sel 3 [2]).head (List.mem_of_getElem? hpk)
  obtain ⟨av, cv, hv⟩ := howk.slice
  rw [hos] at hv
  rw [hv] at hlrow
  have hlb := bc_len ms[k].b
  have h1b : (bc ms[k].b).toArray.all (·.oneCell') = true := all_oneCell_toArray (bc_one _)
  clear howk hos hpk hv
  go_enter Try.func21, Try.ntmps21
  go_wp2_with (first
    | (refine wpList_box_new rfl 30 _ rfl (.agg #[.int .i64 u, .int .i64 d]) rfl ?_; intro Z wZ oZ hZl hZ)
    | (refine wpList_alloc_new rfl 40 rfl (.agg (bc b0).toArray) (fun _ => by kernel_rfl) ?_; intro X wX oX hXl hX; have hZX := oX.at hZ (by simp); have z0 := cell_two0 hZX; have z1 := cell_two1 hZX))
  refine (HI _ (oZ.trans oX)).mono ?_
  rintro e w1 ⟨rfl, o1⟩
  clear z0 z1
  have z0 := cell_two0 (o1.at hZX (by simp))
  have z1 := cell_two1 (o1.at hZX (by simp))
  go_wp2_with fail
  refine (HF _ ((oZ.trans oX).trans o1)).mono ?_
  rintro e w2 ⟨rfl, o2⟩
  have hX1 := o2.at (o1.at hX (by simp)) (by simp)
  have oA := ((oZ.trans oX).trans o1).trans o2
  have hXw : w.heap.size ≤ X := Nat.le_trans oZ.size hXl
  have s1 := h.quiet oA
  obtain ⟨c13, hrg⟩ := hlrow w2 s1.head
  have hs0 := cell_two0 (show w2.heap[S]? = _ from s1.tail.head)
  clear HI HF z0 z1 hX hZX oX oZ o1 o2
  go_wp2_with (first
    | (refine wpList_load_mid rfl 40 _ rfl mg (k * 18 + 3) rfl (bc ms[k].b) _ hrg Try.underlying40 (by rfl) (by rw [hlb]; kernel_rfl) ?_)
    | (refine wpList_store_blk rfl 40 _ _ rfl X (bc ms[k].b) rfl rfl hX1 rfl (by rw [hlb]; kernel_rfl) h1b ?_; intro wV oV hV; have oF := oA.new oV (fun i hi => by simp only [List.mem_singleton] at hi; omega)))
  have d0 : wV.cell? ⟨X, 0, none⟩ = some (.int .i64 ms[k].b.u) := cell_in hV 0
  have d1 : wV.cell? ⟨X, 1, none⟩ = some (.int .i64 ms[k].b.d) := cell_in hV 1
  have d2 : wV.cell? ⟨X, 2, none⟩ = some (ms[k].b.s1) := cell_in hV 2
  have d3 : wV.cell? ⟨X, 3, none⟩ = some (ms[k].b.s2) := cell_in hV 3
  have d4 : wV.cell? ⟨X, 4, none⟩ = some (.int .u32 ms[k].b.sg) := cell_in hV 4
  have d5 : wV.cell? ⟨X, 5, none⟩ = some (ms[k].b.s3) := cell_in hV 5
  have d6 : wV.cell? ⟨X, 6, none⟩ = some (ms[k].b.s4) := cell_in hV 6
  have d7 : wV.cell? ⟨X, 7, none⟩ = some (.bool ms[k].b.has) := cell_in hV 7
  have d8 : wV.cell? ⟨X, 8, none⟩ = some (.int .u32 ms[k].b.on) := cell_in hV 8
  have d9 : wV.cell? ⟨X, 9, none⟩ = some (ms[k].b.s5) := cell_in hV 9
  clear hV
  refine bodyPost_ret (v := .tuple #[.agg (bc ms[k].b).toArray, .int .i64 0]) (by simp [results, Try.results21, go_sem, d0, d1, d2, d3, d4, d5, d6, d7, d8, d9]; try rfl) rfl ?_
  exact ⟨rfl, oF⟩
end Go.Proofs.Yteljkfihmbddaaa
