/- Take, Left of layer 17 (registry). Printed by gen_rgu.py. -/
import Derived.Test.YteljkfihmbddaaaRgT
namespace Go.Proofs.Yteljkfihmbddaaa
open Go.RowKit Go.Pw
set_option linter.unusedVariables false

set_option maxRecDepth 100000 in
set_option maxHeartbeats 1200000 in
theorem take_last {w0 : World} {rs : List Res} (B : Nat) (l : List Li) (v : Value) (u d : Int) (k : Nat) (x : Li) (w : World) (h : Sep w0 w (regR B v l rs)) (hl : l.length ≤ 1000000) (hr : Rise l)
    (hf : foundL l u d = true) (hp : placeL l u d = k) (hk : k < l.length) (hx : l[k] = x) (hon : x.on = true) (hos : x.os = []) :
    Calls Try.prog 14 #[.pointer (some ⟨B, 0, none⟩), wv u d] w fun e w' => e = .returned (.tuple #[.agg (bc x.b).toArray, .int .i64 0]) ∧ Only w w' [] := by
  obtain ⟨ao, c, rfl⟩ := own_slice (show w.ownsRow 0 _ 14 v l.length (fl lc l) from h.head)
  obtain ⟨g, rfl, _⟩ := own_some (show w.ownsRow 0 _ 14 (.slice ao l.length c) l.length (fl lc l) from h.head) (by omega)
  have Hfind := fun (w' : World) (o : Only w w' []) => find_any B l _ u d w' (h.quiet o) hl hr
  rw [hf, hp] at Hfind
  simp only [wv] at *
  clear hf hp hr
  have hlrow : ∀ w' : World, w'.ownsRow 0 76 14 (.slice (some ⟨g, 0, none⟩) l.length c) l.length (fl lc l) → w'.cell? ⟨g, k * 14 + 2, none⟩ = some (.bool true) ∧ w'.cell? ⟨g, k * 14 + 13, none⟩ = some x.v ∧ w'.rangeAt g (k * 14 + 3) (bc x.b) := fun w' h' => by
    refine ⟨?_, rec_cell lc_len h' hk 13 (by rw [hx]; rfl), fun j v hj => ?_⟩
    · have := rec_cell lc_len h' hk 2 (v := .bool l[k].on) rfl
      rw [hx, hon] at this
      exact this
    · rw [Nat.add_assoc]
      refine rec_cell lc_len h' hk (3 + j) ?_
      rw [hx, lc, Nat.add_comm]
      simp only [List.getElem?_cons_succ]
      rw [List.getElem?_append_left (List.getElem?_eq_some_iff.1 hj).1]
      exact hj
  have hkI : (k : Int) < l.length := by omega
  have hpk : (l.map ow)[k]? = some (ow x) := by rw [List.getElem?_map, List.getElem?_eq_getElem hk, hx]; rfl
  have howk : (ow x).ok w := many_ok (h.sel 3 [2]).head (List.mem_of_getElem? hpk)
  obtain ⟨av, cv, hv⟩ := own_slice (show w.ownsRow 0 40 10 x.v x.os.length (fl bc x.os) from howk)
  rw [hos] at hv
  rw [hv] at hlrow
  have hlb := bc_len x.b
  have h1b := bc_arr x.b
  clear howk hos hpk
  go_enter Try.func14, Try.ntmps14
  go_wp2_with (first
    | (refine wpList_box_new rfl 30 _ rfl (.agg #[.int .i64 u, .int .i64 d]) rfl ?_; intro Z wZ oZ hZl hZ)
    | (refine wpList_alloc_new rfl 40 rfl (.agg (bc b0).toArray) (fun _ => by kernel_rfl) ?_; intro X wX oX hXl hX; have hZX := oX.at hZ (by simp); have hz0 := cell_two0 hZX; have hz1 := cell_two1 hZX))
  refine (Hfind _ (oZ.trans oX)).mono ?_
  rintro e w1 ⟨rfl, o1⟩
  have hX1 := o1.at hX (by simp)
  have oA := (oZ.trans oX).trans o1
  have hXw : w.heap.size ≤ X := Nat.le_trans oZ.size hXl
  have s1 := h.quiet oA
  obtain ⟨c2, c13, hrg⟩ := hlrow w1 s1.head
  have hBc := cell_of_one s1.tail.head
  clear hz0 hz1 hX hZX oX oZ Hfind
  go_wp2_with (first
    | (refine wpList_load_mid rfl 40 _ rfl g (k * 14 + 3) rfl (bc x.b) _ hrg Try.underlying40 (by rfl) (by rw [hlb]; kernel_rfl) ?_)
    | (refine wpList_store_blk rfl 40 _ _ rfl X (bc x.b) rfl rfl hX1 rfl (by rw [hlb]; kernel_rfl) h1b ?_; intro wV oV hV; have oF := oA.new oV (fun i hi => by simp only [List.mem_singleton] at hi; omega)))
  have d0 : wV.cell? ⟨X, 0, none⟩ = some (.int .i64 x.b.u) := cell_in hV 0
  have d1 : wV.cell? ⟨X, 1, none⟩ = some (.int .i64 x.b.d) := cell_in hV 1
  have d2 : wV.cell? ⟨X, 2, none⟩ = some (x.b.s1) := cell_in hV 2
  have d3 : wV.cell? ⟨X, 3, none⟩ = some (x.b.s2) := cell_in hV 3
  have d4 : wV.cell? ⟨X, 4, none⟩ = some (.int .u32 x.b.sg) := cell_in hV 4
  have d5 : wV.cell? ⟨X, 5, none⟩ = some (x.b.s3) := cell_in hV 5
  have d6 : wV.cell? ⟨X, 6, none⟩ = some (x.b.s4) := cell_in hV 6
  have d7 : wV.cell? ⟨X, 7, none⟩ = some (.bool x.b.has) := cell_in hV 7
  have d8 : wV.cell? ⟨X, 8, none⟩ = some (.int .u32 x.b.on) := cell_in hV 8
  have d9 : wV.cell? ⟨X, 9, none⟩ = some (x.b.s5) := cell_in hV 9
  clear hV hX1 hrg
  refine bodyPost_ret (v := .tuple #[.agg (bc x.b).toArray, .int .i64 0]) (by simp [results, Try.results14, go_sem, d0, d1, d2, d3, d4, d5, d6, d7, d8, d9]; try rfl) rfl ?_
  exact ⟨rfl, oF⟩

/-- What Take leaves: the oldest prekey for once is there no more. -/
def Took (w0 : World) (rs : List Res) (B : Nat) (v : Value) (l : List Li) (k : Nat) (x : Li) (b : Bu) (os : List Bu) (e : Ending) (w' : World) : Prop :=
  e = .returned (.tuple #[.agg (bc b).toArray, .int .i64 0]) ∧ ∃ x' : Li, x'.u = x.u ∧ x'.d = x.d ∧ x'.on = true ∧ x'.b = x.b ∧ x'.os = os ∧ Sep w0 w' (regR B v (l.set k x') rs)

set_option maxRecDepth 100000 in
set_option maxHeartbeats 1200000 in
theorem take_once {w0 : World} {rs : List Res} (B : Nat) (l : List Li) (v : Value) (u d : Int) (k : Nat) (x : Li) (w : World) (h : Sep w0 w (regR B v l rs)) (hl : l.length ≤ 1000000) (hr : Rise l)
    (hf : foundL l u d = true) (hp : placeL l u d = k) (hk : k < l.length) (hx : l[k] = x) (hon : x.on = true) (b : Bu) (os : List Bu) (hos : x.os = b :: os) (hol : os.length ≤ 900) (hw0 : w0.heap.size ≤ w.heap.size) :
    Calls Try.prog 14 #[.pointer (some ⟨B, 0, none⟩), wv u d] w (Took w0 rs B v l k x b os) := by
  obtain ⟨ao, c, rfl⟩ := own_slice (show w.ownsRow 0 _ 14 v l.length (fl lc l) from h.head)
  obtain ⟨g, rfl, _⟩ := own_some (show w.ownsRow 0 _ 14 (.slice ao l.length c) l.length (fl lc l) from h.head) (by omega)
  have Hfind := fun (w' : World) (o : Only w w' []) => find_any B l _ u d w' (h.quiet o) hl hr
  rw [hf, hp] at Hfind
  simp only [wv] at *
  clear hf hp hr
  have hlrow : ∀ w' : World, w'.ownsRow 0 76 14 (.slice (some ⟨g, 0, none⟩) l.length c) l.length (fl lc l) → w'.cell? ⟨g, k * 14 + 2, none⟩ = some (.bool true) ∧ w'.cell? ⟨g, k * 14 + 13, none⟩ = some x.v ∧ w'.rangeAt g (k * 14 + 3) (bc x.b) := fun w' h' => by
    refine ⟨?_, rec_cell lc_len h' hk 13 (by rw [hx]; rfl), fun j v hj => ?_⟩
    · have := rec_cell lc_len h' hk 2 (v := .bool l[k].on) rfl
      rw [hx, hon] at this
      exact this
    · rw [Nat.add_assoc]
      refine rec_cell lc_len h' hk (3 + j) ?_
      rw [hx, lc, Nat.add_comm]
      simp only [List.getElem?_cons_succ]
      rw [List.getElem?_append_left (List.getElem?_eq_some_iff.1 hj).1]
      exact hj
  have hkI : (k : Int) < l.length := by omega
  have hpk : (l.map ow)[k]? = some (ow x) := by rw [List.getElem?_map, List.getElem?_eq_getElem hk, hx]; rfl
  have howk : (ow x).ok w := many_ok (h.sel 3 [2]).head (List.mem_of_getElem? hpk)
  obtain ⟨av, cv, hv⟩ := own_slice (show w.ownsRow 0 40 10 x.v x.os.length (fl bc x.os) from howk)
  obtain ⟨gv, rfl, _⟩ := own_some (show w.ownsRow 0 40 10 (.slice av x.os.length cv) x.os.length (fl bc x.os) from by rw [← hv]; exact howk) (by rw [hos]; simp)
  have hol1 : x.os.length = os.length + 1 := by rw [hos]; rfl
  rw [hv, hol1] at hlrow
  have hlb := bc_len b
  have h1b := bc_arr b
  have hd10 : (fl bc x.os).drop 10 = fl bc os := by rw [hos, fl_cons, List.drop_append_of_le_length (by rw [bc_len]; exact Nat.le_refl _), List.drop_of_length_le (by rw [bc_len]; exact Nat.le_refl _), List.nil_append]
  have hone : ∀ u ∈ fl bc x.os, u.oneCell' = true := fl_one bc_one _
  have hvn : (Value.slice (some ⟨gv, 0, none⟩) os.length cv).oneCell' = true := rfl
  obtain ⟨x', hx'⟩ : ∃ x' : Li, x' = { x with v := .slice (some ⟨gv, 0, none⟩) os.length cv, os := os, ok := rfl } := ⟨_, rfl⟩
  have hset : setL (fl lc l) (k * 14 + 13) [.slice (some ⟨gv, 0, none⟩) os.length cv] = fl lc (l.set k x') := fl_cells lc_len hk 13 [.slice (some ⟨gv, 0, none⟩) os.length cv] (by simp) x' (by rw [hx', hx]; rfl)
  have hmany : (l.map ow).set k (ow x') = (l.set k x').map ow := by rw [List.map_set]
  have hox : ow x' = row 40 10 (.slice (some ⟨gv, 0, none⟩) os.length cv) os.length (fl bc os) := by rw [hx']; rfl
  have hx5 : x'.u = x.u ∧ x'.d = x.d ∧ x'.on = true ∧ x'.b = x.b ∧ x'.os = os := by rw [hx']; exact ⟨rfl, rfl, hon, rfl, rfl⟩
  have Hx5 := Lib.hid hx5
  have Hset := Lib.hid hset
  have Hmany := Lib.hid hmany
  have Hox := Lib.hid hox
  have hfll : (fl lc l).length = l.length * 14 := fl_len lc_len l
  clear hx' hset hmany hox hx5 howk
  have hpick : ∀ rs' w', Sep w0 w' (regR B (.slice (some ⟨g, 0, none⟩) l.length c) l rs') → Sep w0 w' (row 40 10 (.slice (some ⟨gv, 0, none⟩) (os.length + 1) cv) (os.length + 1) (fl bc x.os) :: many ((l.map ow).eraseIdx k) :: row 76 14 (.slice (some ⟨g, 0, none⟩) l.length c) l.length (fl lc l) :: blk B [.slice (some ⟨g, 0, none⟩) l.length c] 72 :: rs') := fun rs' w' h' => by
    have := (h'.sel 3 [2, 0, 1]).pick k hpk
    rw [← hol1, ← hv]
    exact this
  have hrow0 : ∀ rs' w', Sep w0 w' (regR B (.slice (some ⟨g, 0, none⟩) l.length c) l rs') → w'.rangeAt gv 0 (bc b) := fun rs' w' h' => by
    have hq := (hpick rs' w' h').head
    rw [← hol1] at hq
    have := rec_range bc_len (show w'.ownsRow 0 40 10 (.slice (some ⟨gv, 0, none⟩) x.os.length cv) x.os.length (fl bc x.os) from hq) (m := 0) (by omega)
    simp only [Nat.zero_mul] at this
    have e : x.os[0]'(by omega) = b := by simp [hos]
    rw [e] at this
    exact this
  go_enter Try.func14, Try.ntmps14
  go_wp2_with (first
    | (refine wpList_box_new rfl 30 _ rfl (.agg #[.int .i64 u, .int .i64 d]) rfl ?_; intro Z wZ oZ hZl hZ)
    | (refine wpList_alloc_new rfl 40 rfl (.agg (bc b0).toArray) (fun _ => by kernel_rfl) ?_; intro X wX oX hXl hX; have hZX := oX.at hZ (by simp); have hz0 := cell_two0 hZX; have hz1 := cell_two1 hZX))
  have sX := (h.quiet oZ).add (b := blk X (bc b0) 40) oX hX (fun k hk => by simp [blk] at hk; omega)
  refine (Hfind _ (oZ.trans oX)).mono ?_
  rintro e w1 ⟨rfl, o1⟩
  have s1 : Sep w0 w1 (regR B (.slice (some ⟨g, 0, none⟩) l.length c) l (blk X (bc b0) 40 :: rs)) := (sX.quiet o1).sel 4 [1, 2, 3, 0]
  obtain ⟨c2, c13, hrg⟩ := hlrow w1 s1.head
  have hBc := cell_of_one s1.tail.head
  have hr0 := hrow0 _ w1 s1
  clear hz0 hz1 hX hZX oX oZ Hfind sX h hZ o1
  go_wp2_with (first
    | (refine wpList_load_mid rfl 40 _ rfl gv 0 rfl (bc b) _ hr0 Try.underlying40 (by rfl) (by rw [hlb]; kernel_rfl) ?_)
    | (refine wpList_alloc_new rfl 40 rfl (.agg (bc b0).toArray) (fun _ => by kernel_rfl) ?_; intro Y wY oY hYl hY)
    | (refine wpList_store_blk rfl 40 _ _ rfl Y (bc b) rfl rfl hY rfl (by rw [hlb]; kernel_rfl) h1b ?_; intro wU oU hU; have s2 := s1.add (b := blk Y (bc b) 40) (oY.new oU (fun i hi => by simp only [List.mem_singleton] at hi; omega)) hU (fun k hk => by simp [blk] at hk; omega); have c13' := (hlrow wU (s2.sel 2 [1]).head).2.1; clear c2 c13 hrg hBc s1 oY oU hY hr0 hU))
  have s3 : Sep w0 wU (regR B (.slice (some ⟨g, 0, none⟩) l.length c) l (blk X (bc b0) 40 :: blk Y (bc b) 40 :: rs)) := s2.sel 5 [1, 2, 3, 4, 0]
  have q3 := hpick _ wU s3
  clear s2 s3
  refine (delete_front gv (os.length + 1) cv (fl bc x.os) wU q3 (by omega) (by omega) hone).mono ?_
  rw [hd10]
  rintro e w3 ⟨rfl, q4⟩
  simp only [Nat.add_sub_cancel] at q4
  rw [Nat.add_sub_cancel]
  have hln : w3.ownsRow 0 76 14 (.slice (some ⟨g, 0, none⟩) l.length c) l.length (fl lc l) := (q4.sel 3 [2]).head
  have c13 := (hlrow w3 hln).2.1
  have f13 := hln.frozenAt (k * 14 + 13)
  have s5 := (q4.sel 3 [2, 0, 1]).puts (k * 14 + 13) [.slice (some ⟨gv, 0, none⟩) os.length cv]
  rw [Hset.out] at s5
  have hY5 : (w3.setCell ⟨g, k * 14 + 13, none⟩ (.slice (some ⟨gv, 0, none⟩) os.length cv)).heap[Y]? = some (.cells (bc b).toArray 40 (0, 0)) := (s5.sel 6 [5]).head
  have hX5 : (w3.setCell ⟨g, k * 14 + 13, none⟩ (.slice (some ⟨gv, 0, none⟩) os.length cv)).heap[X]? = some (.cells (bc b0).toArray 40 (0, 0)) := (s5.sel 5 [4]).head
  clear c13' q3 q4 hln
  go_wp2_with (first
    | (refine wpList_load_blk rfl 40 _ rfl Y rfl (bc b) _ hY5 Try.underlying40 (by rfl) (by rw [hlb]; kernel_rfl) ?_)
    | (refine wpList_store_blk rfl 40 _ _ rfl X (bc b) rfl rfl hX5 rfl (by rw [hlb]; kernel_rfl) h1b ?_; intro wV oV hV))
  have s6 : Sep w0 wV (blk X (bc b) 40 :: row 76 14 (.slice (some ⟨g, 0, none⟩) l.length c) l.length (fl lc (l.set k x')) :: row 40 10 (.slice (some ⟨gv, 0, none⟩) os.length cv) os.length (fl bc os) :: many ((l.map ow).eraseIdx k) :: blk B [.slice (some ⟨g, 0, none⟩) l.length c] 72 :: blk Y (bc b) 40 :: rs) :=
    (s5.sel 6 [4, 0, 1, 2, 3, 5]).step (L := [X]) oV (fun k hk => .inl (by simpa [blk] using hk)) hV (fun k hk => .inl (by simpa [blk] using hk))
  have q7 : Sep w0 wV (ow x' :: many ((l.map ow).eraseIdx k) :: row 76 14 (.slice (some ⟨g, 0, none⟩) l.length c) l.length (fl lc (l.set k x')) :: blk B [.slice (some ⟨g, 0, none⟩) l.length c] 72 :: rs) := by
    rw [Hox.out]
    exact s6.sel 6 [2, 3, 1, 4]
  have q8 := q7.putk k (by simpa using hk)
  rw [Hmany.out] at q8
  have q9 : Sep w0 wV (regR B (.slice (some ⟨g, 0, none⟩) l.length c) (l.set k x') rs) := by
    simp only [regR]
    rw [List.length_set]
    exact q8.sel 3 [1, 2, 0]
  have d0 : wV.cell? ⟨X, 0, none⟩ = some (.int .i64 b.u) := cell_in hV 0
  have d1 : wV.cell? ⟨X, 1, none⟩ = some (.int .i64 b.d) := cell_in hV 1
  have d2 : wV.cell? ⟨X, 2, none⟩ = some (b.s1) := cell_in hV 2
  have d3 : wV.cell? ⟨X, 3, none⟩ = some (b.s2) := cell_in hV 3
  have d4 : wV.cell? ⟨X, 4, none⟩ = some (.int .u32 b.sg) := cell_in hV 4
  have d5 : wV.cell? ⟨X, 5, none⟩ = some (b.s3) := cell_in hV 5
  have d6 : wV.cell? ⟨X, 6, none⟩ = some (b.s4) := cell_in hV 6
  have d7 : wV.cell? ⟨X, 7, none⟩ = some (.bool b.has) := cell_in hV 7
  have d8 : wV.cell? ⟨X, 8, none⟩ = some (.int .u32 b.on) := cell_in hV 8
  have d9 : wV.cell? ⟨X, 9, none⟩ = some (b.s5) := cell_in hV 9
  clear hV hX5 hY5 s5 s6 q7 q8 c13 f13
  refine bodyPost_ret (v := .tuple #[.agg (bc b).toArray, .int .i64 0]) (by simp [results, Try.results14, go_sem, d0, d1, d2, d3, d4, d5, d6, d7, d8, d9]; try rfl) rfl ?_
  exact ⟨rfl, x', Hx5.out.1, Hx5.out.2.1, Hx5.out.2.2.1, Hx5.out.2.2.2.1, Hx5.out.2.2.2.2, q9⟩

set_option maxRecDepth 100000 in
set_option maxHeartbeats 1200000 in
theorem left_any {w0 : World} {rs : List Res} (B : Nat) (l : List Li) (v : Value) (u d : Int) (k : Nat) (x : Li) (w : World) (h : Sep w0 w (regR B v l rs)) (hl : l.length ≤ 1000000) (hr : Rise l)
    (hf : foundL l u d = true) (hp : placeL l u d = k) (hk : k < l.length) (hx : l[k] = x) (hon : x.on = true) :
    Calls Try.prog 15 #[.pointer (some ⟨B, 0, none⟩), wv u d] w fun e w' => e = .returned (.int .i64 x.os.length) ∧ Only w w' [] := by
  obtain ⟨ao, c, rfl⟩ := own_slice (show w.ownsRow 0 _ 14 v l.length (fl lc l) from h.head)
  obtain ⟨g, rfl, _⟩ := own_some (show w.ownsRow 0 _ 14 (.slice ao l.length c) l.length (fl lc l) from h.head) (by omega)
  have Hfind := fun (w' : World) (o : Only w w' []) => find_any B l _ u d w' (h.quiet o) hl hr
  rw [hf, hp] at Hfind
  simp only [wv] at *
  clear hf hp hr
  have hlrow : ∀ w' : World, w'.ownsRow 0 76 14 (.slice (some ⟨g, 0, none⟩) l.length c) l.length (fl lc l) → w'.cell? ⟨g, k * 14 + 2, none⟩ = some (.bool true) ∧ w'.cell? ⟨g, k * 14 + 13, none⟩ = some x.v ∧ w'.rangeAt g (k * 14 + 3) (bc x.b) := fun w' h' => by
    refine ⟨?_, rec_cell lc_len h' hk 13 (by rw [hx]; rfl), fun j v hj => ?_⟩
    · have := rec_cell lc_len h' hk 2 (v := .bool l[k].on) rfl
      rw [hx, hon] at this
      exact this
    · rw [Nat.add_assoc]
      refine rec_cell lc_len h' hk (3 + j) ?_
      rw [hx, lc, Nat.add_comm]
      simp only [List.getElem?_cons_succ]
      rw [List.getElem?_append_left (List.getElem?_eq_some_iff.1 hj).1]
      exact hj
  have hkI : (k : Int) < l.length := by omega
  have hpk : (l.map ow)[k]? = some (ow x) := by rw [List.getElem?_map, List.getElem?_eq_getElem hk, hx]; rfl
  have howk : (ow x).ok w := many_ok (h.sel 3 [2]).head (List.mem_of_getElem? hpk)
  obtain ⟨av, cv, hv⟩ := own_slice (show w.ownsRow 0 40 10 x.v x.os.length (fl bc x.os) from howk)
  rw [hv] at hlrow
  clear howk hpk
  have oZ := Only.alloc w (.cells #[.int .i64 u, .int .i64 d] 30) []
  go_enter Try.func15, Try.ntmps15
  go_wp2_with fail
  refine (Hfind _ oZ).mono ?_
  rintro e w1 ⟨rfl, o1⟩
  have s1 := h.quiet (oZ.trans o1)
  obtain ⟨c2, c13, hrg⟩ := hlrow w1 s1.head
  have hBc := cell_of_one s1.tail.head
  have oF := oZ.trans o1
  clear Hfind s1 o1 oZ hrg h
  go_wp2_with fail
  go_ret
  exact ⟨rfl, oF⟩
end Go.Proofs.Yteljkfihmbddaaa
