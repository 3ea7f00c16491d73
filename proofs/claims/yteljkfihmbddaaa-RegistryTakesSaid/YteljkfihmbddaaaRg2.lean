/- find, Is, All of layer 17 (registry). Printed by gen_rg2.py. -/
import Derived.Test.YteljkfihmbddaaaRg1
import Derived.Test.YteljkfihmbddaaaAps
namespace Go.Proofs.Yteljkfihmbddaaa
open Go.RowKit Go.Pw
set_option linter.unusedVariables false

set_option maxRecDepth 100000 in
set_option maxHeartbeats 1600000 in
theorem find_nil (u d : Int) (w : World) :
    Calls Try.prog 28 #[.pointer none, wv u d] w fun e w' => e = .returned (.tuple #[.int .i64 0, .bool false]) ∧ Only w w' [] := by
  simp only [wv]
  go_enter Try.func28, Try.ntmps28
  go_wp2_with fail
  refine bodyPost_ret (v := .tuple #[.int .i64 0, .bool false]) (by simp [results, Try.results28, go_sem]) rfl ?_
  exact ⟨rfl, Only.alloc _ _ _⟩

set_option maxRecDepth 100000 in
set_option maxHeartbeats 1600000 in
theorem find_any {w0 : World} {rs : List Res} (B : Nat) (l : List Li) (v : Value) (u d : Int) (w : World) (h : Sep w0 w (row 76 14 v l.length (fl lc l) :: blk B [v] 72 :: rs)) (hl : l.length ≤ 1000000) (hr : Rise l) :
    Calls Try.prog 28 #[.pointer (some ⟨B, 0, none⟩), wv u d] w fun e w' => e = .returned (.tuple #[.int .i64 (placeL l u d), .bool (foundL l u d)]) ∧ Only w w' [] := by
  obtain ⟨ao, c, rfl⟩ := own_slice (show w.ownsRow 0 _ 14 v l.length (fl lc l) from h.head)
  simp only [wv]
  have hW : (w.alloc (.cells #[.int .i64 u, .int .i64 d] 30)).heap[w.heap.size]? = some (.cells #[.int .i64 u, .int .i64 d] 30 (0, 0)) := heap_alloc_new w _
  have sB := h.quiet (Only.alloc w (.cells #[.int .i64 u, .int .i64 d] 30) [])
  have o1 := Only.alloc w (.cells #[.int .i64 u, .int .i64 d] 30) []
  clear h
  go_enter Try.func28, Try.ntmps28
  go_upto_region 3 with fail
  generalize w.alloc (.cells #[.int .i64 u, .int .i64 d] 30) = W at *
  generalize w.heap.size = A at *
  refine wp_region_held_drew (S := fun w' => Only W.drew w' []) (by kernel_rfl) (Only.refl _ _) (fun hHeld => ?_)
  refine' wpAnyH_take (i := 0) (v := _) (op_at rfl) (by kernel_rfl) (by kernel_rfl) (by kernel_rfl) (fun _ _ _ h => h) (Or.inl ⟨by rfl, ?hy1⟩) (by assumption) ?rest1
  case hy1 =>
    intro w' hS
    go_simp
    try with_reducible rfl
  try simp only [Act.put, List.setIfInBounds_toArray, List.set_cons_zero, List.set_cons_succ]
  refine' wpAnyH_take (i := 1) (v := _) (op_at rfl) (by kernel_rfl) (by kernel_rfl) (by kernel_rfl) (fun _ _ _ h => h) (Or.inl ⟨by rfl, ?hy2⟩) (by assumption) ?rest2
  case hy2 =>
    intro w' hS
    go_simp
    try with_reducible rfl
  try simp only [Act.put, List.setIfInBounds_toArray, List.set_cons_zero, List.set_cons_succ]
  refine' wpAnyH_take (i := 2) (v := _) (op_at rfl) (by kernel_rfl) (by kernel_rfl) (by kernel_rfl) (fun _ _ _ h => h) (Or.inl ⟨by rfl, ?hy3⟩) (by assumption) ?rest3
  case hy3 =>
    intro w' hS
    go_simp
    try with_reducible rfl
  try simp only [Act.put, List.setIfInBounds_toArray, List.set_cons_zero, List.set_cons_succ]
  refine' wpAnyH_take (i := 3) (v := _) (op_at rfl) (by kernel_rfl) (by kernel_rfl) (by kernel_rfl) (fun _ _ _ h => h) (Or.inl ⟨by rfl, ?hy4⟩) (by assumption) ?rest4
  case hy4 =>
    intro w' hS
    have hc0 := cell_of_one ((sB.quiet ((Only.drew W []).trans hS)).tail.head)
    go_simp
    try with_reducible rfl
  try simp only [Act.put, List.setIfInBounds_toArray, List.set_cons_zero, List.set_cons_succ]
  refine' wpAnyH_take (i := 4) (v := _) (op_at rfl) (by kernel_rfl) (by kernel_rfl) (by kernel_rfl) (fun _ _ _ h => h) (Or.inl ⟨by rfl, ?hy5⟩) (by assumption) ?rest5
  case hy5 =>
    intro w' hS
    have ht := ((Only.drew W []).trans hS).at hW (by simp)
    have ht0 := cell_two0 ht
    have ht1 := cell_two1 ht
    go_simp
    try with_reducible rfl
  try simp only [Act.put, List.setIfInBounds_toArray, List.set_cons_zero, List.set_cons_succ]
  refine wpAnyH_ready (rs := [5]) (by kernel_rfl) (by simp) (AllReadyH.cons (op_at rfl) (fun K hK => ?_) AllReadyH.nil)
  go_simp
  refine (search_any l _ u d _ (sB.quiet ((Only.drew W []).trans hHeld)) hl hr).mono fun e w3 hq => ?_
  obtain ⟨rfl, o3⟩ := hq
  go_wp2_with fail
  refine hK.out _ _ o3 (fun hHeld => ?_)
  clear hK K
  try simp only [Act.put, List.setIfInBounds_toArray, List.set_cons_zero, List.set_cons_succ]
  refine' wpAnyH_take (i := 6) (v := _) (op_at rfl) (by kernel_rfl) (by kernel_rfl) (by kernel_rfl) (fun _ _ _ h => h) (Or.inl ⟨by rfl, ?hy6⟩) (by assumption) ?rest6
  case hy6 =>
    intro w' hS
    go_simp
    try with_reducible rfl
  try simp only [Act.put, List.setIfInBounds_toArray, List.set_cons_zero, List.set_cons_succ]
  refine' wpAnyH_take (i := 7) (v := _) (op_at rfl) (by kernel_rfl) (by kernel_rfl) (by kernel_rfl) (fun _ _ _ h => h) (Or.inl ⟨by rfl, ?hy7⟩) (by assumption) ?rest7
  case hy7 =>
    intro w' hS
    go_simp
    try with_reducible rfl
  try simp only [Act.put, List.setIfInBounds_toArray, List.set_cons_zero, List.set_cons_succ]
  refine' wpAnyH_take (i := 8) (v := _) (op_at rfl) (by kernel_rfl) (by kernel_rfl) (by kernel_rfl) (fun _ _ _ h => h) (Or.inl ⟨by rfl, ?hy8⟩) (by assumption) ?rest8
  case hy8 =>
    intro w' hS
    go_simp
    try with_reducible rfl
  try simp only [Act.put, List.setIfInBounds_toArray, List.set_cons_zero, List.set_cons_succ]
  refine' wpAnyH_take (i := 9) (v := _) (op_at rfl) (by kernel_rfl) (by kernel_rfl) (by kernel_rfl) (fun _ _ _ h => h) (Or.inl ⟨by rfl, ?hy9⟩) (by assumption) ?rest9
  case hy9 =>
    intro w' hS
    go_simp
    try with_reducible rfl
  try simp only [Act.put, List.setIfInBounds_toArray, List.set_cons_zero, List.set_cons_succ]
  refine wpAnyH_done (by kernel_rfl) ?_ _
  go_wp2_with fail
  refine bodyPost_ret (v := .tuple #[.int .i64 (placeL l u d), .bool (foundL l u d)]) (by simp [results, Try.results28, go_sem]) rfl ?_
  exact ⟨rfl, o1.trans ((Only.drew W []).trans hHeld)⟩

/-- Is a device there? -/
def isL (l : List Li) (u d : Int) : Bool := foundL l u d && (match l[placeL l u d]? with | some x => x.on | none => false)

theorem is_nil (u d : Int) (w : World) :
    Calls Try.prog 25 #[.pointer none, wv u d] w fun e w' => e = .returned (.bool false) ∧ Only w w' [] := by
  simp only [wv]
  go_enter Try.func25, Try.ntmps25
  go_wp2_with fail
  refine (find_nil u d _).mono ?_
  rintro e w1 ⟨rfl, o1⟩
  go_wp2_with fail
  go_ret
  exact ⟨rfl, (Only.alloc _ _ _).trans o1⟩

set_option maxRecDepth 100000 in
set_option maxHeartbeats 1600000 in
theorem is_any {w0 : World} {rs : List Res} (B : Nat) (l : List Li) (v : Value) (u d : Int) (w : World) (h : Sep w0 w (row 76 14 v l.length (fl lc l) :: blk B [v] 72 :: rs)) (hl : l.length ≤ 1000000) (hr : Rise l) :
    Calls Try.prog 25 #[.pointer (some ⟨B, 0, none⟩), wv u d] w fun e w' => e = .returned (.bool (isL l u d)) ∧ Only w w' [] := by
  obtain ⟨ao, c, rfl⟩ := own_slice (show w.ownsRow 0 _ 14 v l.length (fl lc l) from h.head)
  have oA := Only.alloc w (.cells #[.int .i64 u, .int .i64 d] 30) []
  have sB := h.quiet oA
  clear h
  have Hfind := find_any B l _ u d _ sB hl hr
  have hI : isL l u d = (foundL l u d && (match l[placeL l u d]? with | some x => x.on | none => false)) := rfl
  simp only [wv] at *
  rw [hI]
  clear hI
  cases hf : foundL l u d with
  | true =>
    obtain ⟨hk, _⟩ := found_at hf
    rw [hf] at Hfind
    rw [List.getElem?_eq_getElem hk]
    simp only [Bool.true_and]
    generalize placeL l u d = k at *
    obtain ⟨g, rfl, _⟩ := own_some (show (w.alloc (.cells #[.int .i64 u, .int .i64 d] 30)).ownsRow 0 _ 14 (.slice ao l.length c) l.length (fl lc l) from sB.head) (by omega)
    have hE := fun w1 (h1 : Sep w0 w1 (row 76 14 (.slice (some ⟨g, 0, none⟩) l.length c) l.length (fl lc l) :: blk B [.slice (some ⟨g, 0, none⟩) l.length c] 72 :: rs)) => rec_cell lc_len h1.head hk 2 (v := .bool l[k].on) rfl
    generalize l[k] = x at *
    go_enter Try.func25, Try.ntmps25
    go_wp2_with fail
    refine Hfind.mono ?_
    rintro e w1 ⟨rfl, o1⟩
    have s1 := sB.quiet o1
    have hc := hE w1 s1
    have hBc := cell_of_one s1.tail.head
    have oF := oA.trans o1
    clear sB hE s1 o1 oA
    go_wp2_with fail
    go_ret
    exact ⟨rfl, oF⟩
  | false =>
    rw [hf] at Hfind
    simp only [Bool.false_and]
    go_enter Try.func25, Try.ntmps25
    go_wp2_with fail
    refine Hfind.mono ?_
    rintro e w1 ⟨rfl, o1⟩
    have oF := oA.trans o1
    clear sB o1 oA
    go_wp2_with fail
    go_ret
    exact ⟨rfl, oF⟩

/-- A new row of devices. -/
def Whos (ws : List (Int × Int)) (w : World) (e : Ending) (w' : World) : Prop := ∃ ao c, e = .returned (.slice ao ws.length c) ∧ Sep w w' [row 30 2 (.slice ao ws.length c) ws.length (fl wc ws)]
theorem who_info : (Try.prog.info? 30).map (fun i => (i.zero, i.size, i.bytes)) = some (some (.agg #[.int .i64 0, .int .i64 0]), 2, 16) := by kernel_rfl
theorem whos_nil (w : World) : Sep w w [row 30 2 (.slice none 0 0) ([] : List (Int × Int)).length (fl wc [])] := (Sep.nil w).rown _ _

theorem all_nil (w : World) :
    Calls Try.prog 26 #[.pointer none] w fun e w' => e = .returned (.slice none 0 0) ∧ Only w w' [] := by
  go_enter Try.func26, Try.ntmps26
  go_wp2_with fail
  go_ret
  exact ⟨rfl, Only.refl _ _⟩

def lineZ : Value := .agg (lc ⟨0, 0, false, b0, .slice none 0 0, [], rfl⟩).toArray
def keys (l : List Li) : List (Int × Int) := l.map fun x => (x.u, x.d)

set_option maxRecDepth 100000 in
set_option maxHeartbeats 3200000 in
theorem all_any {w0 : World} {rs : List Res} (B : Nat) (l : List Li) (v : Value) (w : World) (h : Sep w0 w (row 76 14 v l.length (fl lc l) :: blk B [v] 72 :: rs)) (hl : l.length ≤ 1000000) :
    Calls Try.prog 26 #[.pointer (some ⟨B, 0, none⟩)] w (Whos (keys l) w) := by
  obtain ⟨i0, hi, hz0, hz1, hz2⟩ := info_parts who_info
  obtain ⟨ao, c, rfl⟩ := own_slice (show w.ownsRow 0 _ 14 v l.length (fl lc l) from h.head)
  have hBc := cell_of_one h.tail.head
  go_enter Try.func26, Try.ntmps26
  go_wp2_with fail
  clear hBc
  go_loopw [3, 13] (fun x y wr => ∃ (k : Nat) (a1 : Option Addr) (c1 : Nat), x = .slice a1 k c1 ∧ y = .int .i64 k ∧ k ≤ l.length ∧ Sep w wr [row 30 2 (.slice a1 k c1) k (fl wc (keys (l.take k)))]) (fun _ y _ => l.length - (intOf y).toNat)
  case atStart => exact ⟨0, none, 0, rfl, rfl, Nat.zero_le _, whos_nil w⟩
  case round =>
    obtain ⟨k, a1, c1, rfl, rfl, hk, hs⟩ := hrel
    by_cases hkl : k < l.length
    · have d1 : decide ((k : Int) < l.length) = true := by simpa using hkl
      obtain ⟨g, rfl, _⟩ := own_some (show w.ownsRow 0 _ 14 (.slice ao l.length c) l.length (fl lc l) from h.head) (by omega)
      have hrng : wr.rangeAt g (k * 14) (lc l[k]) := rec_range lc_len (h.quiet hs.only).head hkl
      have htk : Hid (fl wc (keys (l.take k)) ++ wc (l[k].u, l[k].d) = fl wc (keys (l.take (k + 1)))) := by
        show _ = _
        rw [List.take_succ_eq_append_getElem hkl, keys, keys, List.map_append, fl_app]
        rfl
      generalize l[k] = x at *
      have h1c := lc_arr x
      have g0 : (lc x).toArray[0]? = some (.int .i64 x.u) := rfl
      have g1 : (lc x).toArray[1]? = some (.int .i64 x.d) := rfl
      have hll := lc_len x
      generalize lc x = cs at *
      go_wp2_with (first
        | (refine wpList_load_mid rfl 76 _ rfl g (k * 14) rfl cs _ hrng Try.underlying76 (by rfl) (by rw [hll]; kernel_rfl) ?_)
        | (refine wpList_alloc_new rfl 76 rfl lineZ (fun _ => by kernel_rfl) ?_; intro X wX oX hXl hX)
        | (refine wpList_store_blk rfl 76 _ _ rfl X cs rfl rfl hX hll.symm (by rw [hll]; kernel_rfl) h1c ?_; intro wY oY hY; have hs2 := hs.quiet (oX.new oY (fun i hi => by simp only [List.mem_singleton] at hi; omega)); have hy0 := (cell_in hY 0).trans g0; have hy1 := (cell_in hY 1).trans g1; clear hs hX oX oY hY)
        | (at_builtin; refine wpList_append_sep rfl _ _ 31 rfl 30 i0 _ 2 16 Try.underlying31 hi hz0 hz1 hz2 rfl (by decide) (.slice a1 k c1) k _ rfl (hs2.quiet (Only.alloc _ (.cells #[.int .i64 x.u, .int .i64 x.d] 30) [])) _ 1 (wc (x.u, x.d)) rfl (src_lit _ [.int .i64 x.u, .int .i64 x.d] _ 1 2 rfl) (wc_one _) (by unfold maxLen; omega) (by omega) ?_; intro a7 c7 w7 o7 s7; rw [htk.out] at s7))
      exact ⟨⟨k + 1, a7, c7, rfl, by simp, by omega, s7⟩, by simp [intOf]; omega⟩
    · obtain rfl : k = l.length := by omega
      have d1 : decide ((l.length : Int) < l.length) = false := by simp
      have hn : Hid ((keys l).length = l.length) := by simp [Hid, keys]
      rw [List.take_length] at hs
      go_wp2_with fail
      go_ret
      exact ⟨a1, c1, by rw [hn.out]; rfl, by rw [hn.out]; exact hs⟩
end Go.Proofs.Yteljkfihmbddaaa
