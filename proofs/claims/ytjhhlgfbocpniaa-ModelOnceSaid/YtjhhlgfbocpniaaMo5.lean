/- Send, Lose, Take of layer 25 (model), with one message at most. Printed by gen_mo5.py. -/
import Derived.Test.YtjhhlgfbocpniaaMo4
namespace Go.Pw
open Go.RowKit
set_option linter.unusedVariables false
theorem setL_mid (pre suf : List Value) : ∀ (us mid : List Value) (j : Nat), j + us.length ≤ mid.length → setL (pre ++ mid ++ suf) (pre.length + j) us = pre ++ setL mid j us ++ suf
  | [], mid, j, _ => rfl
  | u :: us, mid, j, h => by
    simp only [List.length_cons] at h
    have e : (pre ++ mid ++ suf).set (pre.length + j) u = pre ++ mid.set j u ++ suf := by
      rw [List.set_append_left _ _ (by simp; omega), List.set_append_right _ _ (by omega)]
      congr 2
      congr 1
      omega
    simp only [setL]
    rw [e, Nat.add_assoc]
    exact setL_mid pre suf us (mid.set j u) (j + 1) (by rw [List.length_set]; omega)
/-- The one record of a row. -/
theorem one_cell {α : Type} {enc : α → List Value} {w : World} {e k g c : Nat} (hk : ∀ x, (enc x).length = k) {x : α} (h : w.ownsRow 0 e k (.slice (some ⟨g, 0, none⟩) 1 c) 1 (fl enc [x])) (j : Nat) {v : Value} (hj : (enc x)[j]? = some v) : w.cell? ⟨g, j, none⟩ = some v := by
  have hj' : j < k := by have := (List.getElem?_eq_some_iff.1 hj).1; rwa [hk] at this
  rw [h.cellAt j (by omega), fl_cons, fl_nil, List.append_nil]
  exact hj
end Go.Pw
namespace Go.Proofs.Ytjhhlgfbocpniaa
open Go.RowKit Go.Pw
set_option linter.unusedVariables false

theorem note_infob : (Try.prog.info? 50).map (fun i => (i.zero, i.size, i.bytes)) = some (some (.agg (nc noteZ).toArray), 9, 112) := by kernel_rfl
/-- A message that is new. -/
def noteN (u d n to : Int) (t : Value) (ht : t.oneCell' = true) : No := ⟨u, d, n, to, t, false, false, .slice none 0 0, .slice none 0 0, ⟨ht, rfl, rfl⟩⟩
/-- What Send leaves. -/
def Sent (w0 : World) (rs : List Res) (B : Nat) (on : List (Int × Int)) (cs : List Int) (v : Value) (u d to : Int) (xs : List Int) (e : Ending) (w' : World) : Prop :=
  e = .returned (.int .i64 0) ∧ ∃ a c g k, ∃ x : No, x.fu = u ∧ x.fd = d ∧ x.n = 1 ∧ x.to = to ∧ x.t = .slice a xs.length c ∧ x.tk = false ∧ x.ls = false ∧ x.av = .slice none 0 0 ∧ x.cv = .slice none 0 0 ∧
    Sep w0 w' (modR B v on cs (.slice (some ⟨g, 0, none⟩) 1 k) [x] (row 5 1 (.slice a xs.length c) xs.length (xs.map (Value.int .u8)) :: rs))

set_option maxRecDepth 100000 in
set_option maxHeartbeats 1600000 in
theorem send_ok {w0 : World} {rs : List Res} (B : Nat) (on : List (Int × Int)) (cs : List Int) (v nv : Value) (u d to : Int) (tv : Value) (xs : List Int) (w : World) (h : Sep w0 w (modR B v on cs nv [] rs)) (hc8 : cs.length = 8) (hl : on.length ≤ 1000) (his : hasW on u d = true) (hto : 0 ≤ to ∧ to < 8)
    (ht : Pw.Src w tv 1 xs.length (xs.map (Value.int .u8))) (hx : xs.length ≤ 256) :
    Calls Try.prog 7 #[.pointer (some ⟨B, 0, none⟩), wv u d, .int .u32 1, .int .i64 to, tv] w (Sent w0 rs B on cs v u d to xs) := by
  obtain ⟨i0, hi, hz0, hz1, hz2⟩ := info_parts note_infob
  obtain ⟨ao, c, rfl, _⟩ := id ht
  have hml := mb_len v cs nv hc8
  have hset := Lib.hid (fun nv' => mb_set9 v cs nv nv' hc8)
  have h9 := mb_9 v cs nv hc8
  obtain ⟨an, cn, hnv⟩ := own_slice (show w.ownsRow 0 50 9 nv ([] : List No).length (fl nc []) from h.tail.tail.head)
  simp only [List.length_nil] at hnv
  have His := fun (w' : World) (o : Only w w' []) => is_any B on cs v nv u d w' (h.quiet o) hl
  rw [his] at His
  have d1 : decide (to < 0) = false := by simp; omega
  have d2 : decide (8 ≤ to) = false := by simp; omega
  have d3 : decide ((256 : Int) < (xs.length : Int)) = false := by simp; omega
  have hnv0 : (mb v cs nv).toArray[9]? = some (.slice an 0 cn) := h9.trans (by rw [hnv])
  simp only [wv] at *
  go_enter Try.func7, Try.ntmps7
  clear hnv h9
  go_wp2_with ((refine wpList_box_new rfl 27 _ rfl (.agg #[.int .i64 u, .int .i64 d]) rfl ?_; intro Z wZ oZ hZl hZb; have ht0 := cell_two0 hZb; have ht1 := cell_two1 hZb))
  refine (His _ oZ).mono ?_
  rintro e w1 ⟨rfl, o1⟩
  have s1 : Sep w0 w1 (blk Z [.int .i64 u, .int .i64 d] 27 :: modR B v on cs nv [] rs) := (h.add oZ hZb (fun k hk => by simp [blk] at hk; omega)).quiet o1
  have tx := ht.off (oZ.trans o1) (fun _ _ _ => by simp)
  clear h His ht0 ht1 hZb o1 oZ ht
  have hBc := ((cell_in (show w1.heap[B]? = _ from (s1.sel 3 [2]).head) 9).trans hnv0)
  go_wp2_with fail
  clear hBc
  go_loopw [11, 13, 27] (fun a _ i wr => a = .int .u32 0 ∧ i = .int .i64 0 ∧ w1 = wr) (fun _ _ _ _ => 0)
  case atStart => exact ⟨rfl, rfl, rfl⟩
  case round =>
    obtain ⟨rfl, rfl, rfl⟩ := hrel
    have h9 := mb_9 v cs nv hc8
    clear hnv0
    go_upto_region 14 with fail
    have hZb : w1.heap[Z]? = some (.cells #[.int .i64 u, .int .i64 d] 27 (0, 0)) := s1.head
    have hB3 : w1.heap[B]? = some (.cells (mb v cs nv).toArray 44 (0, 0)) := (s1.sel 3 [2]).head
    have hBg : B ∉ nv.ownBlock.toList := fun hk => s1.two_at (i := 3) (j := 2) rfl rfl (by decide) B hk (by simp [blk])
    have hZg : Z ∉ nv.ownBlock.toList := fun hk => s1.two_at (i := 3) (j := 0) rfl rfl (by decide) Z hk (by simp [blk])
    have hlen : ∀ k ∈ nv.ownBlock.toList, k < w1.heap.size := fun k hk => (row 50 9 nv ([] : List No).length (fl nc [])).lt w1 (s1.sel 4 [3]).head k hk
    have sD : Sep w0 w1.drew (row 50 9 nv 0 (fl nc []) :: blk B (mb v cs nv) 44 :: row 27 2 v on.length (fl wc on) :: blk Z [.int .i64 u, .int .i64 d] 27 :: rs) := (s1.quiet (Only.drew w1 [])).sel 4 [3, 2, 1, 0]
    have tD := Lib.hid (tx.off (Only.drew w1 []) (fun _ _ _ => by simp))
    clear s1 tx
    refine wp_region_t (S := fun w' => Only w1.drew w' nv.ownBlock.toList) 15 (by kernel_rfl) (by kernel_rfl) (Only.refl _ _) (fun hZ hHeld => ?_)
    refine' wpAnyT_take (i := 0) (v := _) hZ (op_at' rfl) (by rfl) (by kernel_rfl) (by kernel_rfl) (by kernel_rfl) (by kernel_rfl) (fun _ _ _ h => h) (Or.inl ⟨by rfl, ?hy1⟩) (by assumption) ?rest1
    case hy1 =>
      intro w' hS
      go_simp
      try with_reducible rfl
    try simp only [Act.put, List.setIfInBounds_toArray, List.set_cons_zero, List.set_cons_succ]
    refine' wpAnyT_take (i := 1) (v := _) hZ (op_at' rfl) (by rfl) (by kernel_rfl) (by kernel_rfl) (by kernel_rfl) (by kernel_rfl) (fun _ _ _ h => h) (Or.inl ⟨by rfl, ?hy2⟩) (by assumption) ?rest2
    case hy2 =>
      intro w' hS
      go_simp
      try with_reducible rfl
    try simp only [Act.put, List.setIfInBounds_toArray, List.set_cons_zero, List.set_cons_succ]
    refine' wpAnyT_take (i := 2) (v := _) hZ (op_at' rfl) (by rfl) (by kernel_rfl) (by kernel_rfl) (by kernel_rfl) (by kernel_rfl) (fun _ _ _ h => h) (Or.inl ⟨by rfl, ?hy3⟩) (by assumption) ?rest3
    case hy3 =>
      intro w' hS
      go_simp
      try with_reducible rfl
    try simp only [Act.put, List.setIfInBounds_toArray, List.set_cons_zero, List.set_cons_succ]
    refine' wpAnyT_take (i := 3) (v := _) hZ (op_at' rfl) (by rfl) (by kernel_rfl) (by kernel_rfl) (by kernel_rfl) (by kernel_rfl) (fun _ _ _ h => h) (Or.inl ⟨by rfl, ?hy4⟩) (by assumption) ?rest4
    case hy4 =>
      intro w' hS
      go_simp
      try with_reducible rfl
    try simp only [Act.put, List.setIfInBounds_toArray, List.set_cons_zero, List.set_cons_succ]
    refine' wpAnyT_take (i := 4) (v := _) hZ (op_at' rfl) (by rfl) (by kernel_rfl) (by kernel_rfl) (by kernel_rfl) (by kernel_rfl) (fun _ _ _ h => h) (Or.inl ⟨by rfl, ?hy5⟩) (by assumption) ?rest5
    case hy5 =>
      intro w' hS
      have hb := (cell_in (hS.at (show w1.drew.heap[B]? = _ from hB3) hBg) 9).trans h9
      go_simp
      try with_reducible rfl
    try simp only [Act.put, List.setIfInBounds_toArray, List.set_cons_zero, List.set_cons_succ]
    refine' wpAnyT_take (i := 5) (v := _) hZ (op_at' rfl) (by rfl) (by kernel_rfl) (by kernel_rfl) (by kernel_rfl) (by kernel_rfl) (fun _ _ _ h => h) (Or.inl ⟨by rfl, ?hy6⟩) (by assumption) ?rest6
    case hy6 =>
      intro w' hS
      have hZ_ := hS.at (show w1.drew.heap[Z]? = _ from hZb) hZg
      have ht0 := cell_two0 hZ_
      have ht1 := cell_two1 hZ_
      go_simp
      try with_reducible rfl
    try simp only [Act.put, List.setIfInBounds_toArray, List.set_cons_zero, List.set_cons_succ]
    refine' wpAnyT_take (i := 6) (v := _) hZ (op_at' rfl) (by rfl) (by kernel_rfl) (by kernel_rfl) (by kernel_rfl) (by kernel_rfl) (fun _ _ _ h => h) (Or.inl ⟨by rfl, ?hy7⟩) (by assumption) ?rest7
    case hy7 =>
      intro w' hS
      go_simp
      try with_reducible rfl
    try simp only [Act.put, List.setIfInBounds_toArray, List.set_cons_zero, List.set_cons_succ]
    refine' wpAnyT_take (i := 7) (v := _) hZ (op_at' rfl) (by rfl) (by kernel_rfl) (by kernel_rfl) (by kernel_rfl) (by kernel_rfl) (fun _ _ _ h => h) (Or.inl ⟨by rfl, ?hy8⟩) (by assumption) ?rest8
    case hy8 =>
      intro w' hS
      go_simp
      try with_reducible rfl
    try simp only [Act.put, List.setIfInBounds_toArray, List.set_cons_zero, List.set_cons_succ]
    refine' wpAnyT_take (i := 8) (v := _) hZ (op_at' rfl) (by rfl) (by kernel_rfl) (by kernel_rfl) (by kernel_rfl) (by kernel_rfl) (fun _ _ _ h => h) (Or.inl ⟨by rfl, ?hy9⟩) (by assumption) ?rest9
    case hy9 =>
      intro w' hS
      go_simp
      try with_reducible rfl
    try simp only [Act.put, List.setIfInBounds_toArray, List.set_cons_zero, List.set_cons_succ]
    refine wpAnyT_one (i := 9) (by kernel_rfl) (op_at' rfl) (fun K hK => ?_)
    go_simp
    refine (bclone_any _ xs _ tD.out (by omega)).mono fun e w9 hq => ?_
    obtain ⟨ab, cb, rfl, s9⟩ := hq
    go_wp2_with fail
    refine hK.out _ _ (s9.only.mono (by simp)) (fun hHeld => ?_)
    clear hK K
    try simp only [Act.put, List.setIfInBounds_toArray, List.set_cons_zero, List.set_cons_succ]
    refine' wpAnyT_take (i := 10) (v := _) hZ (op_at' rfl) (by rfl) (by kernel_rfl) (by kernel_rfl) (by kernel_rfl) (by kernel_rfl) (fun _ _ _ h => h) (Or.inl ⟨by rfl, ?hy10⟩) (by assumption) ?rest10
    case hy10 =>
      intro w' hS
      go_simp
      try with_reducible rfl
    try simp only [Act.put, List.setIfInBounds_toArray, List.set_cons_zero, List.set_cons_succ]
    refine wpAnyT_one (i := 11) (by kernel_rfl) (op_at' rfl) (fun K hK => ?_)
    refine step_buildSlice_one (by rfl) 42 _ (by rfl) 50 i0 _ (nc (noteN u d 1 to (.slice ab xs.length cb) rfl)) (by rfl) Try.underlying42 hi hz0 (by rw [hz1, nc_len]) (by rw [nc_len]; rfl) (by rw [nc_len]; decide) (by rw [nc_len]; decide) (fun Y wS oS hYl hYS => ?_)
    go_wp2_with fail
    refine hK.out _ _ ((s9.only.trans oS).mono (by simp)) (fun hHeld => ?_)
    clear hK K
    try simp only [Act.put, List.setIfInBounds_toArray, List.set_cons_zero, List.set_cons_succ]
    refine wpAnyT_one (i := 12) (by kernel_rfl) (op_at' rfl) (fun K hK => ?_)
    refine step_append_sep (by rfl) _ _ 42 (by rfl) 50 i0 _ 9 112 Try.underlying42 hi hz0 hz1 hz2 (by rfl) (by decide) nv 0 _ (by rfl) (((sD.plus s9).sel 5 [1, 2, 3, 0, 4]).quiet oS) _ 1 (nc (noteN u d 1 to (.slice ab xs.length cb) rfl)) (by rfl) (src_blk hYS (by rw [nc_len])) (nc_one _) (by unfold maxLen; omega) (by omega) (fun a12 c12 w12 o12 s12 => ?_)
    go_wp2_with fail
    refine hK.out _ _ (((s9.only.trans oS).mono (by simp)).trans o12) (fun hHeld => ?_)
    clear hK K
    try simp only [Act.put, List.setIfInBounds_toArray, List.set_cons_zero, List.set_cons_succ]
    refine' wpAnyT_take (i := 13) (v := _) hZ (op_at' rfl) (by rfl) (by kernel_rfl) (by kernel_rfl) (by kernel_rfl) (by kernel_rfl) (fun _ _ _ h => h) (Or.inl ⟨by rfl, ?hy11⟩) (by assumption) ?rest11
    case hy11 =>
      intro w' hS
      go_simp
      try with_reducible rfl
    try simp only [Act.put, List.setIfInBounds_toArray, List.set_cons_zero, List.set_cons_succ]
    refine' wpAnyT_take (i := 14) (v := _) hZ (op_at' rfl) (by rfl) (by kernel_rfl) (by kernel_rfl) (by kernel_rfl) (by kernel_rfl) (fun _ _ _ h => h) (Or.inl ⟨by rfl, ?hy12⟩) (by assumption) ?rest12
    case hy12 =>
      intro w' hS
      go_simp
      try with_reducible rfl
    try simp only [Act.put, List.setIfInBounds_toArray, List.set_cons_zero, List.set_cons_succ]
    refine wpAnyT_last (by kernel_rfl) (op_at' rfl) (by kernel_rfl) (fun K hK => ?_)
    refine step_store_blk (by rfl) 42 _ _ (by rfl) B 9 (.slice a12 (0 + 1) c12) [.slice a12 (0 + 1) c12] (mb v cs nv) 44 (by rfl) (by rfl) (by rfl) (s12.sel 2 [1, 0]) (by rw [hml]; simp) (by kernel_rfl) (by simp [Value.oneCell']) (fun w15 o15 s15 => ?_)
    go_wp2_with fail
    refine hK.out _ _ ?_
    clear hK K
    try simp only [Act.put, List.setIfInBounds_toArray, List.set_cons_zero, List.set_cons_succ]
    rw [hset.out] at s15
    have s16 : Sep w0 w15 (modR B v on cs (.slice a12 (0 + 1) c12) [noteN u d 1 to (.slice ab xs.length cb) rfl] (row 5 1 (.slice ab xs.length cb) xs.length (xs.map (Value.int .u8)) :: rs)) := by
      simp only [fl_nil, List.nil_append] at s15
      have e1 : fl nc [noteN u d 1 to (.slice ab xs.length cb) rfl] = nc (noteN u d 1 to (.slice ab xs.length cb) rfl) := by rw [fl_cons, fl_nil, List.append_nil]
      rw [← e1] at s15
      exact s15.sel 5 [2, 0, 1, 3]
    obtain ⟨g, hg, _⟩ := own_some (show w15.ownsRow 0 50 9 (.slice a12 (0 + 1) c12) 1 _ from (s16.sel 3 [2]).head) (by decide)
    subst hg
    clear s15 sD hZb hB3 hBg hZg hlen tD
    go_wp2_with fail
    go_ret
    exact ⟨rfl, ab, cb, g, c12, noteN u d 1 to (.slice ab xs.length cb) rfl, rfl, rfl, rfl, rfl, rfl, rfl, rfl, rfl, rfl, s16⟩
end Go.Proofs.Ytjhhlgfbocpniaa
