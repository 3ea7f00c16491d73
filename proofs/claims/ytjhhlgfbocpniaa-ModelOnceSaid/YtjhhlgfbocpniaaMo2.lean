/- How a Model of layer 25 (model) lies; is, List, Audience. Printed by gen_mo2.py. -/
import Derived.Test.YtjhhlgfbocpniaaMo1
namespace Go.Pw
open Go.RowKit
/-- What another call made stands beside what was there. -/
theorem Sep.plus {w0 w w' : World} {rs rs' : List Res} (h : Sep w0 w rs) (h' : Sep w w' rs') : Sep w0 w' (rs' ++ rs) := by
  refine ⟨h.only.trans h'.only, fun r hr => ?_, fun r hr k hk => ?_, List.pairwise_append.2 ⟨h'.apart, h.apart, fun a ha b hb k hk hkb => ?_⟩⟩
  · rcases List.mem_append.1 hr with hr | hr
    · exact h'.ok r hr
    · exact Res.only (h.ok r hr) h'.only (by simp)
  · rcases List.mem_append.1 hr with hr | hr
    · have := h'.new r hr k hk
      have := h.only.size
      omega
    · exact h.new r hr k hk
  · have h1 := h'.new a ha k hk
    have h2 := b.lt w (h.ok b hb) k hkb
    omega
end Go.Pw
namespace Go.Proofs.Ytjhhlgfbocpniaa
open Go.RowKit Go.Pw
set_option linter.unusedVariables false

/-- A message as it lies. -/
structure No where
  fu : Int
  fd : Int
  n : Int
  to : Int
  t : Value
  tk : Bool
  ls : Bool
  av : Value
  cv : Value
  ok : t.oneCell' = true ∧ av.oneCell' = true ∧ cv.oneCell' = true
def nc (x : No) : List Value := [.int .i64 x.fu, .int .i64 x.fd, .int .u32 x.n, .int .i64 x.to, x.t, .bool x.tk, .bool x.ls, x.av, x.cv]
theorem nc_len (x : No) : (nc x).length = 9 := rfl
theorem nc_one (x : No) : ∀ u ∈ nc x, u.oneCell' = true := by
  obtain ⟨h1, h2, h3⟩ := x.ok
  intro u hu
  simp only [nc, List.mem_cons, List.not_mem_nil, or_false] at hu
  rcases hu with rfl | rfl | rfl | rfl | rfl | rfl | rfl | rfl | rfl <;> first | assumption | rfl
theorem nc_arr (x : No) : (nc x).toArray.all (·.oneCell') = true := all_oneCell_toArray (nc_one x)
/-- A Model's cells: who is there, how many came of each user, messages. -/
def mb (v : Value) (cs : List Int) (nv : Value) : List Value := v :: (cs.map (.int .i64) ++ [nv])
theorem mb_0 (v : Value) (cs : List Int) (nv : Value) : (mb v cs nv).toArray[0]? = some v := rfl
theorem mb_9 (v : Value) (cs : List Int) (nv : Value) (h : cs.length = 8) : (mb v cs nv).toArray[9]? = some nv := by
  simp [mb, h]
theorem mb_i (v : Value) (cs : List Int) (nv : Value) (i : Nat) (h : i < cs.length) : (mb v cs nv).toArray[1 + i]? = some (.int .i64 cs[i]) := by
  have : ¬ (1 + i = 0) := by omega
  simp [mb, Nat.add_comm 1 i, List.getElem?_append_left, h]
def modR (B : Nat) (v : Value) (on : List (Int × Int)) (cs : List Int) (nv : Value) (ns : List No) (rs : List Res) : List Res :=
  row 27 2 v on.length (fl wc on) :: blk B (mb v cs nv) 44 :: row 50 9 nv ns.length (fl nc ns) :: rs

/-- A new row of devices. -/
def Whos (ws : List (Int × Int)) (w : World) (e : Ending) (w' : World) : Prop := ∃ ao c, e = .returned (.slice ao ws.length c) ∧ Sep w w' [row 27 2 (.slice ao ws.length c) ws.length (fl wc ws)]
theorem who_info : (Try.prog.info? 27).map (fun i => (i.zero, i.size, i.bytes)) = some (some (.agg #[.int .i64 0, .int .i64 0]), 2, 16) := by kernel_rfl
theorem filter_snoc {α : Type} (f : α → Bool) (l : List α) (x : α) : (l ++ [x]).filter f = l.filter f ++ (if f x = true then [x] else []) := by
  rw [List.filter_append]
  cases h : f x <;> simp [h]

set_option maxRecDepth 100000 in
set_option maxHeartbeats 1600000 in
theorem is_any {w0 : World} {rs : List Res} (B : Nat) (on : List (Int × Int)) (cs : List Int) (v nv : Value) (u d : Int) (w : World) (h : Sep w0 w (row 27 2 v on.length (fl wc on) :: blk B (mb v cs nv) 44 :: rs)) (hl : on.length ≤ 1000) :
    Calls Try.prog 16 #[.pointer (some ⟨B, 0, none⟩), wv u d] w fun e w' => e = .returned (.bool (hasW on u d)) ∧ Only w w' [] := by
  have H := fun (w' : World) (o : Only w w' []) => contains_any on v u d w' (h.quiet o).head hl
  have hB := fun (w' : World) (o : Only w w' []) => ((cell_in (show w'.heap[B]? = _ from (h.quiet o).tail.head) 0).trans (mb_0 v cs nv))
  obtain ⟨ao, c, rfl⟩ := own_slice (show w.ownsRow 0 _ 2 v on.length (fl wc on) from h.head)
  clear h
  simp only [wv] at *
  go_enter Try.func16, Try.ntmps16
  go_upto_region 1 with ((refine wpList_box_new rfl 27 _ rfl (.agg #[.int .i64 u, .int .i64 d]) rfl ?_; intro Z wZ oZ hZl hZ))
  refine wp_region_held_drew (S := fun w' => Only wZ.drew w' []) (by kernel_rfl) (Only.refl _ _) (fun hHeld => ?_)
  refine' wpAnyH_take (i := 0) (v := _) (op_at rfl) (by kernel_rfl) (by kernel_rfl) (by kernel_rfl) (fun _ _ _ h => h) (Or.inl ⟨by rfl, ?hy1⟩) (by assumption) ?rest1
  case hy1 =>
    intro w' hS
    go_simp
    try with_reducible rfl
  try simp only [Act.put, List.setIfInBounds_toArray, List.set_cons_zero, List.set_cons_succ]
  refine' wpAnyH_take (i := 1) (v := _) (op_at rfl) (by kernel_rfl) (by kernel_rfl) (by kernel_rfl) (fun _ _ _ h => h) (Or.inl ⟨by rfl, ?hy2⟩) (by assumption) ?rest2
  case hy2 =>
    intro w' hS
    go_simp
    try with_reducible rfl
  try simp only [Act.put, List.setIfInBounds_toArray, List.set_cons_zero, List.set_cons_succ]
  refine' wpAnyH_take (i := 2) (v := _) (op_at rfl) (by kernel_rfl) (by kernel_rfl) (by kernel_rfl) (fun _ _ _ h => h) (Or.inl ⟨by rfl, ?hy3⟩) (by assumption) ?rest3
  case hy3 =>
    intro w' hS
    go_simp
    try with_reducible rfl
  try simp only [Act.put, List.setIfInBounds_toArray, List.set_cons_zero, List.set_cons_succ]
  refine' wpAnyH_take (i := 3) (v := _) (op_at rfl) (by kernel_rfl) (by kernel_rfl) (by kernel_rfl) (fun _ _ _ h => h) (Or.inl ⟨by rfl, ?hy4⟩) (by assumption) ?rest4
  case hy4 =>
    intro w' hS
    have hBc := hB w' (oZ.trans ((Only.drew wZ []).trans hS))
    go_simp
    try with_reducible rfl
  try simp only [Act.put, List.setIfInBounds_toArray, List.set_cons_zero, List.set_cons_succ]
  refine wpAnyH_take (i := 4) (op_at rfl) (by kernel_rfl) (by kernel_rfl) (by kernel_rfl) (fun _ _ _ h => h) (yieldsIf_load_mid (by rfl) _ _ rfl Z 0 rfl (wc (u, d)) _ (fun w' hS => block_range (((Only.drew wZ []).trans hS).at hZ (by simp))) Try.underlying27 (by rfl) (by rfl)) (by assumption) ?_
  try simp only [Act.put, List.setIfInBounds_toArray, List.set_cons_zero, List.set_cons_succ]
  refine wpAnyH_ready (rs := [5]) (by kernel_rfl) (by simp) (AllReadyH.cons (op_at rfl) (fun K hK => ?_) AllReadyH.nil)
  go_simp
  refine (H _ (oZ.trans ((Only.drew wZ []).trans hHeld))).mono fun e w3 hq => ?_
  obtain ⟨rfl, o3⟩ := hq
  go_wp2_with fail
  refine hK.out _ _ o3 (fun hHeld => ?_)
  clear hK K
  try simp only [Act.put, List.setIfInBounds_toArray, List.set_cons_zero, List.set_cons_succ]
  refine' wpAnyH_take (i := 6) (v := _) (op_at rfl) (by kernel_rfl) (by kernel_rfl) (by kernel_rfl) (fun _ _ _ h => h) (Or.inl ⟨by rfl, ?hy6⟩) (by assumption) ?rest6
  case hy6 =>
    intro w' hS
    go_simp
    try with_reducible rfl
  try simp only [Act.put, List.setIfInBounds_toArray, List.set_cons_zero, List.set_cons_succ]
  refine wpAnyH_done (by kernel_rfl) ?_ _
  go_wp2_with fail
  go_ret
  exact ⟨rfl, oZ.trans ((Only.drew wZ []).trans hHeld)⟩

set_option maxRecDepth 100000 in
set_option maxHeartbeats 1200000 in
theorem list_any {w0 : World} {rs : List Res} (B : Nat) (on : List (Int × Int)) (cs : List Int) (v nv : Value) (user : Int) (w : World) (h : Sep w0 w (row 27 2 v on.length (fl wc on) :: blk B (mb v cs nv) 44 :: rs)) (hl : on.length ≤ 1000) :
    Calls Try.prog 13 #[.pointer (some ⟨B, 0, none⟩), .int .i64 user] w (Whos (on.filter fun p => p.1 == user) w) := by
  obtain ⟨i0, hi, hz0, hz1, hz2⟩ := info_parts who_info
  have hB := ((cell_in (show w.heap[B]? = _ from h.tail.head) 0).trans (mb_0 v cs nv))
  obtain ⟨ao, c, rfl⟩ := own_slice (show w.ownsRow 0 _ 2 v on.length (fl wc on) from h.head)
  obtain ⟨F, hF⟩ : ∃ F : Int × Int → Bool, F = fun p => p.1 == user := ⟨_, rfl⟩
  rw [← hF]
  have HF := Lib.hid (fun p : Int × Int => show F p = (p.1 == user) by rw [hF])
  clear hF
  have hrow := fun (w' : World) (o : Only w w' []) => (show w'.ownsRow 0 27 2 (.slice ao on.length c) on.length (fl wc on) from (h.quiet o).head)
  clear h
  go_enter Try.func13, Try.ntmps13
  go_wp2_with fail
  clear hB
  go_loopw [5, 16] (fun x y wr => ∃ (k : Nat) (a1 : Option Addr) (c1 : Nat), x = .slice a1 ((on.take k).filter F).length c1 ∧ y = .int .i64 k ∧ k ≤ on.length ∧ Sep w wr [row 27 2 (.slice a1 ((on.take k).filter F).length c1) ((on.take k).filter F).length (fl wc ((on.take k).filter F))]) (fun _ y _ => on.length - (intOf y).toNat)
  case atStart => exact ⟨0, none, 0, rfl, rfl, Nat.zero_le _, (Sep.nil w).rown _ _⟩
  case round =>
    obtain ⟨k, a1, c1, rfl, rfl, hk, hs⟩ := hrel
    by_cases hkk : k < on.length
    · have d1 : decide ((k : Int) < on.length) = true := by simpa using hkk
      have hA := hrow wr hs.only
      obtain ⟨gA, rfl, _⟩ := own_some hA (by omega)
      have e0 := rec_cell wc_len hA hkk 0 (v := .int .i64 on[k].1) rfl
      have e1 := rec_cell wc_len hA hkk 1 (v := .int .i64 on[k].2) rfl
      rw [Nat.add_zero] at e0
      have htk : (on.take (k + 1)).filter F = (on.take k).filter F ++ (if F on[k] = true then [on[k]] else []) := by
        rw [List.take_succ_eq_append_getElem hkk, filter_snoc]
      have hFk := HF.out on[k]
      generalize on[k] = p at *
      obtain ⟨pu, pd⟩ := p
      simp only at e0 e1 hFk
      have hql : ((on.take k).filter F).length ≤ 1000 := by have := List.length_filter_le F (on.take k); rw [List.length_take] at this; omega
      generalize hq : (on.take k).filter F = q at *
      have h1c : ([.int .i64 pu, .int .i64 pd] : List Value).toArray.all (·.oneCell') = true := by simp [Value.oneCell']
      clear hq hA hrow
      cases hx : F (pu, pd) with
      | true =>
        rw [hx] at hFk
        replace htk : Hid (fl wc q ++ wc (pu, pd) = fl wc ((on.take (k + 1)).filter F) ∧ ((on.take (k + 1)).filter F).length = q.length + 1) := by
          show _ ∧ _
          rw [htk, if_pos hx, fl_app]
          exact ⟨rfl, by simp⟩
        replace hFk := hFk.symm
        clear hx
        go_wp2_with (first
          | (refine wpList_alloc_new rfl 27 rfl (.agg #[.int .i64 0, .int .i64 0]) (fun _ => by kernel_rfl) ?_; intro X wX oX hXl hX)
          | (refine wpList_store_blk rfl 27 _ _ rfl X [.int .i64 pu, .int .i64 pd] rfl rfl hX rfl (by kernel_rfl) h1c ?_; intro wY oY hY; have hs2 := hs.quiet (oX.new oY (fun i hi => by simp only [List.mem_singleton] at hi; omega)); have hy0 := cell_two0 hY; have hy1 := cell_two1 hY; clear hs hX oX oY e0 e1)
          | (at_builtin; refine wpList_append_sep rfl _ _ 32 rfl 27 i0 _ 2 16 Try.underlying32 hi hz0 hz1 hz2 rfl (by decide) (.slice a1 q.length c1) q.length _ rfl (hs2.quiet (Only.alloc _ (.cells #[.int .i64 pu, .int .i64 pd] 27) [])) _ 1 (wc (pu, pd)) rfl (src_lit _ [.int .i64 pu, .int .i64 pd] _ 1 2 rfl) (wc_one _) (by unfold maxLen; omega) (by omega) ?_; intro a7 c7 w7 o7 s7; rw [htk.out.1] at s7))
        refine ⟨⟨k + 1, a7, c7, by rw [htk.out.2], by simp, by omega, by rw [htk.out.2]; exact s7⟩, by simp [intOf]; omega⟩
      | false =>
        rw [hx] at hFk
        replace htk : Hid ((on.take (k + 1)).filter F = q) := by
          show _ = _
          rw [htk, if_neg (by rw [hx]; simp), List.append_nil]
        replace hFk := hFk.symm
        clear hx
        go_wp2_with (first
          | (refine wpList_alloc_new rfl 27 rfl (.agg #[.int .i64 0, .int .i64 0]) (fun _ => by kernel_rfl) ?_; intro X wX oX hXl hX)
          | (refine wpList_store_blk rfl 27 _ _ rfl X [.int .i64 pu, .int .i64 pd] rfl rfl hX rfl (by kernel_rfl) h1c ?_; intro wY oY hY; have hs2 := hs.quiet (oX.new oY (fun i hi => by simp only [List.mem_singleton] at hi; omega)); have hy0 := cell_two0 hY; have hy1 := cell_two1 hY; clear hs hX oX oY e0 e1))
        refine ⟨⟨k + 1, a1, c1, by rw [htk.out], by simp, by omega, by rw [htk.out]; exact hs2⟩, by simp [intOf]; omega⟩
    · obtain rfl : k = on.length := by omega
      have d1 : decide ((on.length : Int) < on.length) = false := by simp
      rw [List.take_length] at hs ⊢
      go_wp2_with fail
      go_ret
      exact ⟨a1, c1, rfl, hs⟩

/-- For whom a message is. -/
def aud (fu fd to : Int) (p : Int × Int) : Bool := !(p.1 == fu && p.2 == fd) && (p.1 == to || p.1 == fu)
set_option maxRecDepth 100000 in
set_option maxHeartbeats 1200000 in
theorem audience_any {w0 : World} {rs : List Res} (B : Nat) (on : List (Int × Int)) (cs : List Int) (v nv : Value) (fu fd to : Int) (w : World) (h : Sep w0 w (row 27 2 v on.length (fl wc on) :: blk B (mb v cs nv) 44 :: rs)) (hl : on.length ≤ 1000) :
    Calls Try.prog 19 #[.pointer (some ⟨B, 0, none⟩), wv fu fd, .int .i64 to] w (Whos (on.filter (aud fu fd to)) w) := by
  obtain ⟨i0, hi, hz0', hz1', hz2'⟩ := info_parts who_info
  have hB := fun (w' : World) (o : Only w w' []) => ((cell_in (show w'.heap[B]? = _ from (h.quiet o).tail.head) 0).trans (mb_0 v cs nv))
  obtain ⟨ao, c, rfl⟩ := own_slice (show w.ownsRow 0 _ 2 v on.length (fl wc on) from h.head)
  have hrow := fun (w' : World) (o : Only w w' []) => (show w'.ownsRow 0 27 2 (.slice ao on.length c) on.length (fl wc on) from (h.quiet o).head)
  obtain ⟨F, hF⟩ : ∃ F : Int × Int → Bool, F = aud fu fd to := ⟨_, rfl⟩
  rw [← hF]
  have HF := Lib.hid (fun p : Int × Int => show F p = (!(p.1 == fu && p.2 == fd) && (p.1 == to || p.1 == fu)) by rw [hF]; rfl)
  clear h hF
  simp only [wv]
  go_enter Try.func19, Try.ntmps19
  go_wp2_with ((refine wpList_box_new rfl 27 _ rfl (.agg #[.int .i64 fu, .int .i64 fd]) rfl ?_; intro Z wZ oZ hZl hZ; have hBc := hB wZ oZ; clear hB))
  clear hBc
  go_loopw [7, 18] (fun x y wr => ∃ (k : Nat) (a1 : Option Addr) (c1 : Nat), x = .slice a1 ((on.take k).filter F).length c1 ∧ y = .int .i64 k ∧ k ≤ on.length ∧ Sep w wr [row 27 2 (.slice a1 ((on.take k).filter F).length c1) ((on.take k).filter F).length (fl wc ((on.take k).filter F)), blk Z [.int .i64 fu, .int .i64 fd] 27]) (fun _ y _ => on.length - (intOf y).toNat)
  case atStart => exact ⟨0, none, 0, rfl, rfl, Nat.zero_le _, ((Sep.nil w).add (b := blk Z [.int .i64 fu, .int .i64 fd] 27) oZ hZ (fun k hk => by simp [blk] at hk; omega)).rown _ _⟩
  case round =>
    obtain ⟨k, a1, c1, rfl, rfl, hk, hs⟩ := hrel
    by_cases hkk : k < on.length
    · have d1 : decide ((k : Int) < on.length) = true := by simpa using hkk
      have hA := hrow wr hs.only
      obtain ⟨gA, rfl, _⟩ := own_some hA (by omega)
      have e0 := rec_cell wc_len hA hkk 0 (v := .int .i64 on[k].1) rfl
      have e1 := rec_cell wc_len hA hkk 1 (v := .int .i64 on[k].2) rfl
      rw [Nat.add_zero] at e0
      have htk : (on.take (k + 1)).filter F = (on.take k).filter F ++ (if F on[k] = true then [on[k]] else []) := by
        rw [List.take_succ_eq_append_getElem hkk, filter_snoc]
      have hFk := HF.out on[k]
      generalize on[k] = p at *
      obtain ⟨pu, pd⟩ := p
      simp only at e0 e1 hFk
      have hql : ((on.take k).filter F).length ≤ 1000 := by have := List.length_filter_le F (on.take k); rw [List.length_take] at this; omega
      generalize hq : (on.take k).filter F = q at *
      have h1c : ([.int .i64 pu, .int .i64 pd] : List Value).toArray.all (·.oneCell') = true := by simp [Value.oneCell']
      have hZr : wr.heap[Z]? = some (.cells #[.int .i64 fu, .int .i64 fd] 27 (0, 0)) := hs.tail.head
      clear hq hA hrow hZ
      by_cases h1 : pu = fu
      · obtain rfl : pu = fu := h1
        by_cases h2 : pd = fd
        · obtain rfl : pd = fd := h2
          have hx : F (pu, pd) = false := by rw [hFk]; simp
          replace htk : Hid ((on.take (k + 1)).filter F = q) := by
            show _ = _
            rw [htk, if_neg (by rw [hx]; simp), List.append_nil]
          clear hx hFk
          go_upto_region 7 with (first
            | (refine wpList_alloc_new rfl 27 rfl (.agg #[.int .i64 0, .int .i64 0]) (fun _ => by kernel_rfl) ?_; intro X wX oX hXl hX)
            | (refine wpList_store_blk rfl 27 _ _ rfl X [.int .i64 pu, .int .i64 pd] rfl rfl hX rfl (by kernel_rfl) h1c ?_; intro wY oY hY; have oXY := oX.new oY (fun i hi => by simp only [List.mem_singleton] at hi; omega); have hs2 := hs.quiet oXY; have hy0 := cell_two0 hY; have hy1 := cell_two1 hY; have hZY := oXY.at hZr (by simp); have hz0 := cell_two0 hZY; have hz1 := cell_two1 hZY; clear hs hX oX oY oXY e0 e1 hZr hZY))
          go_wp2_with fail
          refine ⟨⟨k + 1, a1, c1, by rw [htk.out], by simp, by omega, by rw [htk.out]; exact hs2⟩, by simp [intOf]; omega⟩
        · have hx : F (pu, pd) = true := by rw [hFk]; simp [h2]
          have b2 : (pd == fd) = false := by simpa using h2
          by_cases h3 : pu = to
          · obtain rfl : pu = to := h3
            clear h2
            replace htk : Hid (fl wc q ++ wc (pu, pd) = fl wc ((on.take (k + 1)).filter F) ∧ ((on.take (k + 1)).filter F).length = q.length + 1) := by
              show _ ∧ _
              rw [htk, if_pos hx, fl_app]
              exact ⟨rfl, by simp⟩
            clear hx hFk
            go_upto_region 7 with (first
              | (refine wpList_alloc_new rfl 27 rfl (.agg #[.int .i64 0, .int .i64 0]) (fun _ => by kernel_rfl) ?_; intro X wX oX hXl hX)
              | (refine wpList_store_blk rfl 27 _ _ rfl X [.int .i64 pu, .int .i64 pd] rfl rfl hX rfl (by kernel_rfl) h1c ?_; intro wY oY hY; have oXY := oX.new oY (fun i hi => by simp only [List.mem_singleton] at hi; omega); have hs2 := hs.quiet oXY; have hy0 := cell_two0 hY; have hy1 := cell_two1 hY; have hZY := oXY.at hZr (by simp); have hz0 := cell_two0 hZY; have hz1 := cell_two1 hZY; clear hs hX oX oY oXY e0 e1 hZr hZY))
            go_wp2_with (at_builtin; refine wpList_append_sep rfl _ _ 32 rfl 27 i0 _ 2 16 Try.underlying32 hi hz0' hz1' hz2' rfl (by decide) (.slice a1 q.length c1) q.length _ rfl (hs2.quiet (Only.alloc _ (.cells #[.int .i64 pu, .int .i64 pd] 27) [])) _ 1 (wc (pu, pd)) rfl (src_lit _ [.int .i64 pu, .int .i64 pd] _ 1 2 rfl) (wc_one _) (by unfold maxLen; omega) (by omega) ?_; intro a7 c7 w7 o7 s7; rw [htk.out.1] at s7)
            refine ⟨⟨k + 1, a7, c7, by rw [htk.out.2], by simp, by omega, by rw [htk.out.2]; exact s7⟩, by simp [intOf]; omega⟩
          · have b3 : (pu == to) = false := by simpa using h3
            clear h2 h3
            replace htk : Hid (fl wc q ++ wc (pu, pd) = fl wc ((on.take (k + 1)).filter F) ∧ ((on.take (k + 1)).filter F).length = q.length + 1) := by
              show _ ∧ _
              rw [htk, if_pos hx, fl_app]
              exact ⟨rfl, by simp⟩
            clear hx hFk
            go_upto_region 7 with (first
              | (refine wpList_alloc_new rfl 27 rfl (.agg #[.int .i64 0, .int .i64 0]) (fun _ => by kernel_rfl) ?_; intro X wX oX hXl hX)
              | (refine wpList_store_blk rfl 27 _ _ rfl X [.int .i64 pu, .int .i64 pd] rfl rfl hX rfl (by kernel_rfl) h1c ?_; intro wY oY hY; have oXY := oX.new oY (fun i hi => by simp only [List.mem_singleton] at hi; omega); have hs2 := hs.quiet oXY; have hy0 := cell_two0 hY; have hy1 := cell_two1 hY; have hZY := oXY.at hZr (by simp); have hz0 := cell_two0 hZY; have hz1 := cell_two1 hZY; clear hs hX oX oY oXY e0 e1 hZr hZY))
            go_wp2_with (at_builtin; refine wpList_append_sep rfl _ _ 32 rfl 27 i0 _ 2 16 Try.underlying32 hi hz0' hz1' hz2' rfl (by decide) (.slice a1 q.length c1) q.length _ rfl (hs2.quiet (Only.alloc _ (.cells #[.int .i64 pu, .int .i64 pd] 27) [])) _ 1 (wc (pu, pd)) rfl (src_lit _ [.int .i64 pu, .int .i64 pd] _ 1 2 rfl) (wc_one _) (by unfold maxLen; omega) (by omega) ?_; intro a7 c7 w7 o7 s7; rw [htk.out.1] at s7)
            refine ⟨⟨k + 1, a7, c7, by rw [htk.out.2], by simp, by omega, by rw [htk.out.2]; exact s7⟩, by simp [intOf]; omega⟩
      · have b1 : (pu == fu) = false := by simpa using h1
        by_cases h3 : pu = to
        · obtain rfl : pu = to := h3
          have hx : F (pu, pd) = true := by rw [hFk]; simp [h1]
          clear h1
          replace htk : Hid (fl wc q ++ wc (pu, pd) = fl wc ((on.take (k + 1)).filter F) ∧ ((on.take (k + 1)).filter F).length = q.length + 1) := by
            show _ ∧ _
            rw [htk, if_pos hx, fl_app]
            exact ⟨rfl, by simp⟩
          clear hx hFk
          go_upto_region 7 with (first
            | (refine wpList_alloc_new rfl 27 rfl (.agg #[.int .i64 0, .int .i64 0]) (fun _ => by kernel_rfl) ?_; intro X wX oX hXl hX)
            | (refine wpList_store_blk rfl 27 _ _ rfl X [.int .i64 pu, .int .i64 pd] rfl rfl hX rfl (by kernel_rfl) h1c ?_; intro wY oY hY; have oXY := oX.new oY (fun i hi => by simp only [List.mem_singleton] at hi; omega); have hs2 := hs.quiet oXY; have hy0 := cell_two0 hY; have hy1 := cell_two1 hY; have hZY := oXY.at hZr (by simp); have hz0 := cell_two0 hZY; have hz1 := cell_two1 hZY; clear hs hX oX oY oXY e0 e1 hZr hZY))
          go_wp2_with (at_builtin; refine wpList_append_sep rfl _ _ 32 rfl 27 i0 _ 2 16 Try.underlying32 hi hz0' hz1' hz2' rfl (by decide) (.slice a1 q.length c1) q.length _ rfl (hs2.quiet (Only.alloc _ (.cells #[.int .i64 pu, .int .i64 pd] 27) [])) _ 1 (wc (pu, pd)) rfl (src_lit _ [.int .i64 pu, .int .i64 pd] _ 1 2 rfl) (wc_one _) (by unfold maxLen; omega) (by omega) ?_; intro a7 c7 w7 o7 s7; rw [htk.out.1] at s7)
          refine ⟨⟨k + 1, a7, c7, by rw [htk.out.2], by simp, by omega, by rw [htk.out.2]; exact s7⟩, by simp [intOf]; omega⟩
        · have hx : F (pu, pd) = false := by rw [hFk]; simp [h1, h3]
          have b3 : (pu == to) = false := by simpa using h3
          clear h1 h3
          replace htk : Hid ((on.take (k + 1)).filter F = q) := by
            show _ = _
            rw [htk, if_neg (by rw [hx]; simp), List.append_nil]
          clear hx hFk
          go_upto_region 7 with (first
            | (refine wpList_alloc_new rfl 27 rfl (.agg #[.int .i64 0, .int .i64 0]) (fun _ => by kernel_rfl) ?_; intro X wX oX hXl hX)
            | (refine wpList_store_blk rfl 27 _ _ rfl X [.int .i64 pu, .int .i64 pd] rfl rfl hX rfl (by kernel_rfl) h1c ?_; intro wY oY hY; have oXY := oX.new oY (fun i hi => by simp only [List.mem_singleton] at hi; omega); have hs2 := hs.quiet oXY; have hy0 := cell_two0 hY; have hy1 := cell_two1 hY; have hZY := oXY.at hZr (by simp); have hz0 := cell_two0 hZY; have hz1 := cell_two1 hZY; clear hs hX oX oY oXY e0 e1 hZr hZY))
          go_wp2_with fail
          refine ⟨⟨k + 1, a1, c1, by rw [htk.out], by simp, by omega, by rw [htk.out]; exact hs2⟩, by simp [intOf]; omega⟩
    · obtain rfl : k = on.length := by omega
      have d1 : decide ((on.length : Int) < on.length) = false := by simp
      rw [List.take_length] at hs ⊢
      go_wp2_with fail
      go_ret
      exact ⟨a1, c1, rfl, hs.sel 2 [0]⟩
end Go.Proofs.Ytjhhlgfbocpniaa
