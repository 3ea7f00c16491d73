/- Lose, Take of layer 25 (model), with one message. Printed by gen_mo6.py. -/
import Derived.Test.YtjhhlgfbocpniaaMo5
namespace Go.Proofs.Ytjhhlgfbocpniaa
open Go.RowKit Go.Pw
set_option linter.unusedVariables false

theorem idx_one (u d n : Int) (x : No) (h1 : x.fu = u) (h2 : x.fd = d) (h3 : x.n = n) : idxN (isN u d n) [x] = 0 := by
  simp [idxN, isN, h1, h2, h3, List.findIdx_cons]
theorem fl_one1 (x : No) : fl nc [x] = nc x := by rw [fl_cons, fl_nil, List.append_nil]

set_option maxRecDepth 100000 in
set_option maxHeartbeats 1600000 in
theorem lose_used {w0 : World} {rs : List Res} (B g k : Nat) (on : List (Int × Int)) (cs : List Int) (v : Value) (u d n : Int) (x : No) (w : World) (h : Sep w0 w (modR B v on cs (.slice (some ⟨g, 0, none⟩) 1 k) [x] rs)) (hc8 : cs.length = 8)
    (h1 : x.fu = u) (h2 : x.fd = d) (h3 : x.n = n) (htk : x.tk = true) :
    Calls Try.prog 11 #[.pointer (some ⟨B, 0, none⟩), wv u d, .int .u32 n] w fun e w' => e = .returned (.int .i64 8) ∧ Only w w' [] := by
  have Hf := fun (w' : World) (o : Only w w' []) => find_any B on cs v _ [x] u d n w' (h.quiet o) hc8 (by simp)
  rw [idx_one u d n x h1 h2 h3] at Hf
  have hB := fun (w' : World) (o : Only w w' []) => ((cell_in (show w'.heap[B]? = _ from (h.quiet o).tail.head) 9).trans (mb_9 v cs _ hc8))
  have hN := fun (w' : World) (o : Only w w' []) => one_cell nc_len (show w'.ownsRow 0 50 9 (.slice (some ⟨g, 0, none⟩) 1 k) 1 (fl nc [x]) from (h.quiet o).tail.tail.head) 5 (v := .bool x.tk) rfl
  rw [htk] at hN
  clear h h1 h2 h3 htk
  simp only [wv] at *
  go_enter Try.func11, Try.ntmps11
  go_wp2_with ((refine wpList_box_new rfl 27 _ rfl (.agg #[.int .i64 u, .int .i64 d]) rfl ?_; intro Z wZ oZ hZl hZb; have ht0 := cell_two0 hZb; have ht1 := cell_two1 hZb))
  refine (Hf _ oZ).mono ?_
  rintro e w1 ⟨rfl, o1⟩
  have hb := hB w1 (oZ.trans o1)
  have h5 := hN w1 (oZ.trans o1)
  clear ht0 ht1 hZb hB hN Hf
  go_wp2_with fail
  go_ret
  exact ⟨rfl, oZ.trans o1⟩

/-- What Take leaves. -/
def Tkn (w0 : World) (rs : List Res) (B g k : Nat) (on : List (Int × Int)) (cs : List Int) (v : Value) (x : No) (all : List (Int × Int)) (e : Ending) (w' : World) : Prop :=
  ∃ a c a2 c2, e = .returned (.tuple #[.slice a2 all.length c2, .int .i64 0]) ∧ ∃ x' : No, x'.fu = x.fu ∧ x'.fd = x.fd ∧ x'.n = x.n ∧ x'.to = x.to ∧ x'.t = x.t ∧ x'.tk = true ∧ x'.ls = false ∧ x'.av = .slice a all.length c ∧ x'.cv = x.cv ∧
    Sep w0 w' (modR B v on cs (.slice (some ⟨g, 0, none⟩) 1 k) [x'] (row 27 2 (.slice a all.length c) all.length (fl wc all) :: row 27 2 (.slice a2 all.length c2) all.length (fl wc all) :: rs))

set_option maxRecDepth 100000 in
set_option maxHeartbeats 1600000 in
theorem take_ok {w0 : World} {rs : List Res} (B g k : Nat) (on all : List (Int × Int)) (cs : List Int) (v : Value) (u d n : Int) (x : No) (w : World) (h : Sep w0 w (modR B v on cs (.slice (some ⟨g, 0, none⟩) 1 k) [x] rs)) (hc8 : cs.length = 8) (hl : on.length ≤ 1000)
    (h1 : x.fu = u) (h2 : x.fd = d) (h3 : x.n = n) (htk : x.tk = false) (hls : x.ls = false) (his : hasW on u d = true) (hall : all = on.filter (aud u d x.to)) (hne : all ≠ []) (hls2 : (on.filter fun p => p.1 == x.to) ≠ []) :
    Calls Try.prog 8 #[.pointer (some ⟨B, 0, none⟩), wv u d, .int .u32 n] w (Tkn w0 rs B g k on cs v x all) := by
  have Hf := fun (w' : World) (o : Only w w' []) => find_any B on cs v _ [x] u d n w' (h.quiet o) hc8 (by simp)
  rw [idx_one u d n x h1 h2 h3] at Hf
  have hB := fun (w' : World) (o : Only w w' []) => ((cell_in (show w'.heap[B]? = _ from (h.quiet o).tail.head) 9).trans (mb_9 v cs _ hc8))
  have hNr := fun (w' : World) (o : Only w w' []) => (show w'.ownsRow 0 50 9 (.slice (some ⟨g, 0, none⟩) 1 k) 1 (fl nc [x]) from (h.quiet o).tail.tail.head)
  have hN5 := fun (w' : World) (o : Only w w' []) => one_cell nc_len (hNr w' o) 5 (v := .bool x.tk) rfl
  have hN6 := fun (w' : World) (o : Only w w' []) => one_cell nc_len (hNr w' o) 6 (v := .bool x.ls) rfl
  have hN3 := fun (w' : World) (o : Only w w' []) => one_cell nc_len (hNr w' o) 3 (v := .int .i64 x.to) rfl
  rw [htk] at hN5
  rw [hls] at hN6
  have His := fun (w' : World) (o : Only w w' []) => is_any B on cs v _ u d w' (h.quiet o) hl
  rw [his] at His
  have Haud := fun (w' : World) (o : Only w w' []) => audience_any B on cs v _ u d x.to w' (h.quiet o) hl
  rw [← hall] at Haud
  have Hlist := fun (w' : World) (o : Only w w' []) => list_any B on cs v _ x.to w' (h.quiet o) hl
  have halen : all.length ≤ 1000 := by rw [hall]; exact Nat.le_trans (List.length_filter_le _ _) hl
  have hset : Hid (∀ a c, setL (setL (fl nc [x]) 5 [.bool true]) 7 [.slice a all.length c] = fl nc [(⟨x.fu, x.fd, x.n, x.to, x.t, true, false, .slice a all.length c, x.cv, ⟨x.ok.1, rfl, x.ok.2.2⟩⟩ : No)]) := fun a c => by
    rw [fl_one1, fl_one1]
    simp [nc, setL, hls]
  obtain ⟨m, hm⟩ : ∃ m, m = (on.filter fun p => p.1 == x.to).length := ⟨_, rfl⟩
  unfold Whos at Hlist
  rw [← hm] at Hlist
  have hm0 : 0 < m := by rw [hm]; exact List.length_pos_iff.2 hls2
  have hal0 : 0 < all.length := List.length_pos_iff.2 hne
  have d1 : ((m : Int) == 0) = false := by simp; omega
  have d2 : ((all.length : Int) == 0) = false := by simp only [beq_eq_false_iff_ne]; omega
  clear hm hls2 hne hall his htk hls h1 h2 h3 hNr
  have Hd2 := Lib.hid d2
  clear d2
  generalize hto0 : x.to = to at *
  have hto := Lib.hid hto0
  clear hto0
  simp only [wv] at *
  go_enter Try.func8, Try.ntmps8
  go_wp2_with ((refine wpList_box_new rfl 27 _ rfl (.agg #[.int .i64 u, .int .i64 d]) rfl ?_; intro Z wZ oZ hZl hZb; have ht0 := cell_two0 hZb; have ht1 := cell_two1 hZb))
  refine (Hf _ oZ).mono ?_
  rintro e w1 ⟨rfl, o1⟩
  have oA := oZ.trans o1
  have hb := hB w1 oA
  have h5 := hN5 w1 oA
  have h6 := hN6 w1 oA
  have hZ1 := o1.at hZb (by simp)
  clear ht0 ht1 Hf
  have ht0 := cell_two0 hZ1
  have ht1 := cell_two1 hZ1
  go_wp2_with fail
  refine (His _ oA).mono ?_
  rintro e w2 ⟨rfl, o2⟩
  have oB := oA.trans o2
  have hZ2 := o2.at hZ1 (by simp)
  clear hb h5 h6 ht0 ht1 hN5 hN6 His hZ1 hZb
  go_upto_region 10 with fail
  refine wp_region_held_drew (S := fun w' => Only w2.drew w' []) (by kernel_rfl) (Only.refl _ _) (fun hHeld => ?_)
  refine' wpAnyH_take (i := 0) (v := _) (op_at rfl) (by kernel_rfl) (by kernel_rfl) (by kernel_rfl) (fun _ _ _ h => h) (Or.inl ⟨by rfl, ?hy1⟩) (by assumption) ?rest1
  case hy1 =>
    intro w' hS
    go_simp
    try with_reducible rfl
  try simp only [Act.put, List.setIfInBounds_toArray, List.set_cons_zero, List.set_cons_succ]
  refine' wpAnyH_take (i := 1) (v := _) (op_at rfl) (by kernel_rfl) (by kernel_rfl) (by kernel_rfl) (fun _ _ _ h => h) (Or.inl ⟨by rfl, ?hy2⟩) (by assumption) ?rest2
  case hy2 =>
    intro w' hS
    have ht := ((Only.drew w2 []).trans hS).at hZ2 (by simp)
    have ht0 := cell_two0 ht
    have ht1 := cell_two1 ht
    go_simp
    try with_reducible rfl
  try simp only [Act.put, List.setIfInBounds_toArray, List.set_cons_zero, List.set_cons_succ]
  refine' wpAnyH_take (i := 2) (v := _) (op_at rfl) (by kernel_rfl) (by kernel_rfl) (by kernel_rfl) (fun _ _ _ h => h) (Or.inl ⟨by rfl, ?hy3⟩) (by assumption) ?rest3
  case hy3 =>
    intro w' hS
    go_simp
    try with_reducible rfl
  try simp only [Act.put, List.setIfInBounds_toArray, List.set_cons_zero, List.set_cons_succ]
  refine' wpAnyH_take (i := 3) (v := _) (op_at rfl) (by kernel_rfl) (by kernel_rfl) (by kernel_rfl) (fun _ _ _ h => h) (Or.inl ⟨by rfl, ?hy4⟩) (by assumption) ?rest4
  case hy4 =>
    intro w' hS
    go_simp
    try with_reducible rfl
  try simp only [Act.put, List.setIfInBounds_toArray, List.set_cons_zero, List.set_cons_succ]
  refine' wpAnyH_take (i := 4) (v := _) (op_at rfl) (by kernel_rfl) (by kernel_rfl) (by kernel_rfl) (fun _ _ _ h => h) (Or.inl ⟨by rfl, ?hy5⟩) (by assumption) ?rest5
  case hy5 =>
    intro w' hS
    go_simp
    try with_reducible rfl
  try simp only [Act.put, List.setIfInBounds_toArray, List.set_cons_zero, List.set_cons_succ]
  refine' wpAnyH_take (i := 5) (v := _) (op_at rfl) (by kernel_rfl) (by kernel_rfl) (by kernel_rfl) (fun _ _ _ h => h) (Or.inl ⟨by rfl, ?hy6⟩) (by assumption) ?rest6
  case hy6 =>
    intro w' hS
    have hb := hB w' (oB.trans ((Only.drew w2 []).trans hS))
    go_simp
    try with_reducible rfl
  try simp only [Act.put, List.setIfInBounds_toArray, List.set_cons_zero, List.set_cons_succ]
  refine' wpAnyH_take (i := 6) (v := _) (op_at rfl) (by kernel_rfl) (by kernel_rfl) (by kernel_rfl) (fun _ _ _ h => h) (Or.inl ⟨by rfl, ?hy7⟩) (by assumption) ?rest7
  case hy7 =>
    intro w' hS
    go_simp
    try with_reducible rfl
  try simp only [Act.put, List.setIfInBounds_toArray, List.set_cons_zero, List.set_cons_succ]
  refine' wpAnyH_take (i := 7) (v := _) (op_at rfl) (by kernel_rfl) (by kernel_rfl) (by kernel_rfl) (fun _ _ _ h => h) (Or.inl ⟨by rfl, ?hy8⟩) (by assumption) ?rest8
  case hy8 =>
    intro w' hS
    go_simp
    try with_reducible rfl
  try simp only [Act.put, List.setIfInBounds_toArray, List.set_cons_zero, List.set_cons_succ]
  refine' wpAnyH_take (i := 8) (v := _) (op_at rfl) (by kernel_rfl) (by kernel_rfl) (by kernel_rfl) (fun _ _ _ h => h) (Or.inl ⟨by rfl, ?hy9⟩) (by assumption) ?rest9
  case hy9 =>
    intro w' hS
    go_simp
    try with_reducible rfl
  try simp only [Act.put, List.setIfInBounds_toArray, List.set_cons_zero, List.set_cons_succ]
  refine' wpAnyH_take (i := 9) (v := _) (op_at rfl) (by kernel_rfl) (by kernel_rfl) (by kernel_rfl) (fun _ _ _ h => h) (Or.inl ⟨by rfl, ?hy10⟩) (by assumption) ?rest10
  case hy10 =>
    intro w' hS
    have h3 := hN3 w' (oB.trans ((Only.drew w2 []).trans hS))
    go_simp
    try with_reducible rfl
  try simp only [Act.put, List.setIfInBounds_toArray, List.set_cons_zero, List.set_cons_succ]
  refine wpAnyH_ready (rs := [10]) (by kernel_rfl) (by simp) (AllReadyH.cons (op_at rfl) (fun K hK => ?_) AllReadyH.nil)
  go_simp
  refine (Haud _ (oB.trans (Only.drew w2 []))).mono fun e w4 hq => ?_
  obtain ⟨a4, c4, rfl, s4⟩ := hq
  go_wp2_with fail
  refine hK.out _ _ s4.only (fun hHeld => ?_)
  clear hK K
  try simp only [Act.put, List.setIfInBounds_toArray, List.set_cons_zero, List.set_cons_succ]
  refine' wpAnyH_take (i := 11) (v := _) (op_at rfl) (by kernel_rfl) (by kernel_rfl) (by kernel_rfl) (fun _ _ _ h => h) (Or.inl ⟨by rfl, ?hy11⟩) (by assumption) ?rest11
  case hy11 =>
    intro w' hS
    go_simp
    try with_reducible rfl
  try simp only [Act.put, List.setIfInBounds_toArray, List.set_cons_zero, List.set_cons_succ]
  refine wpAnyH_done (by kernel_rfl) ?_ _
  have hb := hB w4 (oB.trans ((Only.drew w2 []).trans s4.only))
  have h3 := hN3 w4 (oB.trans ((Only.drew w2 []).trans s4.only))
  have d2 := Hd2.out
  go_wp2_with fail
  refine (Hlist _ (oB.trans ((Only.drew w2 []).trans s4.only))).mono ?_
  rintro e w5 ⟨a5, c5, rfl, s5⟩
  have sE : Sep w0 w5 (row 50 9 (.slice (some ⟨g, 0, none⟩) 1 k) 1 (fl nc [x]) :: blk B (mb v cs (.slice (some ⟨g, 0, none⟩) 1 k)) 44 :: row 27 2 v on.length (fl wc on) :: row 27 2 (.slice a4 all.length c4) all.length (fl wc all) :: rs) :=
    ((((h.quiet (oB.trans (Only.drew w2 []))).plus s4).quiet s5.only).sel 4 [3, 2, 1, 0])
  have h9 := mb_9 v cs (.slice (some ⟨g, 0, none⟩) 1 k) hc8
  clear hb h3 d2 s5 s4 hHeld oB o2 oA o1 oZ hZ2 Hlist Haud h hB hN3
  go_upto_region 13 with fail
  have hB3 : w5.heap[B]? = some (.cells (mb v cs (.slice (some ⟨g, 0, none⟩) 1 k)).toArray 44 (0, 0)) := (sE.sel 3 [1]).head
  have hBg : B ∉ [g] := fun hk => sE.two_at (i := 0) (j := 1) rfl rfl (by decide) B hk (by simp [blk])
  have sD := sE.quiet (Only.drew w5 [])
  clear sE
  refine wp_region_t (S := fun w' => Only w5.drew w' [g]) 16 (by kernel_rfl) (by kernel_rfl) (Only.refl _ _) (fun hZ hHeld => ?_)
  refine' wpAnyT_take (i := 0) (v := _) hZ (op_at' rfl) (by rfl) (by kernel_rfl) (by kernel_rfl) (by kernel_rfl) (by kernel_rfl) (fun _ _ _ h => h) (Or.inl ⟨by rfl, ?hy12⟩) (by assumption) ?rest12
  case hy12 =>
    intro w' hS
    go_simp
    try with_reducible rfl
  try simp only [Act.put, List.setIfInBounds_toArray, List.set_cons_zero, List.set_cons_succ]
  refine' wpAnyT_take (i := 1) (v := _) hZ (op_at' rfl) (by rfl) (by kernel_rfl) (by kernel_rfl) (by kernel_rfl) (by kernel_rfl) (fun _ _ _ h => h) (Or.inl ⟨by rfl, ?hy13⟩) (by assumption) ?rest13
  case hy13 =>
    intro w' hS
    go_simp
    try with_reducible rfl
  try simp only [Act.put, List.setIfInBounds_toArray, List.set_cons_zero, List.set_cons_succ]
  refine' wpAnyT_take (i := 2) (v := _) hZ (op_at' rfl) (by rfl) (by kernel_rfl) (by kernel_rfl) (by kernel_rfl) (by kernel_rfl) (fun _ _ _ h => h) (Or.inl ⟨by rfl, ?hy14⟩) (by assumption) ?rest14
  case hy14 =>
    intro w' hS
    go_simp
    try with_reducible rfl
  try simp only [Act.put, List.setIfInBounds_toArray, List.set_cons_zero, List.set_cons_succ]
  refine' wpAnyT_take (i := 3) (v := _) hZ (op_at' rfl) (by rfl) (by kernel_rfl) (by kernel_rfl) (by kernel_rfl) (by kernel_rfl) (fun _ _ _ h => h) (Or.inl ⟨by rfl, ?hy15⟩) (by assumption) ?rest15
  case hy15 =>
    intro w' hS
    have hb := (cell_in (hS.at (show w5.drew.heap[B]? = _ from hB3) hBg) 9).trans h9
    go_simp
    try with_reducible rfl
  try simp only [Act.put, List.setIfInBounds_toArray, List.set_cons_zero, List.set_cons_succ]
  refine' wpAnyT_take (i := 4) (v := _) hZ (op_at' rfl) (by rfl) (by kernel_rfl) (by kernel_rfl) (by kernel_rfl) (by kernel_rfl) (fun _ _ _ h => h) (Or.inl ⟨by rfl, ?hy16⟩) (by assumption) ?rest16
  case hy16 =>
    intro w' hS
    go_simp
    try with_reducible rfl
  try simp only [Act.put, List.setIfInBounds_toArray, List.set_cons_zero, List.set_cons_succ]
  refine' wpAnyT_take (i := 5) (v := _) hZ (op_at' rfl) (by rfl) (by kernel_rfl) (by kernel_rfl) (by kernel_rfl) (by kernel_rfl) (fun _ _ _ h => h) (Or.inl ⟨by rfl, ?hy17⟩) (by assumption) ?rest17
  case hy17 =>
    intro w' hS
    go_simp
    try with_reducible rfl
  try simp only [Act.put, List.setIfInBounds_toArray, List.set_cons_zero, List.set_cons_succ]
  refine' wpAnyT_take (i := 6) (v := _) hZ (op_at' rfl) (by rfl) (by kernel_rfl) (by kernel_rfl) (by kernel_rfl) (by kernel_rfl) (fun _ _ _ h => h) (Or.inl ⟨by rfl, ?hy18⟩) (by assumption) ?rest18
  case hy18 =>
    intro w' hS
    go_simp
    try with_reducible rfl
  try simp only [Act.put, List.setIfInBounds_toArray, List.set_cons_zero, List.set_cons_succ]
  refine' wpAnyT_take (i := 7) (v := _) hZ (op_at' rfl) (by rfl) (by kernel_rfl) (by kernel_rfl) (by kernel_rfl) (by kernel_rfl) (fun _ _ _ h => h) (Or.inl ⟨by rfl, ?hy19⟩) (by assumption) ?rest19
  case hy19 =>
    intro w' hS
    go_simp
    try with_reducible rfl
  try simp only [Act.put, List.setIfInBounds_toArray, List.set_cons_zero, List.set_cons_succ]
  refine' wpAnyT_take (i := 8) (v := _) hZ (op_at' rfl) (by rfl) (by kernel_rfl) (by kernel_rfl) (by kernel_rfl) (by kernel_rfl) (fun _ _ _ h => h) (Or.inl ⟨by rfl, ?hy20⟩) (by assumption) ?rest20
  case hy20 =>
    intro w' hS
    have hb := (cell_in (hS.at (show w5.drew.heap[B]? = _ from hB3) hBg) 9).trans h9
    go_simp
    try with_reducible rfl
  try simp only [Act.put, List.setIfInBounds_toArray, List.set_cons_zero, List.set_cons_succ]
  refine' wpAnyT_take (i := 9) (v := _) hZ (op_at' rfl) (by rfl) (by kernel_rfl) (by kernel_rfl) (by kernel_rfl) (by kernel_rfl) (fun _ _ _ h => h) (Or.inl ⟨by rfl, ?hy21⟩) (by assumption) ?rest21
  case hy21 =>
    intro w' hS
    go_simp
    try with_reducible rfl
  try simp only [Act.put, List.setIfInBounds_toArray, List.set_cons_zero, List.set_cons_succ]
  refine' wpAnyT_take (i := 10) (v := _) hZ (op_at' rfl) (by rfl) (by kernel_rfl) (by kernel_rfl) (by kernel_rfl) (by kernel_rfl) (fun _ _ _ h => h) (Or.inl ⟨by rfl, ?hy22⟩) (by assumption) ?rest22
  case hy22 =>
    intro w' hS
    go_simp
    try with_reducible rfl
  try simp only [Act.put, List.setIfInBounds_toArray, List.set_cons_zero, List.set_cons_succ]
  refine' wpAnyT_take (i := 11) (v := _) hZ (op_at' rfl) (by rfl) (by kernel_rfl) (by kernel_rfl) (by kernel_rfl) (by kernel_rfl) (fun _ _ _ h => h) (Or.inl ⟨by rfl, ?hy23⟩) (by assumption) ?rest23
  case hy23 =>
    intro w' hS
    go_simp
    try with_reducible rfl
  try simp only [Act.put, List.setIfInBounds_toArray, List.set_cons_zero, List.set_cons_succ]
  refine' wpAnyT_take (i := 12) (v := _) hZ (op_at' rfl) (by rfl) (by kernel_rfl) (by kernel_rfl) (by kernel_rfl) (by kernel_rfl) (fun _ _ _ h => h) (Or.inl ⟨by rfl, ?hy24⟩) (by assumption) ?rest24
  case hy24 =>
    intro w' hS
    go_simp
    try with_reducible rfl
  try simp only [Act.put, List.setIfInBounds_toArray, List.set_cons_zero, List.set_cons_succ]
  refine wpAnyT_one (i := 13) (by kernel_rfl) (op_at' rfl) (fun K hK => ?_)
  refine step_store_rec (by rfl) 4 _ _ (by rfl) g 5 (.bool true) [.bool true] (by rfl) 50 9 1 k _ (by rfl) (by rfl) sD (by simp) (by kernel_rfl) (by simp [Value.oneCell']) (fun w13 o13 s13 => ?_)
  go_wp2_with fail
  refine hK.out _ _ o13 (fun hHeld => ?_)
  clear hK K
  try simp only [Act.put, List.setIfInBounds_toArray, List.set_cons_zero, List.set_cons_succ]
  refine' wpAnyT_take (i := 14) (v := _) hZ (op_at' rfl) (by rfl) (by kernel_rfl) (by kernel_rfl) (by kernel_rfl) (by kernel_rfl) (fun _ _ _ h => h) (Or.inl ⟨by rfl, ?hy25⟩) (by assumption) ?rest25
  case hy25 =>
    intro w' hS
    go_simp
    try with_reducible rfl
  try simp only [Act.put, List.setIfInBounds_toArray, List.set_cons_zero, List.set_cons_succ]
  refine' wpAnyT_take (i := 15) (v := _) hZ (op_at' rfl) (by rfl) (by kernel_rfl) (by kernel_rfl) (by kernel_rfl) (by kernel_rfl) (fun _ _ _ h => h) (Or.inl ⟨by rfl, ?hy26⟩) (by assumption) ?rest26
  case hy26 =>
    intro w' hS
    go_simp
    try with_reducible rfl
  try simp only [Act.put, List.setIfInBounds_toArray, List.set_cons_zero, List.set_cons_succ]
  refine wpAnyT_last (by kernel_rfl) (op_at' rfl) (by kernel_rfl) (fun K hK => ?_)
  refine step_store_rec (by rfl) 32 _ _ (by rfl) g 7 (.slice a4 all.length c4) [.slice a4 all.length c4] (by rfl) 50 9 1 k _ (by rfl) (by rfl) s13 (by simp) (by kernel_rfl) (by simp [Value.oneCell']) (fun w16 o16 s16 => ?_)
  go_wp2_with fail
  refine hK.out _ _ ?_
  clear hK K
  try simp only [Act.put, List.setIfInBounds_toArray, List.set_cons_zero, List.set_cons_succ]
  rw [hset.out] at s16
  have s17 := (s16.sel 4 [3])
  have hsrc := own_src (show w16.ownsRow 0 27 2 (.slice a4 all.length c4) all.length (fl wc all) from s17.head)
  clear s17 s13 sD hB3 hBg
  go_wp2_with fail
  refine (wclone_any _ all _ hsrc (by omega)).mono ?_
  rintro e w6 ⟨a6, c6, rfl, s6⟩
  have s7 := (s16.plus s6).sel 5 [3, 2, 1, 4, 0]
  clear hsrc s6 s16
  go_wp2_with fail
  refine bodyPost_ret (v := .tuple #[.slice a6 all.length c6, .int .i64 0]) (by simp [results, Try.results8, go_sem]) rfl ?_
  have hto0 := hto.out
  subst hto0
  exact ⟨a4, c4, a6, c6, rfl, ⟨x.fu, x.fd, x.n, x.to, x.t, true, false, .slice a4 all.length c4, x.cv, ⟨x.ok.1, rfl, x.ok.2.2⟩⟩, rfl, rfl, rfl, rfl, rfl, rfl, rfl, rfl, rfl, s7⟩
end Go.Proofs.Ytjhhlgfbocpniaa
