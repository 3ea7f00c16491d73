/- Come of layer 25 (model), with one message. Printed by gen_mo7.py. -/
import Derived.Test.YtjhhlgfbocpniaaMo6
namespace Go.Proofs.Ytjhhlgfbocpniaa
open Go.RowKit Go.Pw
set_option linter.unusedVariables false

def comeR (B : Nat) (v : Value) (on : List (Int × Int)) (cs : List Int) (g k : Nat) (x : No) (all came : List (Int × Int)) (xs : List Int) (rs : List Res) : List Res :=
  modR B v on cs (.slice (some ⟨g, 0, none⟩) 1 k) [x] (row 27 2 x.av all.length (fl wc all) :: row 27 2 x.cv came.length (fl wc came) :: row 5 1 x.t xs.length (xs.map (Value.int .u8)) :: rs)
/-- What Come leaves. -/
def Comes (w0 : World) (rs : List Res) (B g k : Nat) (on : List (Int × Int)) (cs : List Int) (v : Value) (x : No) (all came : List (Int × Int)) (xs : List Int) (e : Ending) (w' : World) : Prop :=
  e = .returned (.int .i64 0) ∧ ∃ x' : No, x'.fu = x.fu ∧ x'.fd = x.fd ∧ x'.n = x.n ∧ x'.to = x.to ∧ x'.tk = x.tk ∧ x'.ls = x.ls ∧ Sep w0 w' (comeR B v on cs g k x' all came xs rs)

set_option maxRecDepth 100000 in
set_option maxHeartbeats 1600000 in
theorem come_none {w0 : World} {rs : List Res} (B g k : Nat) (on all came : List (Int × Int)) (cs : List Int) (v : Value) (u d : Int) (x : No) (tv : Value) (xs : List Int) (w : World) (h : Sep w0 w (comeR B v on cs g k x all came xs rs)) (hc8 : cs.length = 8) (hl : on.length ≤ 1000) (hal : all.length ≤ 1000) (hcl : came.length ≤ 1000)
    (his : hasW on u d = true) (hiA : hasW all u d = false) (ht : Pw.Src w0 tv 1 xs.length (xs.map (Value.int .u8))) :
    Calls Try.prog 10 #[.pointer (some ⟨B, 0, none⟩), wv u d, .agg #[.int .i64 x.fu, .int .i64 x.fd, .int .i64 x.to, .int .u32 x.n, tv]] w (fun e w' => e = .returned (.int .i64 2) ∧ Only w w' []) := by
  obtain ⟨i0, hi, hz0, hz1, hz2⟩ := info_parts who_info
  obtain ⟨bo, cb, rfl, _⟩ := id ht
  obtain ⟨aa, ca, hav⟩ := own_slice (show w.ownsRow 0 27 2 x.av all.length (fl wc all) from (h.sel 4 [3]).head)
  obtain ⟨ac, cc, hcv⟩ := own_slice (show w.ownsRow 0 27 2 x.cv came.length (fl wc came) from (h.sel 5 [4]).head)
  obtain ⟨at_, ct, htv⟩ := own_slice (show w.ownsRow 0 5 1 x.t xs.length (xs.map (Value.int .u8)) from (h.sel 6 [5]).head)
  have Hf := fun (w' : World) (o : Only w w' []) => find_any B on cs v _ [x] x.fu x.fd x.n w' (h.quiet o) hc8 (by simp)
  rw [idx_one x.fu x.fd x.n x rfl rfl rfl] at Hf
  have hB := fun (w' : World) (o : Only w w' []) => ((cell_in (show w'.heap[B]? = _ from (h.quiet o).tail.head) 9).trans (mb_9 v cs _ hc8))
  have hNr := fun (w' : World) (o : Only w w' []) => (show w'.ownsRow 0 50 9 (.slice (some ⟨g, 0, none⟩) 1 k) 1 (fl nc [x]) from (h.quiet o).tail.tail.head)
  have hN3 := fun (w' : World) (o : Only w w' []) => one_cell nc_len (hNr w' o) 3 (v := .int .i64 x.to) rfl
  have hN4 := fun (w' : World) (o : Only w w' []) => one_cell nc_len (hNr w' o) 4 (v := x.t) rfl
  have hN7 := fun (w' : World) (o : Only w w' []) => one_cell nc_len (hNr w' o) 7 (v := x.av) rfl
  have hN8 := fun (w' : World) (o : Only w w' []) => one_cell nc_len (hNr w' o) 8 (v := x.cv) rfl
  rw [htv] at hN4
  rw [hav] at hN7
  rw [hcv] at hN8
  have His := fun (w' : World) (o : Only w w' []) => is_any B on cs v _ u d w' (h.quiet o) hl
  rw [his] at His
  have HcA := fun (w' : World) (o : Only w w' []) => contains_any all _ u d w' (show w'.ownsRow 0 27 2 x.av all.length (fl wc all) from ((h.quiet o).sel 4 [3]).head) hal
  have HcC := fun (w' : World) (o : Only w w' []) => contains_any came _ u d w' (show w'.ownsRow 0 27 2 x.cv came.length (fl wc came) from ((h.quiet o).sel 5 [4]).head) hcl
  have Heq := fun (w' : World) (o : Only w w' []) => bequal_same x.t _ xs w' (own_src (show w'.ownsRow 0 5 1 x.t xs.length (xs.map (Value.int .u8)) from ((h.quiet o).sel 6 [5]).head)) ((h.quiet o).src ht)
  rw [hav, hiA] at HcA
  rw [hcv] at HcC
  rw [htv] at Heq
  have h9 := mb_9 v cs (.slice (some ⟨g, 0, none⟩) 1 k) hc8
  clear his hiA  ht hNr hav htv
  have Hcv := Lib.hid hcv
  clear hcv
  obtain ⟨L8, hL8⟩ : ∃ L, L = fl nc [x] := ⟨_, rfl⟩
  have HL8 := Lib.hid hL8
  have sH : Sep w0 w (row 50 9 (.slice (some ⟨g, 0, none⟩) 1 k) 1 L8 :: blk B (mb v cs (.slice (some ⟨g, 0, none⟩) 1 k)) 44 :: row 27 2 x.cv came.length (fl wc came) :: row 27 2 v on.length (fl wc on) :: row 27 2 x.av all.length (fl wc all) :: row 5 1 x.t xs.length (xs.map (Value.int .u8)) :: rs) := by
    rw [hL8]
    exact h.sel 6 [2, 1, 4, 0, 3, 5]
  have HsH := Lib.hid sH
  clear hL8 sH h
  generalize hto0 : x.to = to at *
  have hto := Lib.hid hto0
  clear hto0
  generalize hfu0 : x.fu = fu at *
  have hfu := Lib.hid hfu0
  clear hfu0
  generalize hfd0 : x.fd = fd at *
  have hfd := Lib.hid hfd0
  clear hfd0
  generalize hn0 : x.n = n at *
  have hn := Lib.hid hn0
  clear hn0
  simp only [wv] at *
  go_enter Try.func10, Try.ntmps10
  go_wp2_with (first
    | ((refine wpList_box_new rfl 27 _ rfl (.agg #[.int .i64 u, .int .i64 d]) rfl ?_; intro Z wZ oZ hZl hZb; have ht0 := cell_two0 hZb; have ht1 := cell_two1 hZb))
    | ((refine wpList_box_new rfl 36 _ rfl (.agg #[.int .i64 fu, .int .i64 fd, .int .i64 to, .int .u32 n, .slice bo xs.length cb]) rfl ?_; intro Y wY oY hYl hYb; have y0 := cell_in hYb 0; have y1 := cell_in hYb 1; have y3 := cell_in hYb 3; have hZY := oY.at hZb (by simp); clear ht0 ht1; simp only [Value.cells, List.getElem?_toArray, List.getElem?_cons_zero, List.getElem?_cons_succ] at y0 y1 y3)))
  have oZY := oZ.trans oY
  refine (Hf _ oZY).mono ?_
  rintro e w1 ⟨rfl, o1⟩
  have oA := oZY.trans o1
  have hZ1 := o1.at hZY (by simp)
  have hY1 := o1.at hYb (by simp)
  have ht0 := cell_two0 hZ1
  have ht1 := cell_two1 hZ1
  clear hZb hYb hZY y0 y1 y3 Hf oZ oY o1
  go_wp2_with fail
  refine (His _ oA).mono ?_
  rintro e w2 ⟨rfl, o2⟩
  have oB := oA.trans o2
  have hZ2 := o2.at hZ1 (by simp)
  have hY2 := o2.at hY1 (by simp)
  clear ht0 ht1 hZ1 hY1 oA o2 His
  go_upto_region 6 with fail
  refine wp_region_held_drew (S := fun w' => Only w2.drew w' []) (by kernel_rfl) (Only.refl _ _) (fun hHeld => ?_)
  refine' wpAnyH_take (i := 0) (v := _) (op_at rfl) (by kernel_rfl) (by kernel_rfl) (by kernel_rfl) (fun _ _ _ h => h) (Or.inl ⟨by rfl, ?hy1⟩) (by assumption) ?rest1
  case hy1 =>
    intro w' hS
    go_simp
    try with_reducible rfl
  try simp only [Act.put, List.setIfInBounds_toArray, List.set_cons_zero, List.set_cons_succ]
  refine' wpAnyH_take (i := 1) (v := _) (op_at rfl) (by kernel_rfl) (by kernel_rfl) (by kernel_rfl) (fun _ _ _ h => h) (Or.inl ⟨by rfl, ?hy2⟩) (by assumption) ?rest2
  case hy2 =>
    intro w' hS
    go_simp
    try with_reducible rfl
  try simp only [Act.put, List.setIfInBounds_toArray, List.set_cons_zero, List.set_cons_succ]
  refine' wpAnyH_take (i := 2) (v := _) (op_at rfl) (by kernel_rfl) (by kernel_rfl) (by kernel_rfl) (fun _ _ _ h => h) (Or.inl ⟨by rfl, ?hy3⟩) (by assumption) ?rest3
  case hy3 =>
    intro w' hS
    go_simp
    try with_reducible rfl
  try simp only [Act.put, List.setIfInBounds_toArray, List.set_cons_zero, List.set_cons_succ]
  refine' wpAnyH_take (i := 3) (v := _) (op_at rfl) (by kernel_rfl) (by kernel_rfl) (by kernel_rfl) (fun _ _ _ h => h) (Or.inl ⟨by rfl, ?hy4⟩) (by assumption) ?rest4
  case hy4 =>
    intro w' hS
    go_simp
    try with_reducible rfl
  try simp only [Act.put, List.setIfInBounds_toArray, List.set_cons_zero, List.set_cons_succ]
  refine' wpAnyH_take (i := 4) (v := _) (op_at rfl) (by kernel_rfl) (by kernel_rfl) (by kernel_rfl) (fun _ _ _ h => h) (Or.inl ⟨by rfl, ?hy5⟩) (by assumption) ?rest5
  case hy5 =>
    intro w' hS
    go_simp
    try with_reducible rfl
  try simp only [Act.put, List.setIfInBounds_toArray, List.set_cons_zero, List.set_cons_succ]
  refine' wpAnyH_take (i := 5) (v := _) (op_at rfl) (by kernel_rfl) (by kernel_rfl) (by kernel_rfl) (fun _ _ _ h => h) (Or.inl ⟨by rfl, ?hy6⟩) (by assumption) ?rest6
  case hy6 =>
    intro w' hS
    go_simp
    try with_reducible rfl
  try simp only [Act.put, List.setIfInBounds_toArray, List.set_cons_zero, List.set_cons_succ]
  refine' wpAnyH_take (i := 6) (v := _) (op_at rfl) (by kernel_rfl) (by kernel_rfl) (by kernel_rfl) (fun _ _ _ h => h) (Or.inl ⟨by rfl, ?hy7⟩) (by assumption) ?rest7
  case hy7 =>
    intro w' hS
    have hb := hB w' (oB.trans ((Only.drew w2 []).trans hS))
    go_simp
    try with_reducible rfl
  try simp only [Act.put, List.setIfInBounds_toArray, List.set_cons_zero, List.set_cons_succ]
  refine' wpAnyH_take (i := 7) (v := _) (op_at rfl) (by kernel_rfl) (by kernel_rfl) (by kernel_rfl) (fun _ _ _ h => h) (Or.inl ⟨by rfl, ?hy8⟩) (by assumption) ?rest8
  case hy8 =>
    intro w' hS
    go_simp
    try with_reducible rfl
  try simp only [Act.put, List.setIfInBounds_toArray, List.set_cons_zero, List.set_cons_succ]
  refine' wpAnyH_take (i := 8) (v := _) (op_at rfl) (by kernel_rfl) (by kernel_rfl) (by kernel_rfl) (fun _ _ _ h => h) (Or.inl ⟨by rfl, ?hy9⟩) (by assumption) ?rest9
  case hy9 =>
    intro w' hS
    go_simp
    try with_reducible rfl
  try simp only [Act.put, List.setIfInBounds_toArray, List.set_cons_zero, List.set_cons_succ]
  refine' wpAnyH_take (i := 9) (v := _) (op_at rfl) (by kernel_rfl) (by kernel_rfl) (by kernel_rfl) (fun _ _ _ h => h) (Or.inl ⟨by rfl, ?hy10⟩) (by assumption) ?rest10
  case hy10 =>
    intro w' hS
    go_simp
    try with_reducible rfl
  try simp only [Act.put, List.setIfInBounds_toArray, List.set_cons_zero, List.set_cons_succ]
  refine' wpAnyH_take (i := 10) (v := _) (op_at rfl) (by kernel_rfl) (by kernel_rfl) (by kernel_rfl) (fun _ _ _ h => h) (Or.inl ⟨by rfl, ?hy11⟩) (by assumption) ?rest11
  case hy11 =>
    intro w' hS
    have h7 := hN7 w' (oB.trans ((Only.drew w2 []).trans hS))
    go_simp
    try with_reducible rfl
  try simp only [Act.put, List.setIfInBounds_toArray, List.set_cons_zero, List.set_cons_succ]
  refine' wpAnyH_take (i := 11) (v := _) (op_at rfl) (by kernel_rfl) (by kernel_rfl) (by kernel_rfl) (fun _ _ _ h => h) (Or.inl ⟨by rfl, ?hy12⟩) (by assumption) ?rest12
  case hy12 =>
    intro w' hS
    have ht := ((Only.drew w2 []).trans hS).at hZ2 (by simp)
    have ht0 := cell_two0 ht
    have ht1 := cell_two1 ht
    go_simp
    try with_reducible rfl
  try simp only [Act.put, List.setIfInBounds_toArray, List.set_cons_zero, List.set_cons_succ]
  refine wpAnyH_ready (rs := [12]) (by kernel_rfl) (by simp) (AllReadyH.cons (op_at rfl) (fun K hK => ?_) AllReadyH.nil)
  go_simp
  refine (HcA _ (oB.trans (Only.drew w2 []))).mono fun e w4 hq => ?_
  obtain ⟨rfl, o4⟩ := hq
  go_wp2_with fail
  refine hK.out _ _ o4 (fun hHeld => ?_)
  clear hK K
  try simp only [Act.put, List.setIfInBounds_toArray, List.set_cons_zero, List.set_cons_succ]
  refine' wpAnyH_take (i := 13) (v := _) (op_at rfl) (by kernel_rfl) (by kernel_rfl) (by kernel_rfl) (fun _ _ _ h => h) (Or.inl ⟨by rfl, ?hy13⟩) (by assumption) ?rest13
  case hy13 =>
    intro w' hS
    go_simp
    try with_reducible rfl
  try simp only [Act.put, List.setIfInBounds_toArray, List.set_cons_zero, List.set_cons_succ]
  refine' wpAnyH_take (i := 14) (v := _) (op_at rfl) (by kernel_rfl) (by kernel_rfl) (by kernel_rfl) (fun _ _ _ h => h) (Or.inl ⟨by rfl, ?hy14⟩) (by assumption) ?rest14
  case hy14 =>
    intro w' hS
    go_simp
    try with_reducible rfl
  try simp only [Act.put, List.setIfInBounds_toArray, List.set_cons_zero, List.set_cons_succ]
  refine' wpAnyH_take (i := 15) (v := _) (op_at rfl) (by kernel_rfl) (by kernel_rfl) (by kernel_rfl) (fun _ _ _ h => h) (Or.inl ⟨by rfl, ?hy15⟩) (by assumption) ?rest15
  case hy15 =>
    intro w' hS
    go_simp
    try with_reducible rfl
  try simp only [Act.put, List.setIfInBounds_toArray, List.set_cons_zero, List.set_cons_succ]
  refine wpAnyH_take (i := 16) (v := undef) (op_at rfl) (by kernel_rfl) (by kernel_rfl) (by kernel_rfl) (fun _ _ _ h => h) (Or.inr ⟨by rfl, rfl⟩) (by assumption) ?_
  try simp only [Act.put, List.setIfInBounds_toArray, List.set_cons_zero, List.set_cons_succ]
  refine wpAnyH_take (i := 17) (v := undef) (op_at rfl) (by kernel_rfl) (by kernel_rfl) (by kernel_rfl) (fun _ _ _ h => h) (Or.inr ⟨by rfl, rfl⟩) (by assumption) ?_
  try simp only [Act.put, List.setIfInBounds_toArray, List.set_cons_zero, List.set_cons_succ]
  refine wpAnyH_take (i := 18) (v := undef) (op_at rfl) (by kernel_rfl) (by kernel_rfl) (by kernel_rfl) (fun _ _ _ h => h) (Or.inr ⟨by rfl, rfl⟩) (by assumption) ?_
  try simp only [Act.put, List.setIfInBounds_toArray, List.set_cons_zero, List.set_cons_succ]
  refine wpAnyH_take (i := 19) (v := undef) (op_at rfl) (by kernel_rfl) (by kernel_rfl) (by kernel_rfl) (fun _ _ _ h => h) (Or.inr ⟨by rfl, rfl⟩) (by assumption) ?_
  try simp only [Act.put, List.setIfInBounds_toArray, List.set_cons_zero, List.set_cons_succ]
  refine wpAnyH_take (i := 20) (v := undef) (op_at rfl) (by kernel_rfl) (by kernel_rfl) (by kernel_rfl) (fun _ _ _ h => h) (Or.inr ⟨by rfl, rfl⟩) (by assumption) ?_
  try simp only [Act.put, List.setIfInBounds_toArray, List.set_cons_zero, List.set_cons_succ]
  refine wpAnyH_take (i := 21) (v := undef) (op_at rfl) (by kernel_rfl) (by kernel_rfl) (by kernel_rfl) (fun _ _ _ h => h) (Or.inr ⟨by rfl, rfl⟩) (by assumption) ?_
  try simp only [Act.put, List.setIfInBounds_toArray, List.set_cons_zero, List.set_cons_succ]
  refine wpAnyH_take (i := 22) (v := undef) (op_at rfl) (by kernel_rfl) (by kernel_rfl) (by kernel_rfl) (fun _ _ _ h => h) (Or.inr ⟨by rfl, rfl⟩) (by assumption) ?_
  try simp only [Act.put, List.setIfInBounds_toArray, List.set_cons_zero, List.set_cons_succ]
  refine wpAnyH_take (i := 23) (v := undef) (op_at rfl) (by kernel_rfl) (by kernel_rfl) (by kernel_rfl) (fun _ _ _ h => h) (Or.inr ⟨by rfl, rfl⟩) (by assumption) ?_
  try simp only [Act.put, List.setIfInBounds_toArray, List.set_cons_zero, List.set_cons_succ]
  refine wpAnyH_take (i := 24) (v := undef) (op_at rfl) (by kernel_rfl) (by kernel_rfl) (by kernel_rfl) (fun _ _ _ h => h) (Or.inr ⟨by rfl, rfl⟩) (by assumption) ?_
  try simp only [Act.put, List.setIfInBounds_toArray, List.set_cons_zero, List.set_cons_succ]
  refine wpAnyH_take (i := 25) (v := undef) (op_at rfl) (by kernel_rfl) (by kernel_rfl) (by kernel_rfl) (fun _ _ _ h => h) (Or.inr ⟨by rfl, rfl⟩) (by assumption) ?_
  try simp only [Act.put, List.setIfInBounds_toArray, List.set_cons_zero, List.set_cons_succ]
  refine wpAnyH_take (i := 26) (v := undef) (op_at rfl) (by kernel_rfl) (by kernel_rfl) (by kernel_rfl) (fun _ _ _ h => h) (Or.inr ⟨by rfl, rfl⟩) (by assumption) ?_
  try simp only [Act.put, List.setIfInBounds_toArray, List.set_cons_zero, List.set_cons_succ]
  refine' wpAnyH_take (i := 27) (v := _) (op_at rfl) (by kernel_rfl) (by kernel_rfl) (by kernel_rfl) (fun _ _ _ h => h) (Or.inl ⟨by rfl, ?hy27⟩) (by assumption) ?rest27
  case hy27 =>
    intro w' hS
    go_simp
    try with_reducible rfl
  try simp only [Act.put, List.setIfInBounds_toArray, List.set_cons_zero, List.set_cons_succ]
  refine' wpAnyH_take (i := 28) (v := _) (op_at rfl) (by kernel_rfl) (by kernel_rfl) (by kernel_rfl) (fun _ _ _ h => h) (Or.inl ⟨by rfl, ?hy28⟩) (by assumption) ?rest28
  case hy28 =>
    intro w' hS
    go_simp
    try with_reducible rfl
  try simp only [Act.put, List.setIfInBounds_toArray, List.set_cons_zero, List.set_cons_succ]
  refine wpAnyH_take (i := 29) (v := undef) (op_at rfl) (by kernel_rfl) (by kernel_rfl) (by kernel_rfl) (fun _ _ _ h => h) (Or.inr ⟨by rfl, rfl⟩) (by assumption) ?_
  try simp only [Act.put, List.setIfInBounds_toArray, List.set_cons_zero, List.set_cons_succ]
  refine wpAnyH_take (i := 30) (v := undef) (op_at rfl) (by kernel_rfl) (by kernel_rfl) (by kernel_rfl) (fun _ _ _ h => h) (Or.inr ⟨by rfl, rfl⟩) (by assumption) ?_
  try simp only [Act.put, List.setIfInBounds_toArray, List.set_cons_zero, List.set_cons_succ]
  refine wpAnyH_take (i := 31) (v := undef) (op_at rfl) (by kernel_rfl) (by kernel_rfl) (by kernel_rfl) (fun _ _ _ h => h) (Or.inr ⟨by rfl, rfl⟩) (by assumption) ?_
  try simp only [Act.put, List.setIfInBounds_toArray, List.set_cons_zero, List.set_cons_succ]
  refine wpAnyH_take (i := 32) (v := undef) (op_at rfl) (by kernel_rfl) (by kernel_rfl) (by kernel_rfl) (fun _ _ _ h => h) (Or.inr ⟨by rfl, rfl⟩) (by assumption) ?_
  try simp only [Act.put, List.setIfInBounds_toArray, List.set_cons_zero, List.set_cons_succ]
  refine wpAnyH_take (i := 33) (v := undef) (op_at rfl) (by kernel_rfl) (by kernel_rfl) (by kernel_rfl) (fun _ _ _ h => h) (Or.inr ⟨by rfl, rfl⟩) (by assumption) ?_
  try simp only [Act.put, List.setIfInBounds_toArray, List.set_cons_zero, List.set_cons_succ]
  refine wpAnyH_take (i := 34) (v := undef) (op_at rfl) (by kernel_rfl) (by kernel_rfl) (by kernel_rfl) (fun _ _ _ h => h) (Or.inr ⟨by rfl, rfl⟩) (by assumption) ?_
  try simp only [Act.put, List.setIfInBounds_toArray, List.set_cons_zero, List.set_cons_succ]
  refine wpAnyH_take (i := 35) (v := undef) (op_at rfl) (by kernel_rfl) (by kernel_rfl) (by kernel_rfl) (fun _ _ _ h => h) (Or.inr ⟨by rfl, rfl⟩) (by assumption) ?_
  try simp only [Act.put, List.setIfInBounds_toArray, List.set_cons_zero, List.set_cons_succ]
  refine wpAnyH_take (i := 36) (v := undef) (op_at rfl) (by kernel_rfl) (by kernel_rfl) (by kernel_rfl) (fun _ _ _ h => h) (Or.inr ⟨by rfl, rfl⟩) (by assumption) ?_
  try simp only [Act.put, List.setIfInBounds_toArray, List.set_cons_zero, List.set_cons_succ]
  refine wpAnyH_take (i := 37) (v := undef) (op_at rfl) (by kernel_rfl) (by kernel_rfl) (by kernel_rfl) (fun _ _ _ h => h) (Or.inr ⟨by rfl, rfl⟩) (by assumption) ?_
  try simp only [Act.put, List.setIfInBounds_toArray, List.set_cons_zero, List.set_cons_succ]
  refine wpAnyH_take (i := 38) (v := undef) (op_at rfl) (by kernel_rfl) (by kernel_rfl) (by kernel_rfl) (fun _ _ _ h => h) (Or.inr ⟨by rfl, rfl⟩) (by assumption) ?_
  try simp only [Act.put, List.setIfInBounds_toArray, List.set_cons_zero, List.set_cons_succ]
  refine wpAnyH_take (i := 39) (v := undef) (op_at rfl) (by kernel_rfl) (by kernel_rfl) (by kernel_rfl) (fun _ _ _ h => h) (Or.inr ⟨by rfl, rfl⟩) (by assumption) ?_
  try simp only [Act.put, List.setIfInBounds_toArray, List.set_cons_zero, List.set_cons_succ]
  refine wpAnyH_take (i := 40) (v := undef) (op_at rfl) (by kernel_rfl) (by kernel_rfl) (by kernel_rfl) (fun _ _ _ h => h) (Or.inr ⟨by rfl, rfl⟩) (by assumption) ?_
  try simp only [Act.put, List.setIfInBounds_toArray, List.set_cons_zero, List.set_cons_succ]
  refine' wpAnyH_take (i := 41) (v := _) (op_at rfl) (by kernel_rfl) (by kernel_rfl) (by kernel_rfl) (fun _ _ _ h => h) (Or.inl ⟨by rfl, ?hy41⟩) (by assumption) ?rest41
  case hy41 =>
    intro w' hS
    go_simp
    try with_reducible rfl
  try simp only [Act.put, List.setIfInBounds_toArray, List.set_cons_zero, List.set_cons_succ]
  refine' wpAnyH_take (i := 42) (v := _) (op_at rfl) (by kernel_rfl) (by kernel_rfl) (by kernel_rfl) (fun _ _ _ h => h) (Or.inl ⟨by rfl, ?hy42⟩) (by assumption) ?rest42
  case hy42 =>
    intro w' hS
    go_simp
    try with_reducible rfl
  try simp only [Act.put, List.setIfInBounds_toArray, List.set_cons_zero, List.set_cons_succ]
  refine wpAnyH_done (by kernel_rfl) ?_ _
  go_wp2_with fail
  go_ret
  exact ⟨rfl, oB.trans ((Only.drew w2 []).trans hHeld)⟩

set_option maxRecDepth 100000 in
set_option maxHeartbeats 1600000 in
theorem come_used {w0 : World} {rs : List Res} (B g k : Nat) (on all came : List (Int × Int)) (cs : List Int) (v : Value) (u d : Int) (x : No) (tv : Value) (xs : List Int) (w : World) (h : Sep w0 w (comeR B v on cs g k x all came xs rs)) (hc8 : cs.length = 8) (hl : on.length ≤ 1000) (hal : all.length ≤ 1000) (hcl : came.length ≤ 1000)
    (his : hasW on u d = true) (hiA : hasW all u d = true) (hiC : hasW came u d = true) (ht : Pw.Src w0 tv 1 xs.length (xs.map (Value.int .u8))) :
    Calls Try.prog 10 #[.pointer (some ⟨B, 0, none⟩), wv u d, .agg #[.int .i64 x.fu, .int .i64 x.fd, .int .i64 x.to, .int .u32 x.n, tv]] w (fun e w' => e = .returned (.int .i64 8) ∧ Only w w' []) := by
  obtain ⟨i0, hi, hz0, hz1, hz2⟩ := info_parts who_info
  obtain ⟨bo, cb, rfl, _⟩ := id ht
  obtain ⟨aa, ca, hav⟩ := own_slice (show w.ownsRow 0 27 2 x.av all.length (fl wc all) from (h.sel 4 [3]).head)
  obtain ⟨ac, cc, hcv⟩ := own_slice (show w.ownsRow 0 27 2 x.cv came.length (fl wc came) from (h.sel 5 [4]).head)
  obtain ⟨at_, ct, htv⟩ := own_slice (show w.ownsRow 0 5 1 x.t xs.length (xs.map (Value.int .u8)) from (h.sel 6 [5]).head)
  have Hf := fun (w' : World) (o : Only w w' []) => find_any B on cs v _ [x] x.fu x.fd x.n w' (h.quiet o) hc8 (by simp)
  rw [idx_one x.fu x.fd x.n x rfl rfl rfl] at Hf
  have hB := fun (w' : World) (o : Only w w' []) => ((cell_in (show w'.heap[B]? = _ from (h.quiet o).tail.head) 9).trans (mb_9 v cs _ hc8))
  have hNr := fun (w' : World) (o : Only w w' []) => (show w'.ownsRow 0 50 9 (.slice (some ⟨g, 0, none⟩) 1 k) 1 (fl nc [x]) from (h.quiet o).tail.tail.head)
  have hN3 := fun (w' : World) (o : Only w w' []) => one_cell nc_len (hNr w' o) 3 (v := .int .i64 x.to) rfl
  have hN4 := fun (w' : World) (o : Only w w' []) => one_cell nc_len (hNr w' o) 4 (v := x.t) rfl
  have hN7 := fun (w' : World) (o : Only w w' []) => one_cell nc_len (hNr w' o) 7 (v := x.av) rfl
  have hN8 := fun (w' : World) (o : Only w w' []) => one_cell nc_len (hNr w' o) 8 (v := x.cv) rfl
  rw [htv] at hN4
  rw [hav] at hN7
  rw [hcv] at hN8
  have His := fun (w' : World) (o : Only w w' []) => is_any B on cs v _ u d w' (h.quiet o) hl
  rw [his] at His
  have HcA := fun (w' : World) (o : Only w w' []) => contains_any all _ u d w' (show w'.ownsRow 0 27 2 x.av all.length (fl wc all) from ((h.quiet o).sel 4 [3]).head) hal
  have HcC := fun (w' : World) (o : Only w w' []) => contains_any came _ u d w' (show w'.ownsRow 0 27 2 x.cv came.length (fl wc came) from ((h.quiet o).sel 5 [4]).head) hcl
  have Heq := fun (w' : World) (o : Only w w' []) => bequal_same x.t _ xs w' (own_src (show w'.ownsRow 0 5 1 x.t xs.length (xs.map (Value.int .u8)) from ((h.quiet o).sel 6 [5]).head)) ((h.quiet o).src ht)
  rw [hav, hiA] at HcA
  rw [hcv, hiC] at HcC
  rw [htv] at Heq
  have h9 := mb_9 v cs (.slice (some ⟨g, 0, none⟩) 1 k) hc8
  clear his hiA hiC ht hNr hav htv
  have Hcv := Lib.hid hcv
  clear hcv
  obtain ⟨L8, hL8⟩ : ∃ L, L = fl nc [x] := ⟨_, rfl⟩
  have HL8 := Lib.hid hL8
  have sH : Sep w0 w (row 50 9 (.slice (some ⟨g, 0, none⟩) 1 k) 1 L8 :: blk B (mb v cs (.slice (some ⟨g, 0, none⟩) 1 k)) 44 :: row 27 2 x.cv came.length (fl wc came) :: row 27 2 v on.length (fl wc on) :: row 27 2 x.av all.length (fl wc all) :: row 5 1 x.t xs.length (xs.map (Value.int .u8)) :: rs) := by
    rw [hL8]
    exact h.sel 6 [2, 1, 4, 0, 3, 5]
  have HsH := Lib.hid sH
  clear hL8 sH h
  generalize hto0 : x.to = to at *
  have hto := Lib.hid hto0
  clear hto0
  generalize hfu0 : x.fu = fu at *
  have hfu := Lib.hid hfu0
  clear hfu0
  generalize hfd0 : x.fd = fd at *
  have hfd := Lib.hid hfd0
  clear hfd0
  generalize hn0 : x.n = n at *
  have hn := Lib.hid hn0
  clear hn0
  simp only [wv] at *
  go_enter Try.func10, Try.ntmps10
  go_wp2_with (first
    | ((refine wpList_box_new rfl 27 _ rfl (.agg #[.int .i64 u, .int .i64 d]) rfl ?_; intro Z wZ oZ hZl hZb; have ht0 := cell_two0 hZb; have ht1 := cell_two1 hZb))
    | ((refine wpList_box_new rfl 36 _ rfl (.agg #[.int .i64 fu, .int .i64 fd, .int .i64 to, .int .u32 n, .slice bo xs.length cb]) rfl ?_; intro Y wY oY hYl hYb; have y0 := cell_in hYb 0; have y1 := cell_in hYb 1; have y3 := cell_in hYb 3; have hZY := oY.at hZb (by simp); clear ht0 ht1; simp only [Value.cells, List.getElem?_toArray, List.getElem?_cons_zero, List.getElem?_cons_succ] at y0 y1 y3)))
  have oZY := oZ.trans oY
  refine (Hf _ oZY).mono ?_
  rintro e w1 ⟨rfl, o1⟩
  have oA := oZY.trans o1
  have hZ1 := o1.at hZY (by simp)
  have hY1 := o1.at hYb (by simp)
  have ht0 := cell_two0 hZ1
  have ht1 := cell_two1 hZ1
  clear hZb hYb hZY y0 y1 y3 Hf oZ oY o1
  go_wp2_with fail
  refine (His _ oA).mono ?_
  rintro e w2 ⟨rfl, o2⟩
  have oB := oA.trans o2
  have hZ2 := o2.at hZ1 (by simp)
  have hY2 := o2.at hY1 (by simp)
  clear ht0 ht1 hZ1 hY1 oA o2 His
  go_upto_region 6 with fail
  refine wp_region_held_drew (S := fun w' => Only w2.drew w' []) (by kernel_rfl) (Only.refl _ _) (fun hHeld => ?_)
  refine' wpAnyH_take (i := 0) (v := _) (op_at rfl) (by kernel_rfl) (by kernel_rfl) (by kernel_rfl) (fun _ _ _ h => h) (Or.inl ⟨by rfl, ?hy43⟩) (by assumption) ?rest43
  case hy43 =>
    intro w' hS
    go_simp
    try with_reducible rfl
  try simp only [Act.put, List.setIfInBounds_toArray, List.set_cons_zero, List.set_cons_succ]
  refine' wpAnyH_take (i := 1) (v := _) (op_at rfl) (by kernel_rfl) (by kernel_rfl) (by kernel_rfl) (fun _ _ _ h => h) (Or.inl ⟨by rfl, ?hy44⟩) (by assumption) ?rest44
  case hy44 =>
    intro w' hS
    go_simp
    try with_reducible rfl
  try simp only [Act.put, List.setIfInBounds_toArray, List.set_cons_zero, List.set_cons_succ]
  refine' wpAnyH_take (i := 2) (v := _) (op_at rfl) (by kernel_rfl) (by kernel_rfl) (by kernel_rfl) (fun _ _ _ h => h) (Or.inl ⟨by rfl, ?hy45⟩) (by assumption) ?rest45
  case hy45 =>
    intro w' hS
    go_simp
    try with_reducible rfl
  try simp only [Act.put, List.setIfInBounds_toArray, List.set_cons_zero, List.set_cons_succ]
  refine' wpAnyH_take (i := 3) (v := _) (op_at rfl) (by kernel_rfl) (by kernel_rfl) (by kernel_rfl) (fun _ _ _ h => h) (Or.inl ⟨by rfl, ?hy46⟩) (by assumption) ?rest46
  case hy46 =>
    intro w' hS
    go_simp
    try with_reducible rfl
  try simp only [Act.put, List.setIfInBounds_toArray, List.set_cons_zero, List.set_cons_succ]
  refine' wpAnyH_take (i := 4) (v := _) (op_at rfl) (by kernel_rfl) (by kernel_rfl) (by kernel_rfl) (fun _ _ _ h => h) (Or.inl ⟨by rfl, ?hy47⟩) (by assumption) ?rest47
  case hy47 =>
    intro w' hS
    go_simp
    try with_reducible rfl
  try simp only [Act.put, List.setIfInBounds_toArray, List.set_cons_zero, List.set_cons_succ]
  refine' wpAnyH_take (i := 5) (v := _) (op_at rfl) (by kernel_rfl) (by kernel_rfl) (by kernel_rfl) (fun _ _ _ h => h) (Or.inl ⟨by rfl, ?hy48⟩) (by assumption) ?rest48
  case hy48 =>
    intro w' hS
    go_simp
    try with_reducible rfl
  try simp only [Act.put, List.setIfInBounds_toArray, List.set_cons_zero, List.set_cons_succ]
  refine' wpAnyH_take (i := 6) (v := _) (op_at rfl) (by kernel_rfl) (by kernel_rfl) (by kernel_rfl) (fun _ _ _ h => h) (Or.inl ⟨by rfl, ?hy49⟩) (by assumption) ?rest49
  case hy49 =>
    intro w' hS
    have hb := hB w' (oB.trans ((Only.drew w2 []).trans hS))
    go_simp
    try with_reducible rfl
  try simp only [Act.put, List.setIfInBounds_toArray, List.set_cons_zero, List.set_cons_succ]
  refine' wpAnyH_take (i := 7) (v := _) (op_at rfl) (by kernel_rfl) (by kernel_rfl) (by kernel_rfl) (fun _ _ _ h => h) (Or.inl ⟨by rfl, ?hy50⟩) (by assumption) ?rest50
  case hy50 =>
    intro w' hS
    go_simp
    try with_reducible rfl
  try simp only [Act.put, List.setIfInBounds_toArray, List.set_cons_zero, List.set_cons_succ]
  refine' wpAnyH_take (i := 8) (v := _) (op_at rfl) (by kernel_rfl) (by kernel_rfl) (by kernel_rfl) (fun _ _ _ h => h) (Or.inl ⟨by rfl, ?hy51⟩) (by assumption) ?rest51
  case hy51 =>
    intro w' hS
    go_simp
    try with_reducible rfl
  try simp only [Act.put, List.setIfInBounds_toArray, List.set_cons_zero, List.set_cons_succ]
  refine' wpAnyH_take (i := 9) (v := _) (op_at rfl) (by kernel_rfl) (by kernel_rfl) (by kernel_rfl) (fun _ _ _ h => h) (Or.inl ⟨by rfl, ?hy52⟩) (by assumption) ?rest52
  case hy52 =>
    intro w' hS
    go_simp
    try with_reducible rfl
  try simp only [Act.put, List.setIfInBounds_toArray, List.set_cons_zero, List.set_cons_succ]
  refine' wpAnyH_take (i := 10) (v := _) (op_at rfl) (by kernel_rfl) (by kernel_rfl) (by kernel_rfl) (fun _ _ _ h => h) (Or.inl ⟨by rfl, ?hy53⟩) (by assumption) ?rest53
  case hy53 =>
    intro w' hS
    have h7 := hN7 w' (oB.trans ((Only.drew w2 []).trans hS))
    go_simp
    try with_reducible rfl
  try simp only [Act.put, List.setIfInBounds_toArray, List.set_cons_zero, List.set_cons_succ]
  refine' wpAnyH_take (i := 11) (v := _) (op_at rfl) (by kernel_rfl) (by kernel_rfl) (by kernel_rfl) (fun _ _ _ h => h) (Or.inl ⟨by rfl, ?hy54⟩) (by assumption) ?rest54
  case hy54 =>
    intro w' hS
    have ht := ((Only.drew w2 []).trans hS).at hZ2 (by simp)
    have ht0 := cell_two0 ht
    have ht1 := cell_two1 ht
    go_simp
    try with_reducible rfl
  try simp only [Act.put, List.setIfInBounds_toArray, List.set_cons_zero, List.set_cons_succ]
  refine wpAnyH_ready (rs := [12]) (by kernel_rfl) (by simp) (AllReadyH.cons (op_at rfl) (fun K hK => ?_) AllReadyH.nil)
  go_simp
  refine (HcA _ (oB.trans (Only.drew w2 []))).mono fun e w4 hq => ?_
  obtain ⟨rfl, o4⟩ := hq
  go_wp2_with fail
  refine hK.out _ _ o4 (fun hHeld => ?_)
  clear hK K
  try simp only [Act.put, List.setIfInBounds_toArray, List.set_cons_zero, List.set_cons_succ]
  refine' wpAnyH_take (i := 13) (v := _) (op_at rfl) (by kernel_rfl) (by kernel_rfl) (by kernel_rfl) (fun _ _ _ h => h) (Or.inl ⟨by rfl, ?hy55⟩) (by assumption) ?rest55
  case hy55 =>
    intro w' hS
    go_simp
    try with_reducible rfl
  try simp only [Act.put, List.setIfInBounds_toArray, List.set_cons_zero, List.set_cons_succ]
  refine' wpAnyH_take (i := 14) (v := _) (op_at rfl) (by kernel_rfl) (by kernel_rfl) (by kernel_rfl) (fun _ _ _ h => h) (Or.inl ⟨by rfl, ?hy56⟩) (by assumption) ?rest56
  case hy56 =>
    intro w' hS
    go_simp
    try with_reducible rfl
  try simp only [Act.put, List.setIfInBounds_toArray, List.set_cons_zero, List.set_cons_succ]
  refine' wpAnyH_take (i := 15) (v := _) (op_at rfl) (by kernel_rfl) (by kernel_rfl) (by kernel_rfl) (fun _ _ _ h => h) (Or.inl ⟨by rfl, ?hy57⟩) (by assumption) ?rest57
  case hy57 =>
    intro w' hS
    go_simp
    try with_reducible rfl
  try simp only [Act.put, List.setIfInBounds_toArray, List.set_cons_zero, List.set_cons_succ]
  refine' wpAnyH_take (i := 16) (v := _) (op_at rfl) (by kernel_rfl) (by kernel_rfl) (by kernel_rfl) (fun _ _ _ h => h) (Or.inl ⟨by rfl, ?hy58⟩) (by assumption) ?rest58
  case hy58 =>
    intro w' hS
    go_simp
    try with_reducible rfl
  try simp only [Act.put, List.setIfInBounds_toArray, List.set_cons_zero, List.set_cons_succ]
  refine' wpAnyH_take (i := 17) (v := _) (op_at rfl) (by kernel_rfl) (by kernel_rfl) (by kernel_rfl) (fun _ _ _ h => h) (Or.inl ⟨by rfl, ?hy59⟩) (by assumption) ?rest59
  case hy59 =>
    intro w' hS
    go_simp
    try with_reducible rfl
  try simp only [Act.put, List.setIfInBounds_toArray, List.set_cons_zero, List.set_cons_succ]
  refine' wpAnyH_take (i := 18) (v := _) (op_at rfl) (by kernel_rfl) (by kernel_rfl) (by kernel_rfl) (fun _ _ _ h => h) (Or.inl ⟨by rfl, ?hy60⟩) (by assumption) ?rest60
  case hy60 =>
    intro w' hS
    go_simp
    try with_reducible rfl
  try simp only [Act.put, List.setIfInBounds_toArray, List.set_cons_zero, List.set_cons_succ]
  refine' wpAnyH_take (i := 19) (v := _) (op_at rfl) (by kernel_rfl) (by kernel_rfl) (by kernel_rfl) (fun _ _ _ h => h) (Or.inl ⟨by rfl, ?hy61⟩) (by assumption) ?rest61
  case hy61 =>
    intro w' hS
    have hb := hB w' (oB.trans ((Only.drew w2 []).trans hS))
    go_simp
    try with_reducible rfl
  try simp only [Act.put, List.setIfInBounds_toArray, List.set_cons_zero, List.set_cons_succ]
  refine' wpAnyH_take (i := 20) (v := _) (op_at rfl) (by kernel_rfl) (by kernel_rfl) (by kernel_rfl) (fun _ _ _ h => h) (Or.inl ⟨by rfl, ?hy62⟩) (by assumption) ?rest62
  case hy62 =>
    intro w' hS
    go_simp
    try with_reducible rfl
  try simp only [Act.put, List.setIfInBounds_toArray, List.set_cons_zero, List.set_cons_succ]
  refine' wpAnyH_take (i := 21) (v := _) (op_at rfl) (by kernel_rfl) (by kernel_rfl) (by kernel_rfl) (fun _ _ _ h => h) (Or.inl ⟨by rfl, ?hy63⟩) (by assumption) ?rest63
  case hy63 =>
    intro w' hS
    go_simp
    try with_reducible rfl
  try simp only [Act.put, List.setIfInBounds_toArray, List.set_cons_zero, List.set_cons_succ]
  refine' wpAnyH_take (i := 22) (v := _) (op_at rfl) (by kernel_rfl) (by kernel_rfl) (by kernel_rfl) (fun _ _ _ h => h) (Or.inl ⟨by rfl, ?hy64⟩) (by assumption) ?rest64
  case hy64 =>
    intro w' hS
    go_simp
    try with_reducible rfl
  try simp only [Act.put, List.setIfInBounds_toArray, List.set_cons_zero, List.set_cons_succ]
  refine' wpAnyH_take (i := 23) (v := _) (op_at rfl) (by kernel_rfl) (by kernel_rfl) (by kernel_rfl) (fun _ _ _ h => h) (Or.inl ⟨by rfl, ?hy65⟩) (by assumption) ?rest65
  case hy65 =>
    intro w' hS
    have h3 := hN3 w' (oB.trans ((Only.drew w2 []).trans hS))
    go_simp
    try with_reducible rfl
  try simp only [Act.put, List.setIfInBounds_toArray, List.set_cons_zero, List.set_cons_succ]
  refine' wpAnyH_take (i := 24) (v := _) (op_at rfl) (by kernel_rfl) (by kernel_rfl) (by kernel_rfl) (fun _ _ _ h => h) (Or.inl ⟨by rfl, ?hy66⟩) (by assumption) ?rest66
  case hy66 =>
    intro w' hS
    go_simp
    try with_reducible rfl
  try simp only [Act.put, List.setIfInBounds_toArray, List.set_cons_zero, List.set_cons_succ]
  refine' wpAnyH_take (i := 25) (v := _) (op_at rfl) (by kernel_rfl) (by kernel_rfl) (by kernel_rfl) (fun _ _ _ h => h) (Or.inl ⟨by rfl, ?hy67⟩) (by assumption) ?rest67
  case hy67 =>
    intro w' hS
    have hy := ((Only.drew w2 []).trans hS).at hY2 (by simp)
    have y2 := cell_in hy 2
    have y4 := cell_in hy 4
    simp only [Value.cells, List.getElem?_toArray, List.getElem?_cons_zero, List.getElem?_cons_succ] at y2 y4
    go_simp
    try with_reducible rfl
  try simp only [Act.put, List.setIfInBounds_toArray, List.set_cons_zero, List.set_cons_succ]
  refine' wpAnyH_take (i := 26) (v := _) (op_at rfl) (by kernel_rfl) (by kernel_rfl) (by kernel_rfl) (fun _ _ _ h => h) (Or.inl ⟨by rfl, ?hy68⟩) (by assumption) ?rest68
  case hy68 =>
    intro w' hS
    go_simp
    try with_reducible rfl
  try simp only [Act.put, List.setIfInBounds_toArray, List.set_cons_zero, List.set_cons_succ]
  refine' wpAnyH_take (i := 27) (v := _) (op_at rfl) (by kernel_rfl) (by kernel_rfl) (by kernel_rfl) (fun _ _ _ h => h) (Or.inl ⟨by rfl, ?hy69⟩) (by assumption) ?rest69
  case hy69 =>
    intro w' hS
    go_simp
    try with_reducible rfl
  try simp only [Act.put, List.setIfInBounds_toArray, List.set_cons_zero, List.set_cons_succ]
  refine' wpAnyH_take (i := 28) (v := _) (op_at rfl) (by kernel_rfl) (by kernel_rfl) (by kernel_rfl) (fun _ _ _ h => h) (Or.inl ⟨by rfl, ?hy70⟩) (by assumption) ?rest70
  case hy70 =>
    intro w' hS
    go_simp
    try with_reducible rfl
  try simp only [Act.put, List.setIfInBounds_toArray, List.set_cons_zero, List.set_cons_succ]
  refine' wpAnyH_take (i := 29) (v := _) (op_at rfl) (by kernel_rfl) (by kernel_rfl) (by kernel_rfl) (fun _ _ _ h => h) (Or.inl ⟨by rfl, ?hy71⟩) (by assumption) ?rest71
  case hy71 =>
    intro w' hS
    go_simp
    try with_reducible rfl
  try simp only [Act.put, List.setIfInBounds_toArray, List.set_cons_zero, List.set_cons_succ]
  refine' wpAnyH_take (i := 30) (v := _) (op_at rfl) (by kernel_rfl) (by kernel_rfl) (by kernel_rfl) (fun _ _ _ h => h) (Or.inl ⟨by rfl, ?hy72⟩) (by assumption) ?rest72
  case hy72 =>
    intro w' hS
    go_simp
    try with_reducible rfl
  try simp only [Act.put, List.setIfInBounds_toArray, List.set_cons_zero, List.set_cons_succ]
  refine' wpAnyH_take (i := 31) (v := _) (op_at rfl) (by kernel_rfl) (by kernel_rfl) (by kernel_rfl) (fun _ _ _ h => h) (Or.inl ⟨by rfl, ?hy73⟩) (by assumption) ?rest73
  case hy73 =>
    intro w' hS
    go_simp
    try with_reducible rfl
  try simp only [Act.put, List.setIfInBounds_toArray, List.set_cons_zero, List.set_cons_succ]
  refine' wpAnyH_take (i := 32) (v := _) (op_at rfl) (by kernel_rfl) (by kernel_rfl) (by kernel_rfl) (fun _ _ _ h => h) (Or.inl ⟨by rfl, ?hy74⟩) (by assumption) ?rest74
  case hy74 =>
    intro w' hS
    have hb := hB w' (oB.trans ((Only.drew w2 []).trans hS))
    go_simp
    try with_reducible rfl
  try simp only [Act.put, List.setIfInBounds_toArray, List.set_cons_zero, List.set_cons_succ]
  refine' wpAnyH_take (i := 33) (v := _) (op_at rfl) (by kernel_rfl) (by kernel_rfl) (by kernel_rfl) (fun _ _ _ h => h) (Or.inl ⟨by rfl, ?hy75⟩) (by assumption) ?rest75
  case hy75 =>
    intro w' hS
    go_simp
    try with_reducible rfl
  try simp only [Act.put, List.setIfInBounds_toArray, List.set_cons_zero, List.set_cons_succ]
  refine' wpAnyH_take (i := 34) (v := _) (op_at rfl) (by kernel_rfl) (by kernel_rfl) (by kernel_rfl) (fun _ _ _ h => h) (Or.inl ⟨by rfl, ?hy76⟩) (by assumption) ?rest76
  case hy76 =>
    intro w' hS
    go_simp
    try with_reducible rfl
  try simp only [Act.put, List.setIfInBounds_toArray, List.set_cons_zero, List.set_cons_succ]
  refine' wpAnyH_take (i := 35) (v := _) (op_at rfl) (by kernel_rfl) (by kernel_rfl) (by kernel_rfl) (fun _ _ _ h => h) (Or.inl ⟨by rfl, ?hy77⟩) (by assumption) ?rest77
  case hy77 =>
    intro w' hS
    go_simp
    try with_reducible rfl
  try simp only [Act.put, List.setIfInBounds_toArray, List.set_cons_zero, List.set_cons_succ]
  refine' wpAnyH_take (i := 36) (v := _) (op_at rfl) (by kernel_rfl) (by kernel_rfl) (by kernel_rfl) (fun _ _ _ h => h) (Or.inl ⟨by rfl, ?hy78⟩) (by assumption) ?rest78
  case hy78 =>
    intro w' hS
    have h4 := hN4 w' (oB.trans ((Only.drew w2 []).trans hS))
    go_simp
    try with_reducible rfl
  try simp only [Act.put, List.setIfInBounds_toArray, List.set_cons_zero, List.set_cons_succ]
  refine' wpAnyH_take (i := 37) (v := _) (op_at rfl) (by kernel_rfl) (by kernel_rfl) (by kernel_rfl) (fun _ _ _ h => h) (Or.inl ⟨by rfl, ?hy79⟩) (by assumption) ?rest79
  case hy79 =>
    intro w' hS
    go_simp
    try with_reducible rfl
  try simp only [Act.put, List.setIfInBounds_toArray, List.set_cons_zero, List.set_cons_succ]
  refine' wpAnyH_take (i := 38) (v := _) (op_at rfl) (by kernel_rfl) (by kernel_rfl) (by kernel_rfl) (fun _ _ _ h => h) (Or.inl ⟨by rfl, ?hy80⟩) (by assumption) ?rest80
  case hy80 =>
    intro w' hS
    have hy := ((Only.drew w2 []).trans hS).at hY2 (by simp)
    have y2 := cell_in hy 2
    have y4 := cell_in hy 4
    simp only [Value.cells, List.getElem?_toArray, List.getElem?_cons_zero, List.getElem?_cons_succ] at y2 y4
    go_simp
    try with_reducible rfl
  try simp only [Act.put, List.setIfInBounds_toArray, List.set_cons_zero, List.set_cons_succ]
  refine wpAnyH_ready (rs := [39]) (by kernel_rfl) (by simp) (AllReadyH.cons (op_at rfl) (fun K hK => ?_) AllReadyH.nil)
  go_simp
  refine (Heq _ (oB.trans ((Only.drew w2 []).trans o4))).mono fun e w5 hq => ?_
  obtain ⟨rfl, rfl⟩ := hq
  go_wp2_with fail
  refine hK.out _ _ hHeld (fun hHeld => ?_)
  clear hK K
  try simp only [Act.put, List.setIfInBounds_toArray, List.set_cons_zero, List.set_cons_succ]
  refine' wpAnyH_take (i := 40) (v := _) (op_at rfl) (by kernel_rfl) (by kernel_rfl) (by kernel_rfl) (fun _ _ _ h => h) (Or.inl ⟨by rfl, ?hy81⟩) (by assumption) ?rest81
  case hy81 =>
    intro w' hS
    go_simp
    try with_reducible rfl
  try simp only [Act.put, List.setIfInBounds_toArray, List.set_cons_zero, List.set_cons_succ]
  refine' wpAnyH_take (i := 41) (v := _) (op_at rfl) (by kernel_rfl) (by kernel_rfl) (by kernel_rfl) (fun _ _ _ h => h) (Or.inl ⟨by rfl, ?hy82⟩) (by assumption) ?rest82
  case hy82 =>
    intro w' hS
    go_simp
    try with_reducible rfl
  try simp only [Act.put, List.setIfInBounds_toArray, List.set_cons_zero, List.set_cons_succ]
  refine' wpAnyH_take (i := 42) (v := _) (op_at rfl) (by kernel_rfl) (by kernel_rfl) (by kernel_rfl) (fun _ _ _ h => h) (Or.inl ⟨by rfl, ?hy83⟩) (by assumption) ?rest83
  case hy83 =>
    intro w' hS
    go_simp
    try with_reducible rfl
  try simp only [Act.put, List.setIfInBounds_toArray, List.set_cons_zero, List.set_cons_succ]
  refine wpAnyH_done (by kernel_rfl) ?_ _
  have hHeld0 := hHeld
  clear hHeld
  go_upto_region 8 with fail
  refine wp_region_held_drew (S := fun w' => Only w4.drew w' []) (by kernel_rfl) (Only.refl _ _) (fun hHeld => ?_)
  refine' wpAnyH_take (i := 0) (v := _) (op_at rfl) (by kernel_rfl) (by kernel_rfl) (by kernel_rfl) (fun _ _ _ h => h) (Or.inl ⟨by rfl, ?hy84⟩) (by assumption) ?rest84
  case hy84 =>
    intro w' hS
    go_simp
    try with_reducible rfl
  try simp only [Act.put, List.setIfInBounds_toArray, List.set_cons_zero, List.set_cons_succ]
  refine' wpAnyH_take (i := 1) (v := _) (op_at rfl) (by kernel_rfl) (by kernel_rfl) (by kernel_rfl) (fun _ _ _ h => h) (Or.inl ⟨by rfl, ?hy85⟩) (by assumption) ?rest85
  case hy85 =>
    intro w' hS
    go_simp
    try with_reducible rfl
  try simp only [Act.put, List.setIfInBounds_toArray, List.set_cons_zero, List.set_cons_succ]
  refine' wpAnyH_take (i := 2) (v := _) (op_at rfl) (by kernel_rfl) (by kernel_rfl) (by kernel_rfl) (fun _ _ _ h => h) (Or.inl ⟨by rfl, ?hy86⟩) (by assumption) ?rest86
  case hy86 =>
    intro w' hS
    go_simp
    try with_reducible rfl
  try simp only [Act.put, List.setIfInBounds_toArray, List.set_cons_zero, List.set_cons_succ]
  refine' wpAnyH_take (i := 3) (v := _) (op_at rfl) (by kernel_rfl) (by kernel_rfl) (by kernel_rfl) (fun _ _ _ h => h) (Or.inl ⟨by rfl, ?hy87⟩) (by assumption) ?rest87
  case hy87 =>
    intro w' hS
    have hb := hB w' (oB.trans ((Only.drew w2 []).trans (hHeld0.trans ((Only.drew w4 []).trans hS))))
    go_simp
    try with_reducible rfl
  try simp only [Act.put, List.setIfInBounds_toArray, List.set_cons_zero, List.set_cons_succ]
  refine' wpAnyH_take (i := 4) (v := _) (op_at rfl) (by kernel_rfl) (by kernel_rfl) (by kernel_rfl) (fun _ _ _ h => h) (Or.inl ⟨by rfl, ?hy88⟩) (by assumption) ?rest88
  case hy88 =>
    intro w' hS
    go_simp
    try with_reducible rfl
  try simp only [Act.put, List.setIfInBounds_toArray, List.set_cons_zero, List.set_cons_succ]
  refine' wpAnyH_take (i := 5) (v := _) (op_at rfl) (by kernel_rfl) (by kernel_rfl) (by kernel_rfl) (fun _ _ _ h => h) (Or.inl ⟨by rfl, ?hy89⟩) (by assumption) ?rest89
  case hy89 =>
    intro w' hS
    go_simp
    try with_reducible rfl
  try simp only [Act.put, List.setIfInBounds_toArray, List.set_cons_zero, List.set_cons_succ]
  refine' wpAnyH_take (i := 6) (v := _) (op_at rfl) (by kernel_rfl) (by kernel_rfl) (by kernel_rfl) (fun _ _ _ h => h) (Or.inl ⟨by rfl, ?hy90⟩) (by assumption) ?rest90
  case hy90 =>
    intro w' hS
    go_simp
    try with_reducible rfl
  try simp only [Act.put, List.setIfInBounds_toArray, List.set_cons_zero, List.set_cons_succ]
  refine' wpAnyH_take (i := 7) (v := _) (op_at rfl) (by kernel_rfl) (by kernel_rfl) (by kernel_rfl) (fun _ _ _ h => h) (Or.inl ⟨by rfl, ?hy91⟩) (by assumption) ?rest91
  case hy91 =>
    intro w' hS
    have h8 := hN8 w' (oB.trans ((Only.drew w2 []).trans (hHeld0.trans ((Only.drew w4 []).trans hS))))
    go_simp
    try with_reducible rfl
  try simp only [Act.put, List.setIfInBounds_toArray, List.set_cons_zero, List.set_cons_succ]
  refine' wpAnyH_take (i := 8) (v := _) (op_at rfl) (by kernel_rfl) (by kernel_rfl) (by kernel_rfl) (fun _ _ _ h => h) (Or.inl ⟨by rfl, ?hy92⟩) (by assumption) ?rest92
  case hy92 =>
    intro w' hS
    have ht := ((Only.drew w2 []).trans (hHeld0.trans ((Only.drew w4 []).trans hS))).at hZ2 (by simp)
    have ht0 := cell_two0 ht
    have ht1 := cell_two1 ht
    go_simp
    try with_reducible rfl
  try simp only [Act.put, List.setIfInBounds_toArray, List.set_cons_zero, List.set_cons_succ]
  refine wpAnyH_ready (rs := [9]) (by kernel_rfl) (by simp) (AllReadyH.cons (op_at rfl) (fun K hK => ?_) AllReadyH.nil)
  go_simp
  refine (HcC _ (oB.trans ((Only.drew w2 []).trans (hHeld0.trans (Only.drew w4 []))))).mono fun e w6 hq => ?_
  obtain ⟨rfl, o6⟩ := hq
  go_wp2_with fail
  refine hK.out _ _ o6 (fun hHeld => ?_)
  clear hK K
  try simp only [Act.put, List.setIfInBounds_toArray, List.set_cons_zero, List.set_cons_succ]
  refine' wpAnyH_take (i := 10) (v := _) (op_at rfl) (by kernel_rfl) (by kernel_rfl) (by kernel_rfl) (fun _ _ _ h => h) (Or.inl ⟨by rfl, ?hy93⟩) (by assumption) ?rest93
  case hy93 =>
    intro w' hS
    go_simp
    try with_reducible rfl
  try simp only [Act.put, List.setIfInBounds_toArray, List.set_cons_zero, List.set_cons_succ]
  refine wpAnyH_done (by kernel_rfl) ?_ _
  go_wp2_with fail
  go_ret
  exact ⟨rfl, oB.trans ((Only.drew w2 []).trans (hHeld0.trans ((Only.drew w4 []).trans hHeld)))⟩

set_option maxRecDepth 100000 in
set_option maxHeartbeats 1600000 in
theorem come_ok {w0 : World} {rs : List Res} (B g k : Nat) (on all came : List (Int × Int)) (cs : List Int) (v : Value) (u d : Int) (x : No) (tv : Value) (xs : List Int) (w : World) (h : Sep w0 w (comeR B v on cs g k x all came xs rs)) (hc8 : cs.length = 8) (hl : on.length ≤ 1000) (hal : all.length ≤ 1000) (hcl : came.length ≤ 1000)
    (his : hasW on u d = true) (hiA : hasW all u d = true) (hiC : hasW came u d = false) (ht : Pw.Src w0 tv 1 xs.length (xs.map (Value.int .u8))) :
    Calls Try.prog 10 #[.pointer (some ⟨B, 0, none⟩), wv u d, .agg #[.int .i64 x.fu, .int .i64 x.fd, .int .i64 x.to, .int .u32 x.n, tv]] w (Comes w0 rs B g k on cs v x all (came ++ [(u, d)]) xs) := by
  obtain ⟨i0, hi, hz0, hz1, hz2⟩ := info_parts who_info
  obtain ⟨bo, cb, rfl, _⟩ := id ht
  obtain ⟨aa, ca, hav⟩ := own_slice (show w.ownsRow 0 27 2 x.av all.length (fl wc all) from (h.sel 4 [3]).head)
  obtain ⟨ac, cc, hcv⟩ := own_slice (show w.ownsRow 0 27 2 x.cv came.length (fl wc came) from (h.sel 5 [4]).head)
  obtain ⟨at_, ct, htv⟩ := own_slice (show w.ownsRow 0 5 1 x.t xs.length (xs.map (Value.int .u8)) from (h.sel 6 [5]).head)
  have Hf := fun (w' : World) (o : Only w w' []) => find_any B on cs v _ [x] x.fu x.fd x.n w' (h.quiet o) hc8 (by simp)
  rw [idx_one x.fu x.fd x.n x rfl rfl rfl] at Hf
  have hB := fun (w' : World) (o : Only w w' []) => ((cell_in (show w'.heap[B]? = _ from (h.quiet o).tail.head) 9).trans (mb_9 v cs _ hc8))
  have hNr := fun (w' : World) (o : Only w w' []) => (show w'.ownsRow 0 50 9 (.slice (some ⟨g, 0, none⟩) 1 k) 1 (fl nc [x]) from (h.quiet o).tail.tail.head)
  have hN3 := fun (w' : World) (o : Only w w' []) => one_cell nc_len (hNr w' o) 3 (v := .int .i64 x.to) rfl
  have hN4 := fun (w' : World) (o : Only w w' []) => one_cell nc_len (hNr w' o) 4 (v := x.t) rfl
  have hN7 := fun (w' : World) (o : Only w w' []) => one_cell nc_len (hNr w' o) 7 (v := x.av) rfl
  have hN8 := fun (w' : World) (o : Only w w' []) => one_cell nc_len (hNr w' o) 8 (v := x.cv) rfl
  rw [htv] at hN4
  rw [hav] at hN7
  rw [hcv] at hN8
  have His := fun (w' : World) (o : Only w w' []) => is_any B on cs v _ u d w' (h.quiet o) hl
  rw [his] at His
  have HcA := fun (w' : World) (o : Only w w' []) => contains_any all _ u d w' (show w'.ownsRow 0 27 2 x.av all.length (fl wc all) from ((h.quiet o).sel 4 [3]).head) hal
  have HcC := fun (w' : World) (o : Only w w' []) => contains_any came _ u d w' (show w'.ownsRow 0 27 2 x.cv came.length (fl wc came) from ((h.quiet o).sel 5 [4]).head) hcl
  have Heq := fun (w' : World) (o : Only w w' []) => bequal_same x.t _ xs w' (own_src (show w'.ownsRow 0 5 1 x.t xs.length (xs.map (Value.int .u8)) from ((h.quiet o).sel 6 [5]).head)) ((h.quiet o).src ht)
  rw [hav, hiA] at HcA
  rw [hcv, hiC] at HcC
  rw [htv] at Heq
  have h9 := mb_9 v cs (.slice (some ⟨g, 0, none⟩) 1 k) hc8
  clear his hiA hiC ht hNr hav htv
  have Hcv := Lib.hid hcv
  clear hcv
  obtain ⟨L8, hL8⟩ : ∃ L, L = fl nc [x] := ⟨_, rfl⟩
  have HL8 := Lib.hid hL8
  have sH : Sep w0 w (row 50 9 (.slice (some ⟨g, 0, none⟩) 1 k) 1 L8 :: blk B (mb v cs (.slice (some ⟨g, 0, none⟩) 1 k)) 44 :: row 27 2 x.cv came.length (fl wc came) :: row 27 2 v on.length (fl wc on) :: row 27 2 x.av all.length (fl wc all) :: row 5 1 x.t xs.length (xs.map (Value.int .u8)) :: rs) := by
    rw [hL8]
    exact h.sel 6 [2, 1, 4, 0, 3, 5]
  have HsH := Lib.hid sH
  clear hL8 sH h
  generalize hto0 : x.to = to at *
  have hto := Lib.hid hto0
  clear hto0
  generalize hfu0 : x.fu = fu at *
  have hfu := Lib.hid hfu0
  clear hfu0
  generalize hfd0 : x.fd = fd at *
  have hfd := Lib.hid hfd0
  clear hfd0
  generalize hn0 : x.n = n at *
  have hn := Lib.hid hn0
  clear hn0
  simp only [wv] at *
  go_enter Try.func10, Try.ntmps10
  go_wp2_with (first
    | ((refine wpList_box_new rfl 27 _ rfl (.agg #[.int .i64 u, .int .i64 d]) rfl ?_; intro Z wZ oZ hZl hZb; have ht0 := cell_two0 hZb; have ht1 := cell_two1 hZb))
    | ((refine wpList_box_new rfl 36 _ rfl (.agg #[.int .i64 fu, .int .i64 fd, .int .i64 to, .int .u32 n, .slice bo xs.length cb]) rfl ?_; intro Y wY oY hYl hYb; have y0 := cell_in hYb 0; have y1 := cell_in hYb 1; have y3 := cell_in hYb 3; have hZY := oY.at hZb (by simp); clear ht0 ht1; simp only [Value.cells, List.getElem?_toArray, List.getElem?_cons_zero, List.getElem?_cons_succ] at y0 y1 y3)))
  have oZY := oZ.trans oY
  refine (Hf _ oZY).mono ?_
  rintro e w1 ⟨rfl, o1⟩
  have oA := oZY.trans o1
  have hZ1 := o1.at hZY (by simp)
  have hY1 := o1.at hYb (by simp)
  have ht0 := cell_two0 hZ1
  have ht1 := cell_two1 hZ1
  clear hZb hYb hZY y0 y1 y3 Hf oZ oY o1
  go_wp2_with fail
  refine (His _ oA).mono ?_
  rintro e w2 ⟨rfl, o2⟩
  have oB := oA.trans o2
  have hZ2 := o2.at hZ1 (by simp)
  have hY2 := o2.at hY1 (by simp)
  clear ht0 ht1 hZ1 hY1 oA o2 His
  go_upto_region 6 with fail
  refine wp_region_held_drew (S := fun w' => Only w2.drew w' []) (by kernel_rfl) (Only.refl _ _) (fun hHeld => ?_)
  refine' wpAnyH_take (i := 0) (v := _) (op_at rfl) (by kernel_rfl) (by kernel_rfl) (by kernel_rfl) (fun _ _ _ h => h) (Or.inl ⟨by rfl, ?hy110⟩) (by assumption) ?rest110
  case hy110 =>
    intro w' hS
    go_simp
    try with_reducible rfl
  try simp only [Act.put, List.setIfInBounds_toArray, List.set_cons_zero, List.set_cons_succ]
  refine' wpAnyH_take (i := 1) (v := _) (op_at rfl) (by kernel_rfl) (by kernel_rfl) (by kernel_rfl) (fun _ _ _ h => h) (Or.inl ⟨by rfl, ?hy111⟩) (by assumption) ?rest111
  case hy111 =>
    intro w' hS
    go_simp
    try with_reducible rfl
  try simp only [Act.put, List.setIfInBounds_toArray, List.set_cons_zero, List.set_cons_succ]
  refine' wpAnyH_take (i := 2) (v := _) (op_at rfl) (by kernel_rfl) (by kernel_rfl) (by kernel_rfl) (fun _ _ _ h => h) (Or.inl ⟨by rfl, ?hy112⟩) (by assumption) ?rest112
  case hy112 =>
    intro w' hS
    go_simp
    try with_reducible rfl
  try simp only [Act.put, List.setIfInBounds_toArray, List.set_cons_zero, List.set_cons_succ]
  refine' wpAnyH_take (i := 3) (v := _) (op_at rfl) (by kernel_rfl) (by kernel_rfl) (by kernel_rfl) (fun _ _ _ h => h) (Or.inl ⟨by rfl, ?hy113⟩) (by assumption) ?rest113
  case hy113 =>
    intro w' hS
    go_simp
    try with_reducible rfl
  try simp only [Act.put, List.setIfInBounds_toArray, List.set_cons_zero, List.set_cons_succ]
  refine' wpAnyH_take (i := 4) (v := _) (op_at rfl) (by kernel_rfl) (by kernel_rfl) (by kernel_rfl) (fun _ _ _ h => h) (Or.inl ⟨by rfl, ?hy114⟩) (by assumption) ?rest114
  case hy114 =>
    intro w' hS
    go_simp
    try with_reducible rfl
  try simp only [Act.put, List.setIfInBounds_toArray, List.set_cons_zero, List.set_cons_succ]
  refine' wpAnyH_take (i := 5) (v := _) (op_at rfl) (by kernel_rfl) (by kernel_rfl) (by kernel_rfl) (fun _ _ _ h => h) (Or.inl ⟨by rfl, ?hy115⟩) (by assumption) ?rest115
  case hy115 =>
    intro w' hS
    go_simp
    try with_reducible rfl
  try simp only [Act.put, List.setIfInBounds_toArray, List.set_cons_zero, List.set_cons_succ]
  refine' wpAnyH_take (i := 6) (v := _) (op_at rfl) (by kernel_rfl) (by kernel_rfl) (by kernel_rfl) (fun _ _ _ h => h) (Or.inl ⟨by rfl, ?hy116⟩) (by assumption) ?rest116
  case hy116 =>
    intro w' hS
    have hb := hB w' (oB.trans ((Only.drew w2 []).trans hS))
    go_simp
    try with_reducible rfl
  try simp only [Act.put, List.setIfInBounds_toArray, List.set_cons_zero, List.set_cons_succ]
  refine' wpAnyH_take (i := 7) (v := _) (op_at rfl) (by kernel_rfl) (by kernel_rfl) (by kernel_rfl) (fun _ _ _ h => h) (Or.inl ⟨by rfl, ?hy117⟩) (by assumption) ?rest117
  case hy117 =>
    intro w' hS
    go_simp
    try with_reducible rfl
  try simp only [Act.put, List.setIfInBounds_toArray, List.set_cons_zero, List.set_cons_succ]
  refine' wpAnyH_take (i := 8) (v := _) (op_at rfl) (by kernel_rfl) (by kernel_rfl) (by kernel_rfl) (fun _ _ _ h => h) (Or.inl ⟨by rfl, ?hy118⟩) (by assumption) ?rest118
  case hy118 =>
    intro w' hS
    go_simp
    try with_reducible rfl
  try simp only [Act.put, List.setIfInBounds_toArray, List.set_cons_zero, List.set_cons_succ]
  refine' wpAnyH_take (i := 9) (v := _) (op_at rfl) (by kernel_rfl) (by kernel_rfl) (by kernel_rfl) (fun _ _ _ h => h) (Or.inl ⟨by rfl, ?hy119⟩) (by assumption) ?rest119
  case hy119 =>
    intro w' hS
    go_simp
    try with_reducible rfl
  try simp only [Act.put, List.setIfInBounds_toArray, List.set_cons_zero, List.set_cons_succ]
  refine' wpAnyH_take (i := 10) (v := _) (op_at rfl) (by kernel_rfl) (by kernel_rfl) (by kernel_rfl) (fun _ _ _ h => h) (Or.inl ⟨by rfl, ?hy120⟩) (by assumption) ?rest120
  case hy120 =>
    intro w' hS
    have h7 := hN7 w' (oB.trans ((Only.drew w2 []).trans hS))
    go_simp
    try with_reducible rfl
  try simp only [Act.put, List.setIfInBounds_toArray, List.set_cons_zero, List.set_cons_succ]
  refine' wpAnyH_take (i := 11) (v := _) (op_at rfl) (by kernel_rfl) (by kernel_rfl) (by kernel_rfl) (fun _ _ _ h => h) (Or.inl ⟨by rfl, ?hy121⟩) (by assumption) ?rest121
  case hy121 =>
    intro w' hS
    have ht := ((Only.drew w2 []).trans hS).at hZ2 (by simp)
    have ht0 := cell_two0 ht
    have ht1 := cell_two1 ht
    go_simp
    try with_reducible rfl
  try simp only [Act.put, List.setIfInBounds_toArray, List.set_cons_zero, List.set_cons_succ]
  refine wpAnyH_ready (rs := [12]) (by kernel_rfl) (by simp) (AllReadyH.cons (op_at rfl) (fun K hK => ?_) AllReadyH.nil)
  go_simp
  refine (HcA _ (oB.trans (Only.drew w2 []))).mono fun e w4 hq => ?_
  obtain ⟨rfl, o4⟩ := hq
  go_wp2_with fail
  refine hK.out _ _ o4 (fun hHeld => ?_)
  clear hK K
  try simp only [Act.put, List.setIfInBounds_toArray, List.set_cons_zero, List.set_cons_succ]
  refine' wpAnyH_take (i := 13) (v := _) (op_at rfl) (by kernel_rfl) (by kernel_rfl) (by kernel_rfl) (fun _ _ _ h => h) (Or.inl ⟨by rfl, ?hy122⟩) (by assumption) ?rest122
  case hy122 =>
    intro w' hS
    go_simp
    try with_reducible rfl
  try simp only [Act.put, List.setIfInBounds_toArray, List.set_cons_zero, List.set_cons_succ]
  refine' wpAnyH_take (i := 14) (v := _) (op_at rfl) (by kernel_rfl) (by kernel_rfl) (by kernel_rfl) (fun _ _ _ h => h) (Or.inl ⟨by rfl, ?hy123⟩) (by assumption) ?rest123
  case hy123 =>
    intro w' hS
    go_simp
    try with_reducible rfl
  try simp only [Act.put, List.setIfInBounds_toArray, List.set_cons_zero, List.set_cons_succ]
  refine' wpAnyH_take (i := 15) (v := _) (op_at rfl) (by kernel_rfl) (by kernel_rfl) (by kernel_rfl) (fun _ _ _ h => h) (Or.inl ⟨by rfl, ?hy124⟩) (by assumption) ?rest124
  case hy124 =>
    intro w' hS
    go_simp
    try with_reducible rfl
  try simp only [Act.put, List.setIfInBounds_toArray, List.set_cons_zero, List.set_cons_succ]
  refine' wpAnyH_take (i := 16) (v := _) (op_at rfl) (by kernel_rfl) (by kernel_rfl) (by kernel_rfl) (fun _ _ _ h => h) (Or.inl ⟨by rfl, ?hy125⟩) (by assumption) ?rest125
  case hy125 =>
    intro w' hS
    go_simp
    try with_reducible rfl
  try simp only [Act.put, List.setIfInBounds_toArray, List.set_cons_zero, List.set_cons_succ]
  refine' wpAnyH_take (i := 17) (v := _) (op_at rfl) (by kernel_rfl) (by kernel_rfl) (by kernel_rfl) (fun _ _ _ h => h) (Or.inl ⟨by rfl, ?hy126⟩) (by assumption) ?rest126
  case hy126 =>
    intro w' hS
    go_simp
    try with_reducible rfl
  try simp only [Act.put, List.setIfInBounds_toArray, List.set_cons_zero, List.set_cons_succ]
  refine' wpAnyH_take (i := 18) (v := _) (op_at rfl) (by kernel_rfl) (by kernel_rfl) (by kernel_rfl) (fun _ _ _ h => h) (Or.inl ⟨by rfl, ?hy127⟩) (by assumption) ?rest127
  case hy127 =>
    intro w' hS
    go_simp
    try with_reducible rfl
  try simp only [Act.put, List.setIfInBounds_toArray, List.set_cons_zero, List.set_cons_succ]
  refine' wpAnyH_take (i := 19) (v := _) (op_at rfl) (by kernel_rfl) (by kernel_rfl) (by kernel_rfl) (fun _ _ _ h => h) (Or.inl ⟨by rfl, ?hy128⟩) (by assumption) ?rest128
  case hy128 =>
    intro w' hS
    have hb := hB w' (oB.trans ((Only.drew w2 []).trans hS))
    go_simp
    try with_reducible rfl
  try simp only [Act.put, List.setIfInBounds_toArray, List.set_cons_zero, List.set_cons_succ]
  refine' wpAnyH_take (i := 20) (v := _) (op_at rfl) (by kernel_rfl) (by kernel_rfl) (by kernel_rfl) (fun _ _ _ h => h) (Or.inl ⟨by rfl, ?hy129⟩) (by assumption) ?rest129
  case hy129 =>
    intro w' hS
    go_simp
    try with_reducible rfl
  try simp only [Act.put, List.setIfInBounds_toArray, List.set_cons_zero, List.set_cons_succ]
  refine' wpAnyH_take (i := 21) (v := _) (op_at rfl) (by kernel_rfl) (by kernel_rfl) (by kernel_rfl) (fun _ _ _ h => h) (Or.inl ⟨by rfl, ?hy130⟩) (by assumption) ?rest130
  case hy130 =>
    intro w' hS
    go_simp
    try with_reducible rfl
  try simp only [Act.put, List.setIfInBounds_toArray, List.set_cons_zero, List.set_cons_succ]
  refine' wpAnyH_take (i := 22) (v := _) (op_at rfl) (by kernel_rfl) (by kernel_rfl) (by kernel_rfl) (fun _ _ _ h => h) (Or.inl ⟨by rfl, ?hy131⟩) (by assumption) ?rest131
  case hy131 =>
    intro w' hS
    go_simp
    try with_reducible rfl
  try simp only [Act.put, List.setIfInBounds_toArray, List.set_cons_zero, List.set_cons_succ]
  refine' wpAnyH_take (i := 23) (v := _) (op_at rfl) (by kernel_rfl) (by kernel_rfl) (by kernel_rfl) (fun _ _ _ h => h) (Or.inl ⟨by rfl, ?hy132⟩) (by assumption) ?rest132
  case hy132 =>
    intro w' hS
    have h3 := hN3 w' (oB.trans ((Only.drew w2 []).trans hS))
    go_simp
    try with_reducible rfl
  try simp only [Act.put, List.setIfInBounds_toArray, List.set_cons_zero, List.set_cons_succ]
  refine' wpAnyH_take (i := 24) (v := _) (op_at rfl) (by kernel_rfl) (by kernel_rfl) (by kernel_rfl) (fun _ _ _ h => h) (Or.inl ⟨by rfl, ?hy133⟩) (by assumption) ?rest133
  case hy133 =>
    intro w' hS
    go_simp
    try with_reducible rfl
  try simp only [Act.put, List.setIfInBounds_toArray, List.set_cons_zero, List.set_cons_succ]
  refine' wpAnyH_take (i := 25) (v := _) (op_at rfl) (by kernel_rfl) (by kernel_rfl) (by kernel_rfl) (fun _ _ _ h => h) (Or.inl ⟨by rfl, ?hy134⟩) (by assumption) ?rest134
  case hy134 =>
    intro w' hS
    have hy := ((Only.drew w2 []).trans hS).at hY2 (by simp)
    have y2 := cell_in hy 2
    have y4 := cell_in hy 4
    simp only [Value.cells, List.getElem?_toArray, List.getElem?_cons_zero, List.getElem?_cons_succ] at y2 y4
    go_simp
    try with_reducible rfl
  try simp only [Act.put, List.setIfInBounds_toArray, List.set_cons_zero, List.set_cons_succ]
  refine' wpAnyH_take (i := 26) (v := _) (op_at rfl) (by kernel_rfl) (by kernel_rfl) (by kernel_rfl) (fun _ _ _ h => h) (Or.inl ⟨by rfl, ?hy135⟩) (by assumption) ?rest135
  case hy135 =>
    intro w' hS
    go_simp
    try with_reducible rfl
  try simp only [Act.put, List.setIfInBounds_toArray, List.set_cons_zero, List.set_cons_succ]
  refine' wpAnyH_take (i := 27) (v := _) (op_at rfl) (by kernel_rfl) (by kernel_rfl) (by kernel_rfl) (fun _ _ _ h => h) (Or.inl ⟨by rfl, ?hy136⟩) (by assumption) ?rest136
  case hy136 =>
    intro w' hS
    go_simp
    try with_reducible rfl
  try simp only [Act.put, List.setIfInBounds_toArray, List.set_cons_zero, List.set_cons_succ]
  refine' wpAnyH_take (i := 28) (v := _) (op_at rfl) (by kernel_rfl) (by kernel_rfl) (by kernel_rfl) (fun _ _ _ h => h) (Or.inl ⟨by rfl, ?hy137⟩) (by assumption) ?rest137
  case hy137 =>
    intro w' hS
    go_simp
    try with_reducible rfl
  try simp only [Act.put, List.setIfInBounds_toArray, List.set_cons_zero, List.set_cons_succ]
  refine' wpAnyH_take (i := 29) (v := _) (op_at rfl) (by kernel_rfl) (by kernel_rfl) (by kernel_rfl) (fun _ _ _ h => h) (Or.inl ⟨by rfl, ?hy138⟩) (by assumption) ?rest138
  case hy138 =>
    intro w' hS
    go_simp
    try with_reducible rfl
  try simp only [Act.put, List.setIfInBounds_toArray, List.set_cons_zero, List.set_cons_succ]
  refine' wpAnyH_take (i := 30) (v := _) (op_at rfl) (by kernel_rfl) (by kernel_rfl) (by kernel_rfl) (fun _ _ _ h => h) (Or.inl ⟨by rfl, ?hy139⟩) (by assumption) ?rest139
  case hy139 =>
    intro w' hS
    go_simp
    try with_reducible rfl
  try simp only [Act.put, List.setIfInBounds_toArray, List.set_cons_zero, List.set_cons_succ]
  refine' wpAnyH_take (i := 31) (v := _) (op_at rfl) (by kernel_rfl) (by kernel_rfl) (by kernel_rfl) (fun _ _ _ h => h) (Or.inl ⟨by rfl, ?hy140⟩) (by assumption) ?rest140
  case hy140 =>
    intro w' hS
    go_simp
    try with_reducible rfl
  try simp only [Act.put, List.setIfInBounds_toArray, List.set_cons_zero, List.set_cons_succ]
  refine' wpAnyH_take (i := 32) (v := _) (op_at rfl) (by kernel_rfl) (by kernel_rfl) (by kernel_rfl) (fun _ _ _ h => h) (Or.inl ⟨by rfl, ?hy141⟩) (by assumption) ?rest141
  case hy141 =>
    intro w' hS
    have hb := hB w' (oB.trans ((Only.drew w2 []).trans hS))
    go_simp
    try with_reducible rfl
  try simp only [Act.put, List.setIfInBounds_toArray, List.set_cons_zero, List.set_cons_succ]
  refine' wpAnyH_take (i := 33) (v := _) (op_at rfl) (by kernel_rfl) (by kernel_rfl) (by kernel_rfl) (fun _ _ _ h => h) (Or.inl ⟨by rfl, ?hy142⟩) (by assumption) ?rest142
  case hy142 =>
    intro w' hS
    go_simp
    try with_reducible rfl
  try simp only [Act.put, List.setIfInBounds_toArray, List.set_cons_zero, List.set_cons_succ]
  refine' wpAnyH_take (i := 34) (v := _) (op_at rfl) (by kernel_rfl) (by kernel_rfl) (by kernel_rfl) (fun _ _ _ h => h) (Or.inl ⟨by rfl, ?hy143⟩) (by assumption) ?rest143
  case hy143 =>
    intro w' hS
    go_simp
    try with_reducible rfl
  try simp only [Act.put, List.setIfInBounds_toArray, List.set_cons_zero, List.set_cons_succ]
  refine' wpAnyH_take (i := 35) (v := _) (op_at rfl) (by kernel_rfl) (by kernel_rfl) (by kernel_rfl) (fun _ _ _ h => h) (Or.inl ⟨by rfl, ?hy144⟩) (by assumption) ?rest144
  case hy144 =>
    intro w' hS
    go_simp
    try with_reducible rfl
  try simp only [Act.put, List.setIfInBounds_toArray, List.set_cons_zero, List.set_cons_succ]
  refine' wpAnyH_take (i := 36) (v := _) (op_at rfl) (by kernel_rfl) (by kernel_rfl) (by kernel_rfl) (fun _ _ _ h => h) (Or.inl ⟨by rfl, ?hy145⟩) (by assumption) ?rest145
  case hy145 =>
    intro w' hS
    have h4 := hN4 w' (oB.trans ((Only.drew w2 []).trans hS))
    go_simp
    try with_reducible rfl
  try simp only [Act.put, List.setIfInBounds_toArray, List.set_cons_zero, List.set_cons_succ]
  refine' wpAnyH_take (i := 37) (v := _) (op_at rfl) (by kernel_rfl) (by kernel_rfl) (by kernel_rfl) (fun _ _ _ h => h) (Or.inl ⟨by rfl, ?hy146⟩) (by assumption) ?rest146
  case hy146 =>
    intro w' hS
    go_simp
    try with_reducible rfl
  try simp only [Act.put, List.setIfInBounds_toArray, List.set_cons_zero, List.set_cons_succ]
  refine' wpAnyH_take (i := 38) (v := _) (op_at rfl) (by kernel_rfl) (by kernel_rfl) (by kernel_rfl) (fun _ _ _ h => h) (Or.inl ⟨by rfl, ?hy147⟩) (by assumption) ?rest147
  case hy147 =>
    intro w' hS
    have hy := ((Only.drew w2 []).trans hS).at hY2 (by simp)
    have y2 := cell_in hy 2
    have y4 := cell_in hy 4
    simp only [Value.cells, List.getElem?_toArray, List.getElem?_cons_zero, List.getElem?_cons_succ] at y2 y4
    go_simp
    try with_reducible rfl
  try simp only [Act.put, List.setIfInBounds_toArray, List.set_cons_zero, List.set_cons_succ]
  refine wpAnyH_ready (rs := [39]) (by kernel_rfl) (by simp) (AllReadyH.cons (op_at rfl) (fun K hK => ?_) AllReadyH.nil)
  go_simp
  refine (Heq _ (oB.trans ((Only.drew w2 []).trans o4))).mono fun e w5 hq => ?_
  obtain ⟨rfl, rfl⟩ := hq
  go_wp2_with fail
  refine hK.out _ _ hHeld (fun hHeld => ?_)
  clear hK K
  try simp only [Act.put, List.setIfInBounds_toArray, List.set_cons_zero, List.set_cons_succ]
  refine' wpAnyH_take (i := 40) (v := _) (op_at rfl) (by kernel_rfl) (by kernel_rfl) (by kernel_rfl) (fun _ _ _ h => h) (Or.inl ⟨by rfl, ?hy148⟩) (by assumption) ?rest148
  case hy148 =>
    intro w' hS
    go_simp
    try with_reducible rfl
  try simp only [Act.put, List.setIfInBounds_toArray, List.set_cons_zero, List.set_cons_succ]
  refine' wpAnyH_take (i := 41) (v := _) (op_at rfl) (by kernel_rfl) (by kernel_rfl) (by kernel_rfl) (fun _ _ _ h => h) (Or.inl ⟨by rfl, ?hy149⟩) (by assumption) ?rest149
  case hy149 =>
    intro w' hS
    go_simp
    try with_reducible rfl
  try simp only [Act.put, List.setIfInBounds_toArray, List.set_cons_zero, List.set_cons_succ]
  refine' wpAnyH_take (i := 42) (v := _) (op_at rfl) (by kernel_rfl) (by kernel_rfl) (by kernel_rfl) (fun _ _ _ h => h) (Or.inl ⟨by rfl, ?hy150⟩) (by assumption) ?rest150
  case hy150 =>
    intro w' hS
    go_simp
    try with_reducible rfl
  try simp only [Act.put, List.setIfInBounds_toArray, List.set_cons_zero, List.set_cons_succ]
  refine wpAnyH_done (by kernel_rfl) ?_ _
  have hHeld0 := hHeld
  clear hHeld
  go_upto_region 8 with fail
  refine wp_region_held_drew (S := fun w' => Only w4.drew w' []) (by kernel_rfl) (Only.refl _ _) (fun hHeld => ?_)
  refine' wpAnyH_take (i := 0) (v := _) (op_at rfl) (by kernel_rfl) (by kernel_rfl) (by kernel_rfl) (fun _ _ _ h => h) (Or.inl ⟨by rfl, ?hy151⟩) (by assumption) ?rest151
  case hy151 =>
    intro w' hS
    go_simp
    try with_reducible rfl
  try simp only [Act.put, List.setIfInBounds_toArray, List.set_cons_zero, List.set_cons_succ]
  refine' wpAnyH_take (i := 1) (v := _) (op_at rfl) (by kernel_rfl) (by kernel_rfl) (by kernel_rfl) (fun _ _ _ h => h) (Or.inl ⟨by rfl, ?hy152⟩) (by assumption) ?rest152
  case hy152 =>
    intro w' hS
    go_simp
    try with_reducible rfl
  try simp only [Act.put, List.setIfInBounds_toArray, List.set_cons_zero, List.set_cons_succ]
  refine' wpAnyH_take (i := 2) (v := _) (op_at rfl) (by kernel_rfl) (by kernel_rfl) (by kernel_rfl) (fun _ _ _ h => h) (Or.inl ⟨by rfl, ?hy153⟩) (by assumption) ?rest153
  case hy153 =>
    intro w' hS
    go_simp
    try with_reducible rfl
  try simp only [Act.put, List.setIfInBounds_toArray, List.set_cons_zero, List.set_cons_succ]
  refine' wpAnyH_take (i := 3) (v := _) (op_at rfl) (by kernel_rfl) (by kernel_rfl) (by kernel_rfl) (fun _ _ _ h => h) (Or.inl ⟨by rfl, ?hy154⟩) (by assumption) ?rest154
  case hy154 =>
    intro w' hS
    have hb := hB w' (oB.trans ((Only.drew w2 []).trans (hHeld0.trans ((Only.drew w4 []).trans hS))))
    go_simp
    try with_reducible rfl
  try simp only [Act.put, List.setIfInBounds_toArray, List.set_cons_zero, List.set_cons_succ]
  refine' wpAnyH_take (i := 4) (v := _) (op_at rfl) (by kernel_rfl) (by kernel_rfl) (by kernel_rfl) (fun _ _ _ h => h) (Or.inl ⟨by rfl, ?hy155⟩) (by assumption) ?rest155
  case hy155 =>
    intro w' hS
    go_simp
    try with_reducible rfl
  try simp only [Act.put, List.setIfInBounds_toArray, List.set_cons_zero, List.set_cons_succ]
  refine' wpAnyH_take (i := 5) (v := _) (op_at rfl) (by kernel_rfl) (by kernel_rfl) (by kernel_rfl) (fun _ _ _ h => h) (Or.inl ⟨by rfl, ?hy156⟩) (by assumption) ?rest156
  case hy156 =>
    intro w' hS
    go_simp
    try with_reducible rfl
  try simp only [Act.put, List.setIfInBounds_toArray, List.set_cons_zero, List.set_cons_succ]
  refine' wpAnyH_take (i := 6) (v := _) (op_at rfl) (by kernel_rfl) (by kernel_rfl) (by kernel_rfl) (fun _ _ _ h => h) (Or.inl ⟨by rfl, ?hy157⟩) (by assumption) ?rest157
  case hy157 =>
    intro w' hS
    go_simp
    try with_reducible rfl
  try simp only [Act.put, List.setIfInBounds_toArray, List.set_cons_zero, List.set_cons_succ]
  refine' wpAnyH_take (i := 7) (v := _) (op_at rfl) (by kernel_rfl) (by kernel_rfl) (by kernel_rfl) (fun _ _ _ h => h) (Or.inl ⟨by rfl, ?hy158⟩) (by assumption) ?rest158
  case hy158 =>
    intro w' hS
    have h8 := hN8 w' (oB.trans ((Only.drew w2 []).trans (hHeld0.trans ((Only.drew w4 []).trans hS))))
    go_simp
    try with_reducible rfl
  try simp only [Act.put, List.setIfInBounds_toArray, List.set_cons_zero, List.set_cons_succ]
  refine' wpAnyH_take (i := 8) (v := _) (op_at rfl) (by kernel_rfl) (by kernel_rfl) (by kernel_rfl) (fun _ _ _ h => h) (Or.inl ⟨by rfl, ?hy159⟩) (by assumption) ?rest159
  case hy159 =>
    intro w' hS
    have ht := ((Only.drew w2 []).trans (hHeld0.trans ((Only.drew w4 []).trans hS))).at hZ2 (by simp)
    have ht0 := cell_two0 ht
    have ht1 := cell_two1 ht
    go_simp
    try with_reducible rfl
  try simp only [Act.put, List.setIfInBounds_toArray, List.set_cons_zero, List.set_cons_succ]
  refine wpAnyH_ready (rs := [9]) (by kernel_rfl) (by simp) (AllReadyH.cons (op_at rfl) (fun K hK => ?_) AllReadyH.nil)
  go_simp
  refine (HcC _ (oB.trans ((Only.drew w2 []).trans (hHeld0.trans (Only.drew w4 []))))).mono fun e w6 hq => ?_
  obtain ⟨rfl, o6⟩ := hq
  go_wp2_with fail
  refine hK.out _ _ o6 (fun hHeld => ?_)
  clear hK K
  try simp only [Act.put, List.setIfInBounds_toArray, List.set_cons_zero, List.set_cons_succ]
  refine' wpAnyH_take (i := 10) (v := _) (op_at rfl) (by kernel_rfl) (by kernel_rfl) (by kernel_rfl) (fun _ _ _ h => h) (Or.inl ⟨by rfl, ?hy160⟩) (by assumption) ?rest160
  case hy160 =>
    intro w' hS
    go_simp
    try with_reducible rfl
  try simp only [Act.put, List.setIfInBounds_toArray, List.set_cons_zero, List.set_cons_succ]
  refine wpAnyH_done (by kernel_rfl) ?_ _
  have oC := oB.trans ((Only.drew w2 []).trans (hHeld0.trans ((Only.drew w4 []).trans hHeld)))
  have hZ6 := ((Only.drew w2 []).trans (hHeld0.trans ((Only.drew w4 []).trans hHeld))).at hZ2 (by simp)
  have hZ0 : w.heap.size ≤ Z := hZl
  have hZlt : Z < w6.heap.size := (Array.getElem?_eq_some_iff.1 hZ6).1
  have s6 := HsH.out.quiet oC
  have hZw : Z ∉ x.cv.ownBlock.toList := fun hk => by
    have := (row 27 2 x.cv came.length (fl wc came)).lt w (HsH.out.sel 3 [2]).head Z hk
    omega
  clear hHeld hHeld0 o4 o6 oB hZ2 hY2 HcC HcA Heq hB hN3 hN4 hN7 hN8 oZY
  go_upto_region 10 with fail
  have hB3 : w6.heap[B]? = some (.cells (mb v cs (.slice (some ⟨g, 0, none⟩) 1 k)).toArray 44 (0, 0)) := (s6.sel 3 [1]).head
  have hBg : B ∉ x.cv.ownBlock.toList := fun hk => s6.two_at (i := 2) (j := 1) rfl rfl (by decide) B hk (by simp [blk])
  have hZg := hZw
  have hNg : Apart (.slice (some ⟨g, 0, none⟩) 1 k) x.cv.ownBlock.toList := fun j hj hjk => s6.two_at (i := 2) (j := 0) rfl rfl (by decide) j hjk (by simp [row, hj])
  have sD := s6.quiet (Only.drew w6 [])
  clear s6 HsH
  refine wp_region_t (S := fun w' => Only w6.drew w' x.cv.ownBlock.toList) 18 (by kernel_rfl) (by kernel_rfl) (Only.refl _ _) (fun hZ hHeld => ?_)
  refine' wpAnyT_take (i := 0) (v := _) hZ (op_at' rfl) (by rfl) (by kernel_rfl) (by kernel_rfl) (by kernel_rfl) (by kernel_rfl) (fun _ _ _ h => h) (Or.inl ⟨by rfl, ?hy94⟩) (by assumption) ?rest94
  case hy94 =>
    intro w' hS
    go_simp
    try with_reducible rfl
  try simp only [Act.put, List.setIfInBounds_toArray, List.set_cons_zero, List.set_cons_succ]
  refine' wpAnyT_take (i := 1) (v := _) hZ (op_at' rfl) (by rfl) (by kernel_rfl) (by kernel_rfl) (by kernel_rfl) (by kernel_rfl) (fun _ _ _ h => h) (Or.inl ⟨by rfl, ?hy95⟩) (by assumption) ?rest95
  case hy95 =>
    intro w' hS
    go_simp
    try with_reducible rfl
  try simp only [Act.put, List.setIfInBounds_toArray, List.set_cons_zero, List.set_cons_succ]
  refine' wpAnyT_take (i := 2) (v := _) hZ (op_at' rfl) (by rfl) (by kernel_rfl) (by kernel_rfl) (by kernel_rfl) (by kernel_rfl) (fun _ _ _ h => h) (Or.inl ⟨by rfl, ?hy96⟩) (by assumption) ?rest96
  case hy96 =>
    intro w' hS
    go_simp
    try with_reducible rfl
  try simp only [Act.put, List.setIfInBounds_toArray, List.set_cons_zero, List.set_cons_succ]
  refine' wpAnyT_take (i := 3) (v := _) hZ (op_at' rfl) (by rfl) (by kernel_rfl) (by kernel_rfl) (by kernel_rfl) (by kernel_rfl) (fun _ _ _ h => h) (Or.inl ⟨by rfl, ?hy97⟩) (by assumption) ?rest97
  case hy97 =>
    intro w' hS
    have hb := (cell_in (hS.at (show w6.drew.heap[B]? = _ from hB3) hBg) 9).trans h9
    go_simp
    try with_reducible rfl
  try simp only [Act.put, List.setIfInBounds_toArray, List.set_cons_zero, List.set_cons_succ]
  refine' wpAnyT_take (i := 4) (v := _) hZ (op_at' rfl) (by rfl) (by kernel_rfl) (by kernel_rfl) (by kernel_rfl) (by kernel_rfl) (fun _ _ _ h => h) (Or.inl ⟨by rfl, ?hy98⟩) (by assumption) ?rest98
  case hy98 =>
    intro w' hS
    go_simp
    try with_reducible rfl
  try simp only [Act.put, List.setIfInBounds_toArray, List.set_cons_zero, List.set_cons_succ]
  refine' wpAnyT_take (i := 5) (v := _) hZ (op_at' rfl) (by rfl) (by kernel_rfl) (by kernel_rfl) (by kernel_rfl) (by kernel_rfl) (fun _ _ _ h => h) (Or.inl ⟨by rfl, ?hy99⟩) (by assumption) ?rest99
  case hy99 =>
    intro w' hS
    go_simp
    try with_reducible rfl
  try simp only [Act.put, List.setIfInBounds_toArray, List.set_cons_zero, List.set_cons_succ]
  refine' wpAnyT_take (i := 6) (v := _) hZ (op_at' rfl) (by rfl) (by kernel_rfl) (by kernel_rfl) (by kernel_rfl) (by kernel_rfl) (fun _ _ _ h => h) (Or.inl ⟨by rfl, ?hy100⟩) (by assumption) ?rest100
  case hy100 =>
    intro w' hS
    go_simp
    try with_reducible rfl
  try simp only [Act.put, List.setIfInBounds_toArray, List.set_cons_zero, List.set_cons_succ]
  refine' wpAnyT_take (i := 7) (v := _) hZ (op_at' rfl) (by rfl) (by kernel_rfl) (by kernel_rfl) (by kernel_rfl) (by kernel_rfl) (fun _ _ _ h => h) (Or.inl ⟨by rfl, ?hy101⟩) (by assumption) ?rest101
  case hy101 =>
    intro w' hS
    go_simp
    try with_reducible rfl
  try simp only [Act.put, List.setIfInBounds_toArray, List.set_cons_zero, List.set_cons_succ]
  refine' wpAnyT_take (i := 8) (v := _) hZ (op_at' rfl) (by rfl) (by kernel_rfl) (by kernel_rfl) (by kernel_rfl) (by kernel_rfl) (fun _ _ _ h => h) (Or.inl ⟨by rfl, ?hy102⟩) (by assumption) ?rest102
  case hy102 =>
    intro w' hS
    have hb := (cell_in (hS.at (show w6.drew.heap[B]? = _ from hB3) hBg) 9).trans h9
    go_simp
    try with_reducible rfl
  try simp only [Act.put, List.setIfInBounds_toArray, List.set_cons_zero, List.set_cons_succ]
  refine' wpAnyT_take (i := 9) (v := _) hZ (op_at' rfl) (by rfl) (by kernel_rfl) (by kernel_rfl) (by kernel_rfl) (by kernel_rfl) (fun _ _ _ h => h) (Or.inl ⟨by rfl, ?hy103⟩) (by assumption) ?rest103
  case hy103 =>
    intro w' hS
    go_simp
    try with_reducible rfl
  try simp only [Act.put, List.setIfInBounds_toArray, List.set_cons_zero, List.set_cons_succ]
  refine' wpAnyT_take (i := 10) (v := _) hZ (op_at' rfl) (by rfl) (by kernel_rfl) (by kernel_rfl) (by kernel_rfl) (by kernel_rfl) (fun _ _ _ h => h) (Or.inl ⟨by rfl, ?hy104⟩) (by assumption) ?rest104
  case hy104 =>
    intro w' hS
    go_simp
    try with_reducible rfl
  try simp only [Act.put, List.setIfInBounds_toArray, List.set_cons_zero, List.set_cons_succ]
  refine' wpAnyT_take (i := 11) (v := _) hZ (op_at' rfl) (by rfl) (by kernel_rfl) (by kernel_rfl) (by kernel_rfl) (by kernel_rfl) (fun _ _ _ h => h) (Or.inl ⟨by rfl, ?hy105⟩) (by assumption) ?rest105
  case hy105 =>
    intro w' hS
    go_simp
    try with_reducible rfl
  try simp only [Act.put, List.setIfInBounds_toArray, List.set_cons_zero, List.set_cons_succ]
  refine' wpAnyT_take (i := 12) (v := _) hZ (op_at' rfl) (by rfl) (by kernel_rfl) (by kernel_rfl) (by kernel_rfl) (by kernel_rfl) (fun _ _ _ h => h) (Or.inl ⟨by rfl, ?hy106⟩) (by assumption) ?rest106
  case hy106 =>
    intro w' hS
    have h8 := one_cell nc_len (x := x) (own_only (show w6.drew.ownsRow 0 50 9 (.slice (some ⟨g, 0, none⟩) 1 k) 1 (fl nc [x]) from HL8.out ▸ sD.head) hS hNg) 8 (v := x.cv) rfl
    go_simp
    try with_reducible rfl
  try simp only [Act.put, List.setIfInBounds_toArray, List.set_cons_zero, List.set_cons_succ]
  refine' wpAnyT_take (i := 13) (v := _) hZ (op_at' rfl) (by rfl) (by kernel_rfl) (by kernel_rfl) (by kernel_rfl) (by kernel_rfl) (fun _ _ _ h => h) (Or.inl ⟨by rfl, ?hy107⟩) (by assumption) ?rest107
  case hy107 =>
    intro w' hS
    have ht := hS.at (show w6.drew.heap[Z]? = _ from hZ6) hZg
    have ht0 := cell_two0 ht
    have ht1 := cell_two1 ht
    go_simp
    try with_reducible rfl
  try simp only [Act.put, List.setIfInBounds_toArray, List.set_cons_zero, List.set_cons_succ]
  refine wpAnyT_one (i := 14) (by kernel_rfl) (op_at' rfl) (fun K hK => ?_)
  refine step_buildSlice_one (by rfl) 32 _ (by rfl) 27 i0 _ (wc (u, d)) (by rfl) Try.underlying32 hi hz0 (by rw [hz1, wc_len]) (by rw [wc_len]; rfl) (by rw [wc_len]; decide) (by rw [wc_len]; decide) (fun Yn wS oS hYl hYS => ?_)
  go_wp2_with fail
  refine hK.out _ _ (oS.mono (by simp)) (fun hHeld => ?_)
  clear hK K
  try simp only [Act.put, List.setIfInBounds_toArray, List.set_cons_zero, List.set_cons_succ]
  refine wpAnyT_one (i := 15) (by kernel_rfl) (op_at' rfl) (fun K hK => ?_)
  refine step_append_sep (by rfl) _ _ 32 (by rfl) 27 i0 _ 2 16 Try.underlying32 hi hz0 hz1 hz2 (by rfl) (by decide) x.cv came.length _ (by rfl) ((sD.quiet oS).sel 3 [2, 0, 1]) _ 1 (wc (u, d)) (by rfl) (src_blk hYS (by rw [wc_len])) (wc_one _) (by unfold maxLen; omega) (by omega) (fun a7 c7 w7 o7 s7 => ?_)
  go_wp2_with fail
  refine hK.out _ _ ((oS.mono (by simp)).trans o7) (fun hHeld => ?_)
  clear hK K
  try simp only [Act.put, List.setIfInBounds_toArray, List.set_cons_zero, List.set_cons_succ]
  refine' wpAnyT_take (i := 16) (v := _) hZ (op_at' rfl) (by rfl) (by kernel_rfl) (by kernel_rfl) (by kernel_rfl) (by kernel_rfl) (fun _ _ _ h => h) (Or.inl ⟨by rfl, ?hy108⟩) (by assumption) ?rest108
  case hy108 =>
    intro w' hS
    go_simp
    try with_reducible rfl
  try simp only [Act.put, List.setIfInBounds_toArray, List.set_cons_zero, List.set_cons_succ]
  refine' wpAnyT_take (i := 17) (v := _) hZ (op_at' rfl) (by rfl) (by kernel_rfl) (by kernel_rfl) (by kernel_rfl) (by kernel_rfl) (fun _ _ _ h => h) (Or.inl ⟨by rfl, ?hy109⟩) (by assumption) ?rest109
  case hy109 =>
    intro w' hS
    go_simp
    try with_reducible rfl
  try simp only [Act.put, List.setIfInBounds_toArray, List.set_cons_zero, List.set_cons_succ]
  refine wpAnyT_last (by kernel_rfl) (op_at' rfl) (by kernel_rfl) (fun K hK => ?_)
  refine step_store_rec (by rfl) 32 _ _ (by rfl) g 8 (.slice a7 (came.length + 1) c7) [.slice a7 (came.length + 1) c7] (by rfl) 50 9 1 k _ (by rfl) (by rfl) (s7.sel 2 [1, 0]) (by simp) (by kernel_rfl) (by simp [Value.oneCell']) (fun w18 o18 s18 => ?_)
  go_wp2_with fail
  refine hK.out _ _ ?_
  clear hK K
  try simp only [Act.put, List.setIfInBounds_toArray, List.set_cons_zero, List.set_cons_succ]
  have e8 : setL L8 8 [.slice a7 (came.length + 1) c7] = fl nc [(⟨x.fu, x.fd, x.n, x.to, x.t, x.tk, x.ls, x.av, .slice a7 (came.length + 1) c7, ⟨x.ok.1, x.ok.2.1, rfl⟩⟩ : No)] := by
    rw [HL8.out, fl_one1, fl_one1]
    simp [nc, setL]
  have hfl : fl wc came ++ wc (u, d) = fl wc (came ++ [(u, d)]) := by rw [fl_snoc]
  rw [e8, hfl] at s18
  clear e8 hfl sD s7 hB3 hBg hZg hNg hZw hZ6
  go_wp2_with fail
  go_ret
  refine ⟨rfl, ⟨x.fu, x.fd, x.n, x.to, x.t, x.tk, x.ls, x.av, .slice a7 (came.length + 1) c7, ⟨x.ok.1, x.ok.2.1, rfl⟩⟩, rfl, rfl, rfl, rfl, rfl, rfl, ?_⟩
  have e1 : (came ++ [(u, d)]).length = came.length + 1 := by simp
  unfold comeR modR
  rw [e1]
  exact s18.sel 6 [3, 2, 0, 4, 1, 5]
end Go.Proofs.Ytjhhlgfbocpniaa
