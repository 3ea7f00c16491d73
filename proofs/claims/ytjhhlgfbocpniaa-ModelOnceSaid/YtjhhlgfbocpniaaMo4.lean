/- New, Link, Send of layer 25 (model). Printed by gen_mo4.py. -/
import Derived.Test.YtjhhlgfbocpniaaMo3
namespace Go.Proofs.Ytjhhlgfbocpniaa
open Go.RowKit Go.Pw
set_option linter.unusedVariables false

theorem mb_len (v : Value) (cs : List Int) (nv : Value) (h : cs.length = 8) : (mb v cs nv).length = 10 := by simp [mb, h]
theorem mb_set (v : Value) (cs : List Int) (nv : Value) (i : Nat) (h : i < cs.length) (c : Int) : setL (mb v cs nv) (1 + i) [.int .i64 c] = mb v (cs.set i c) nv := by
  have : 1 + i = i + 1 := Nat.add_comm _ _
  simp [setL, mb, this, List.set_append, h]
theorem mb_set0 (v v' : Value) (cs : List Int) (nv : Value) : setL (mb v cs nv) 0 [v'] = mb v' cs nv := rfl
theorem mb_set9 (v : Value) (cs : List Int) (nv nv' : Value) (h : cs.length = 8) : setL (mb v cs nv) 9 [nv'] = mb v cs nv' := by
  simp [setL, mb, List.set_append, h]

theorem new_any (w : World) : Calls Try.prog 5 #[] w fun e w' => e = .returned (.pointer (some ⟨w.heap.size, 0, none⟩)) ∧ Sep w w' (modR w.heap.size (.slice none 0 0) [] (List.replicate 8 0) (.slice none 0 0) [] []) := by
  have s0 := (Sep.nil w).box (mb (.slice none 0 0) (List.replicate 8 0) (.slice none 0 0)) 44
  have s1 := (s0.rown 27 2)
  have s2 := (s1.rown 50 9).sel 3 [1, 2, 0]
  go_enter Try.func5, Try.ntmps5
  go_wp2
  go_ret
  exact ⟨rfl, s2⟩

/-- What Link leaves. -/
def Linked (w0 : World) (rs : List Res) (B : Nat) (on : List (Int × Int)) (cs : List Int) (nv : Value) (ns : List No) (e : Ending) (w' : World) : Prop :=
  e = .returned (.int .i64 0) ∧ ∃ a c, Sep w0 w' (modR B (.slice a on.length c) on cs nv ns rs)

set_option maxRecDepth 100000 in
set_option maxHeartbeats 1600000 in
theorem link_ok {w0 : World} {rs : List Res} (B : Nat) (on : List (Int × Int)) (cs : List Int) (v nv : Value) (ns : List No) (u : Nat) (n : Int) (w : World) (h : Sep w0 w (modR B v on cs nv ns rs)) (hc8 : cs.length = 8) (hl : on.length ≤ 11) (hu : u < 8) (hn : cs[u]? = some n) (hn0 : 0 ≤ n ∧ n ≤ 1000)
    (hfew : (on.filter fun p => p.1 == (u : Int)).length < 4) (hup : Up (on ++ [((u : Int), n + 1)])) :
    Calls Try.prog 6 #[.pointer (some ⟨B, 0, none⟩), wv u (n + 1)] w (Linked w0 rs B (on ++ [((u : Int), n + 1)]) (cs.set u (n + 1)) nv ns) := by
  obtain ⟨i0, hi, hz0, hz1, hz2⟩ := info_parts who_info
  obtain ⟨ao, c, rfl⟩ := own_slice (show w.ownsRow 0 _ 2 v on.length (fl wc on) from h.head)
  obtain ⟨vv, hvv⟩ : ∃ vv, vv = Value.slice ao on.length c := ⟨_, rfl⟩
  rw [← hvv] at h
  clear hvv
  have hul : u < cs.length := by omega
  have hnn : cs[u] = n := by rw [List.getElem?_eq_getElem hul] at hn; exact Option.some.inj hn
  have hBu := fun (w' : World) (h' : w'.heap[B]? = some (.cells (mb vv cs nv).toArray 44 (0, 0))) => hnn ▸ (cell_in h' (1 + u)).trans (mb_i vv cs nv u hul)
  have HBs := Lib.hid (mb_set vv cs nv u hul (n + 1))
  have hc8' : (cs.set u (n + 1)).length = 8 := by simpa using hc8
  have hml := mb_len vv cs nv hc8
  have huI : (u : Int) < 8 := by omega
  have du8 : decide ((8 : Int) ≤ (u : Int)) = false := by simp; omega
  have hwn : IntKind.i64.wrap (n + 1) = n + 1 := by rw [IntKind.wrap_i64]; omega
  have Hwn := Lib.hid hwn
  have Hup := Lib.hid hup
  have h1c : ([.int .i64 (u : Int), .int .i64 (n + 1)] : List Value).toArray.all (·.oneCell') = true := by simp [Value.oneCell']
  clear hn hnn hul hwn hup
  simp only [wv]
  go_enter Try.func6, Try.ntmps6
  go_upto_region 1 with ((refine wpList_box_new rfl 27 _ rfl (.agg #[.int .i64 (u : Int), .int .i64 (n + 1)]) rfl ?_; intro Z wZ oZ hZl hZb))
  have s1 : Sep w0 wZ (blk Z [.int .i64 (u : Int), .int .i64 (n + 1)] 27 :: modR B vv on cs nv ns rs) := h.add oZ hZb (fun k hk => by simp [blk] at hk; omega)
  clear h oZ hZl
  refine wp_region_held_drew (S := fun w' => Only wZ.drew w' []) (by kernel_rfl) (Only.refl _ _) (fun hHeld => ?_)
  refine' wpAnyH_take (i := 0) (v := _) (op_at rfl) (by kernel_rfl) (by kernel_rfl) (by kernel_rfl) (fun _ _ _ h => h) (Or.inl ⟨by rfl, ?hy1⟩) (by assumption) ?rest1
  case hy1 =>
    intro w' hS
    go_simp
    try with_reducible rfl
  try simp only [Act.put, List.setIfInBounds_toArray, List.set_cons_zero, List.set_cons_succ]
  refine' wpAnyH_take (i := 1) (v := _) (op_at rfl) (by kernel_rfl) (by kernel_rfl) (by kernel_rfl) (fun _ _ _ h => h) (Or.inl ⟨by rfl, ?hy2⟩) (by assumption) ?rest2
  case hy2 =>
    intro w' hS
    have hwn := Hwn.out
    go_simp
    try with_reducible rfl
  try simp only [Act.put, List.setIfInBounds_toArray, List.set_cons_zero, List.set_cons_succ]
  refine' wpAnyH_take (i := 2) (v := _) (op_at rfl) (by kernel_rfl) (by kernel_rfl) (by kernel_rfl) (fun _ _ _ h => h) (Or.inl ⟨by rfl, ?hy3⟩) (by assumption) ?rest3
  case hy3 =>
    intro w' hS
    go_simp
    try with_reducible rfl
  try simp only [Act.put, List.setIfInBounds_toArray, List.set_cons_zero, List.set_cons_succ]
  refine' wpAnyH_take (i := 3) (v := _) (op_at rfl) (by kernel_rfl) (by kernel_rfl) (by kernel_rfl) (fun _ _ _ h => h) (Or.inl ⟨by rfl, ?hy4⟩) (by assumption) ?rest4
  case hy4 =>
    intro w' hS
    go_simp
    try with_reducible rfl
  try simp only [Act.put, List.setIfInBounds_toArray, List.set_cons_zero, List.set_cons_succ]
  refine' wpAnyH_take (i := 4) (v := _) (op_at rfl) (by kernel_rfl) (by kernel_rfl) (by kernel_rfl) (fun _ _ _ h => h) (Or.inl ⟨by rfl, ?hy5⟩) (by assumption) ?rest5
  case hy5 =>
    intro w' hS
    have hZ_ := (((Only.drew wZ []).trans hS).at hZb (by simp))
    have ht0 := cell_two0 hZ_
    have ht1 := cell_two1 hZ_
    have hb := hBu w' (show w'.heap[B]? = _ from (s1.quiet ((Only.drew wZ []).trans hS)).tail.tail.head)
    go_simp
    try with_reducible rfl
  try simp only [Act.put, List.setIfInBounds_toArray, List.set_cons_zero, List.set_cons_succ]
  refine' wpAnyH_take (i := 5) (v := _) (op_at rfl) (by kernel_rfl) (by kernel_rfl) (by kernel_rfl) (fun _ _ _ h => h) (Or.inl ⟨by rfl, ?hy6⟩) (by assumption) ?rest6
  case hy6 =>
    intro w' hS
    have hwn := Hwn.out
    go_simp
    try with_reducible rfl
  try simp only [Act.put, List.setIfInBounds_toArray, List.set_cons_zero, List.set_cons_succ]
  refine' wpAnyH_take (i := 6) (v := _) (op_at rfl) (by kernel_rfl) (by kernel_rfl) (by kernel_rfl) (fun _ _ _ h => h) (Or.inl ⟨by rfl, ?hy7⟩) (by assumption) ?rest7
  case hy7 =>
    intro w' hS
    go_simp
    try with_reducible rfl
  try simp only [Act.put, List.setIfInBounds_toArray, List.set_cons_zero, List.set_cons_succ]
  refine' wpAnyH_take (i := 7) (v := _) (op_at rfl) (by kernel_rfl) (by kernel_rfl) (by kernel_rfl) (fun _ _ _ h => h) (Or.inl ⟨by rfl, ?hy8⟩) (by assumption) ?rest8
  case hy8 =>
    intro w' hS
    go_simp
    try with_reducible rfl
  try simp only [Act.put, List.setIfInBounds_toArray, List.set_cons_zero, List.set_cons_succ]
  refine' wpAnyH_take (i := 8) (v := _) (op_at rfl) (by kernel_rfl) (by kernel_rfl) (by kernel_rfl) (fun _ _ _ h => h) (Or.inl ⟨by rfl, ?hy9⟩) (by assumption) ?rest9
  case hy9 =>
    intro w' hS
    go_simp
    try with_reducible rfl
  try simp only [Act.put, List.setIfInBounds_toArray, List.set_cons_zero, List.set_cons_succ]
  refine' wpAnyH_take (i := 9) (v := _) (op_at rfl) (by kernel_rfl) (by kernel_rfl) (by kernel_rfl) (fun _ _ _ h => h) (Or.inl ⟨by rfl, ?hy10⟩) (by assumption) ?rest10
  case hy10 =>
    intro w' hS
    have hZ_ := (((Only.drew wZ []).trans hS).at hZb (by simp))
    have ht0 := cell_two0 hZ_
    have ht1 := cell_two1 hZ_
    have hb := hBu w' (show w'.heap[B]? = _ from (s1.quiet ((Only.drew wZ []).trans hS)).tail.tail.head)
    go_simp
    try with_reducible rfl
  try simp only [Act.put, List.setIfInBounds_toArray, List.set_cons_zero, List.set_cons_succ]
  refine' wpAnyH_take (i := 10) (v := _) (op_at rfl) (by kernel_rfl) (by kernel_rfl) (by kernel_rfl) (fun _ _ _ h => h) (Or.inl ⟨by rfl, ?hy11⟩) (by assumption) ?rest11
  case hy11 =>
    intro w' hS
    have hwn := Hwn.out
    go_simp
    try with_reducible rfl
  try simp only [Act.put, List.setIfInBounds_toArray, List.set_cons_zero, List.set_cons_succ]
  refine' wpAnyH_take (i := 11) (v := _) (op_at rfl) (by kernel_rfl) (by kernel_rfl) (by kernel_rfl) (fun _ _ _ h => h) (Or.inl ⟨by rfl, ?hy12⟩) (by assumption) ?rest12
  case hy12 =>
    intro w' hS
    go_simp
    try with_reducible rfl
  try simp only [Act.put, List.setIfInBounds_toArray, List.set_cons_zero, List.set_cons_succ]
  refine' wpAnyH_take (i := 12) (v := _) (op_at rfl) (by kernel_rfl) (by kernel_rfl) (by kernel_rfl) (fun _ _ _ h => h) (Or.inl ⟨by rfl, ?hy13⟩) (by assumption) ?rest13
  case hy13 =>
    intro w' hS
    go_simp
    try with_reducible rfl
  try simp only [Act.put, List.setIfInBounds_toArray, List.set_cons_zero, List.set_cons_succ]
  refine' wpAnyH_take (i := 13) (v := _) (op_at rfl) (by kernel_rfl) (by kernel_rfl) (by kernel_rfl) (fun _ _ _ h => h) (Or.inl ⟨by rfl, ?hy14⟩) (by assumption) ?rest14
  case hy14 =>
    intro w' hS
    go_simp
    try with_reducible rfl
  try simp only [Act.put, List.setIfInBounds_toArray, List.set_cons_zero, List.set_cons_succ]
  refine' wpAnyH_take (i := 14) (v := _) (op_at rfl) (by kernel_rfl) (by kernel_rfl) (by kernel_rfl) (fun _ _ _ h => h) (Or.inl ⟨by rfl, ?hy15⟩) (by assumption) ?rest15
  case hy15 =>
    intro w' hS
    have hZ_ := (((Only.drew wZ []).trans hS).at hZb (by simp))
    have ht0 := cell_two0 hZ_
    have ht1 := cell_two1 hZ_
    have hb := hBu w' (show w'.heap[B]? = _ from (s1.quiet ((Only.drew wZ []).trans hS)).tail.tail.head)
    go_simp
    try with_reducible rfl
  try simp only [Act.put, List.setIfInBounds_toArray, List.set_cons_zero, List.set_cons_succ]
  refine' wpAnyH_take (i := 15) (v := _) (op_at rfl) (by kernel_rfl) (by kernel_rfl) (by kernel_rfl) (fun _ _ _ h => h) (Or.inl ⟨by rfl, ?hy16⟩) (by assumption) ?rest16
  case hy16 =>
    intro w' hS
    go_simp
    try with_reducible rfl
  try simp only [Act.put, List.setIfInBounds_toArray, List.set_cons_zero, List.set_cons_succ]
  refine' wpAnyH_take (i := 16) (v := _) (op_at rfl) (by kernel_rfl) (by kernel_rfl) (by kernel_rfl) (fun _ _ _ h => h) (Or.inl ⟨by rfl, ?hy17⟩) (by assumption) ?rest17
  case hy17 =>
    intro w' hS
    go_simp
    try with_reducible rfl
  try simp only [Act.put, List.setIfInBounds_toArray, List.set_cons_zero, List.set_cons_succ]
  refine' wpAnyH_take (i := 17) (v := _) (op_at rfl) (by kernel_rfl) (by kernel_rfl) (by kernel_rfl) (fun _ _ _ h => h) (Or.inl ⟨by rfl, ?hy18⟩) (by assumption) ?rest18
  case hy18 =>
    intro w' hS
    have hZ_ := (((Only.drew wZ []).trans hS).at hZb (by simp))
    have ht0 := cell_two0 hZ_
    have ht1 := cell_two1 hZ_
    have hb := hBu w' (show w'.heap[B]? = _ from (s1.quiet ((Only.drew wZ []).trans hS)).tail.tail.head)
    go_simp
    try with_reducible rfl
  try simp only [Act.put, List.setIfInBounds_toArray, List.set_cons_zero, List.set_cons_succ]
  refine' wpAnyH_take (i := 18) (v := _) (op_at rfl) (by kernel_rfl) (by kernel_rfl) (by kernel_rfl) (fun _ _ _ h => h) (Or.inl ⟨by rfl, ?hy19⟩) (by assumption) ?rest19
  case hy19 =>
    intro w' hS
    go_simp
    try with_reducible rfl
  try simp only [Act.put, List.setIfInBounds_toArray, List.set_cons_zero, List.set_cons_succ]
  refine' wpAnyH_take (i := 19) (v := _) (op_at rfl) (by kernel_rfl) (by kernel_rfl) (by kernel_rfl) (fun _ _ _ h => h) (Or.inl ⟨by rfl, ?hy20⟩) (by assumption) ?rest20
  case hy20 =>
    intro w' hS
    go_simp
    try with_reducible rfl
  try simp only [Act.put, List.setIfInBounds_toArray, List.set_cons_zero, List.set_cons_succ]
  refine' wpAnyH_take (i := 20) (v := _) (op_at rfl) (by kernel_rfl) (by kernel_rfl) (by kernel_rfl) (fun _ _ _ h => h) (Or.inl ⟨by rfl, ?hy21⟩) (by assumption) ?rest21
  case hy21 =>
    intro w' hS
    go_simp
    try with_reducible rfl
  try simp only [Act.put, List.setIfInBounds_toArray, List.set_cons_zero, List.set_cons_succ]
  refine' wpAnyH_take (i := 21) (v := _) (op_at rfl) (by kernel_rfl) (by kernel_rfl) (by kernel_rfl) (fun _ _ _ h => h) (Or.inl ⟨by rfl, ?hy22⟩) (by assumption) ?rest22
  case hy22 =>
    intro w' hS
    have hZ_ := (((Only.drew wZ []).trans hS).at hZb (by simp))
    have ht0 := cell_two0 hZ_
    have ht1 := cell_two1 hZ_
    have hb := hBu w' (show w'.heap[B]? = _ from (s1.quiet ((Only.drew wZ []).trans hS)).tail.tail.head)
    go_simp
    try with_reducible rfl
  try simp only [Act.put, List.setIfInBounds_toArray, List.set_cons_zero, List.set_cons_succ]
  refine' wpAnyH_take (i := 22) (v := _) (op_at rfl) (by kernel_rfl) (by kernel_rfl) (by kernel_rfl) (fun _ _ _ h => h) (Or.inl ⟨by rfl, ?hy23⟩) (by assumption) ?rest23
  case hy23 =>
    intro w' hS
    have hwn := Hwn.out
    go_simp
    try with_reducible rfl
  try simp only [Act.put, List.setIfInBounds_toArray, List.set_cons_zero, List.set_cons_succ]
  refine' wpAnyH_take (i := 23) (v := _) (op_at rfl) (by kernel_rfl) (by kernel_rfl) (by kernel_rfl) (fun _ _ _ h => h) (Or.inl ⟨by rfl, ?hy24⟩) (by assumption) ?rest24
  case hy24 =>
    intro w' hS
    have hwn := Hwn.out
    go_simp
    try with_reducible rfl
  try simp only [Act.put, List.setIfInBounds_toArray, List.set_cons_zero, List.set_cons_succ]
  refine' wpAnyH_take (i := 24) (v := _) (op_at rfl) (by kernel_rfl) (by kernel_rfl) (by kernel_rfl) (fun _ _ _ h => h) (Or.inl ⟨by rfl, ?hy25⟩) (by assumption) ?rest25
  case hy25 =>
    intro w' hS
    go_simp
    try with_reducible rfl
  try simp only [Act.put, List.setIfInBounds_toArray, List.set_cons_zero, List.set_cons_succ]
  refine' wpAnyH_take (i := 25) (v := _) (op_at rfl) (by kernel_rfl) (by kernel_rfl) (by kernel_rfl) (fun _ _ _ h => h) (Or.inl ⟨by rfl, ?hy26⟩) (by assumption) ?rest26
  case hy26 =>
    intro w' hS
    go_simp
    try with_reducible rfl
  try simp only [Act.put, List.setIfInBounds_toArray, List.set_cons_zero, List.set_cons_succ]
  refine wpAnyH_done (by kernel_rfl) ?_ _
  have s2 := s1.quiet ((Only.drew wZ []).trans hHeld)
  generalize hW2 : wZ.drew = w2 at *
  clear s1 hHeld hW2 hZb wZ
  have hZb : w2.heap[Z]? = some (.cells #[.int .i64 (u : Int), .int .i64 (n + 1)] 27 (0, 0)) := s2.head
  have hz0' := cell_two0 hZb
  have hz1' := cell_two1 hZb
  have Hlist := list_any B on cs vv nv u w2 (s2.sel 3 [1, 2]) (by omega)
  obtain ⟨m, hm⟩ : ∃ m, m = (on.filter fun p => p.1 == (u : Int)).length := ⟨_, rfl⟩
  unfold Whos at Hlist
  rw [← hm] at Hlist hfew
  have d4 : decide ((4 : Int) ≤ (m : Int)) = false := by simp; omega
  clear hm
  go_wp2_with fail
  refine Hlist.mono ?_
  rintro e w3 ⟨a3, c3, rfl, s3⟩
  have s4 := (s2.quiet s3.only)
  clear s3 s2 hZb hz0' hz1' Hlist
  go_upto_region 5 with fail
  have hZb : w3.heap[Z]? = some (.cells #[.int .i64 (u : Int), .int .i64 (n + 1)] 27 (0, 0)) := s4.head
  have hB3 : w3.heap[B]? = some (.cells (mb vv cs nv).toArray 44 (0, 0)) := (s4.sel 3 [2]).head
  have sD := s4.quiet (Only.drew w3 [])
  clear s4
  refine wp_region_t (S := fun w' => Only w3.drew w' []) 11 (by kernel_rfl) (by kernel_rfl) (Only.refl _ _) (fun hZ hHeld => ?_)
  refine' wpAnyT_take (i := 0) (v := _) hZ (op_at' rfl) (by rfl) (by kernel_rfl) (by kernel_rfl) (by kernel_rfl) (by kernel_rfl) (fun _ _ _ h => h) (Or.inl ⟨by rfl, ?hy27⟩) (by assumption) ?rest27
  case hy27 =>
    intro w' hS
    go_simp
    try with_reducible rfl
  try simp only [Act.put, List.setIfInBounds_toArray, List.set_cons_zero, List.set_cons_succ]
  refine' wpAnyT_take (i := 1) (v := _) hZ (op_at' rfl) (by rfl) (by kernel_rfl) (by kernel_rfl) (by kernel_rfl) (by kernel_rfl) (fun _ _ _ h => h) (Or.inl ⟨by rfl, ?hy28⟩) (by assumption) ?rest28
  case hy28 =>
    intro w' hS
    go_simp
    try with_reducible rfl
  try simp only [Act.put, List.setIfInBounds_toArray, List.set_cons_zero, List.set_cons_succ]
  refine' wpAnyT_take (i := 2) (v := _) hZ (op_at' rfl) (by rfl) (by kernel_rfl) (by kernel_rfl) (by kernel_rfl) (by kernel_rfl) (fun _ _ _ h => h) (Or.inl ⟨by rfl, ?hy29⟩) (by assumption) ?rest29
  case hy29 =>
    intro w' hS
    have hZ_ := (((Only.drew w3 []).trans hS).at hZb (by simp))
    have ht0 := cell_two0 hZ_
    have ht1 := cell_two1 hZ_
    have hb := hBu w' (hS.at (show w3.drew.heap[B]? = _ from hB3) (by simp))
    go_simp
    try with_reducible rfl
  try simp only [Act.put, List.setIfInBounds_toArray, List.set_cons_zero, List.set_cons_succ]
  refine' wpAnyT_take (i := 3) (v := _) hZ (op_at' rfl) (by rfl) (by kernel_rfl) (by kernel_rfl) (by kernel_rfl) (by kernel_rfl) (fun _ _ _ h => h) (Or.inl ⟨by rfl, ?hy30⟩) (by assumption) ?rest30
  case hy30 =>
    intro w' hS
    go_simp
    try with_reducible rfl
  try simp only [Act.put, List.setIfInBounds_toArray, List.set_cons_zero, List.set_cons_succ]
  refine' wpAnyT_take (i := 4) (v := _) hZ (op_at' rfl) (by rfl) (by kernel_rfl) (by kernel_rfl) (by kernel_rfl) (by kernel_rfl) (fun _ _ _ h => h) (Or.inl ⟨by rfl, ?hy31⟩) (by assumption) ?rest31
  case hy31 =>
    intro w' hS
    go_simp
    try with_reducible rfl
  try simp only [Act.put, List.setIfInBounds_toArray, List.set_cons_zero, List.set_cons_succ]
  refine' wpAnyT_take (i := 5) (v := _) hZ (op_at' rfl) (by rfl) (by kernel_rfl) (by kernel_rfl) (by kernel_rfl) (by kernel_rfl) (fun _ _ _ h => h) (Or.inl ⟨by rfl, ?hy32⟩) (by assumption) ?rest32
  case hy32 =>
    intro w' hS
    go_simp
    try with_reducible rfl
  try simp only [Act.put, List.setIfInBounds_toArray, List.set_cons_zero, List.set_cons_succ]
  refine' wpAnyT_take (i := 6) (v := _) hZ (op_at' rfl) (by rfl) (by kernel_rfl) (by kernel_rfl) (by kernel_rfl) (by kernel_rfl) (fun _ _ _ h => h) (Or.inl ⟨by rfl, ?hy33⟩) (by assumption) ?rest33
  case hy33 =>
    intro w' hS
    have hZ_ := (((Only.drew w3 []).trans hS).at hZb (by simp))
    have ht0 := cell_two0 hZ_
    have ht1 := cell_two1 hZ_
    have hb := hBu w' (hS.at (show w3.drew.heap[B]? = _ from hB3) (by simp))
    go_simp
    try with_reducible rfl
  try simp only [Act.put, List.setIfInBounds_toArray, List.set_cons_zero, List.set_cons_succ]
  refine' wpAnyT_take (i := 7) (v := _) hZ (op_at' rfl) (by rfl) (by kernel_rfl) (by kernel_rfl) (by kernel_rfl) (by kernel_rfl) (fun _ _ _ h => h) (Or.inl ⟨by rfl, ?hy34⟩) (by assumption) ?rest34
  case hy34 =>
    intro w' hS
    have hwn := Hwn.out
    go_simp
    try with_reducible rfl
  try simp only [Act.put, List.setIfInBounds_toArray, List.set_cons_zero, List.set_cons_succ]
  refine' wpAnyT_take (i := 8) (v := _) hZ (op_at' rfl) (by rfl) (by kernel_rfl) (by kernel_rfl) (by kernel_rfl) (by kernel_rfl) (fun _ _ _ h => h) (Or.inl ⟨by rfl, ?hy35⟩) (by assumption) ?rest35
  case hy35 =>
    intro w' hS
    go_simp
    try with_reducible rfl
  try simp only [Act.put, List.setIfInBounds_toArray, List.set_cons_zero, List.set_cons_succ]
  refine' wpAnyT_take (i := 9) (v := _) hZ (op_at' rfl) (by rfl) (by kernel_rfl) (by kernel_rfl) (by kernel_rfl) (by kernel_rfl) (fun _ _ _ h => h) (Or.inl ⟨by rfl, ?hy36⟩) (by assumption) ?rest36
  case hy36 =>
    intro w' hS
    go_simp
    try with_reducible rfl
  try simp only [Act.put, List.setIfInBounds_toArray, List.set_cons_zero, List.set_cons_succ]
  refine' wpAnyT_take (i := 10) (v := _) hZ (op_at' rfl) (by rfl) (by kernel_rfl) (by kernel_rfl) (by kernel_rfl) (by kernel_rfl) (fun _ _ _ h => h) (Or.inl ⟨by rfl, ?hy37⟩) (by assumption) ?rest37
  case hy37 =>
    intro w' hS
    go_simp
    try with_reducible rfl
  try simp only [Act.put, List.setIfInBounds_toArray, List.set_cons_zero, List.set_cons_succ]
  refine wpAnyT_last (by kernel_rfl) (op_at' rfl) (by kernel_rfl) (fun K hK => ?_)
  refine step_store_blk (by rfl) 3 _ _ (by rfl) B (1 + u) (.int .i64 (n + 1)) [.int .i64 (n + 1)] (mb vv cs nv) 44 (by rfl) (by rfl) (by rfl) ((sD.quiet hHeld).sel 3 [2, 1, 0]) (by rw [hml]; simp; omega) (by kernel_rfl) (by simp [Value.oneCell']) (fun w5 o5 s5 => ?_)
  go_wp2_with fail
  refine hK.out _ _ ?_
  clear hK K
  try simp only [Act.put, List.setIfInBounds_toArray, List.set_cons_zero, List.set_cons_succ]
  have s6 : Sep w0 w5 (blk Z [.int .i64 (u : Int), .int .i64 (n + 1)] 27 :: modR B vv on (cs.set u (n + 1)) nv ns rs) := by
    rw [HBs.out] at s5
    exact s5.sel 4 [2, 1, 0, 3]
  clear s5 sD hZb hB3 hBu HBs hHeld
  generalize cs.set u (n + 1) = cs at *
  go_upto_region 6 with fail
  have hZb : w5.heap[Z]? = some (.cells #[.int .i64 (u : Int), .int .i64 (n + 1)] 27 (0, 0)) := s6.head
  have hB3 : w5.heap[B]? = some (.cells (mb vv cs nv).toArray 44 (0, 0)) := (s6.sel 3 [2]).head
  have hBg : B ∉ vv.ownBlock.toList := fun hk => s6.two_at (i := 1) (j := 2) rfl rfl (by decide) B hk (by simp [blk])
  have hZg : Z ∉ vv.ownBlock.toList := fun hk => s6.two_at (i := 1) (j := 0) rfl rfl (by decide) Z hk (by simp [blk])
  have sD : Sep w0 w5.drew (row 27 2 vv on.length (fl wc on) :: blk B (mb vv cs nv) 44 :: row 50 9 nv ns.length (fl nc ns) :: blk Z [.int .i64 (u : Int), .int .i64 (n + 1)] 27 :: rs) := (s6.quiet (Only.drew w5 [])).sel 4 [1, 2, 3, 0]
  have hfl : Hid (fl wc on ++ wc ((u : Int), n + 1) = fl wc (on ++ [((u : Int), n + 1)])) := by show _ = _; rw [fl_snoc]
  clear s6
  refine wp_region_t (S := fun w' => Only w5.drew w' vv.ownBlock.toList) 10 (by kernel_rfl) (by kernel_rfl) (Only.refl _ _) (fun hZ hHeld => ?_)
  refine' wpAnyT_take (i := 0) (v := _) hZ (op_at' rfl) (by rfl) (by kernel_rfl) (by kernel_rfl) (by kernel_rfl) (by kernel_rfl) (fun _ _ _ h => h) (Or.inl ⟨by rfl, ?hy38⟩) (by assumption) ?rest38
  case hy38 =>
    intro w' hS
    go_simp
    try with_reducible rfl
  try simp only [Act.put, List.setIfInBounds_toArray, List.set_cons_zero, List.set_cons_succ]
  refine' wpAnyT_take (i := 1) (v := _) hZ (op_at' rfl) (by rfl) (by kernel_rfl) (by kernel_rfl) (by kernel_rfl) (by kernel_rfl) (fun _ _ _ h => h) (Or.inl ⟨by rfl, ?hy39⟩) (by assumption) ?rest39
  case hy39 =>
    intro w' hS
    go_simp
    try with_reducible rfl
  try simp only [Act.put, List.setIfInBounds_toArray, List.set_cons_zero, List.set_cons_succ]
  refine' wpAnyT_take (i := 2) (v := _) hZ (op_at' rfl) (by rfl) (by kernel_rfl) (by kernel_rfl) (by kernel_rfl) (by kernel_rfl) (fun _ _ _ h => h) (Or.inl ⟨by rfl, ?hy40⟩) (by assumption) ?rest40
  case hy40 =>
    intro w' hS
    go_simp
    try with_reducible rfl
  try simp only [Act.put, List.setIfInBounds_toArray, List.set_cons_zero, List.set_cons_succ]
  refine' wpAnyT_take (i := 3) (v := _) hZ (op_at' rfl) (by rfl) (by kernel_rfl) (by kernel_rfl) (by kernel_rfl) (by kernel_rfl) (fun _ _ _ h => h) (Or.inl ⟨by rfl, ?hy41⟩) (by assumption) ?rest41
  case hy41 =>
    intro w' hS
    go_simp
    try with_reducible rfl
  try simp only [Act.put, List.setIfInBounds_toArray, List.set_cons_zero, List.set_cons_succ]
  refine' wpAnyT_take (i := 4) (v := _) hZ (op_at' rfl) (by rfl) (by kernel_rfl) (by kernel_rfl) (by kernel_rfl) (by kernel_rfl) (fun _ _ _ h => h) (Or.inl ⟨by rfl, ?hy42⟩) (by assumption) ?rest42
  case hy42 =>
    intro w' hS
    have hb := (cell_in (hS.at (show w5.drew.heap[B]? = _ from hB3) hBg) 0).trans (mb_0 vv cs nv)
    go_simp
    try with_reducible rfl
  try simp only [Act.put, List.setIfInBounds_toArray, List.set_cons_zero, List.set_cons_succ]
  refine' wpAnyT_take (i := 5) (v := _) hZ (op_at' rfl) (by rfl) (by kernel_rfl) (by kernel_rfl) (by kernel_rfl) (by kernel_rfl) (fun _ _ _ h => h) (Or.inl ⟨by rfl, ?hy43⟩) (by assumption) ?rest43
  case hy43 =>
    intro w' hS
    have hZ_ := hS.at (show w5.drew.heap[Z]? = _ from hZb) hZg
    have ht0 := cell_two0 hZ_
    have ht1 := cell_two1 hZ_
    go_simp
    try with_reducible rfl
  try simp only [Act.put, List.setIfInBounds_toArray, List.set_cons_zero, List.set_cons_succ]
  refine wpAnyT_one (i := 6) (by kernel_rfl) (op_at' rfl) (fun K hK => ?_)
  refine step_buildSlice_one (by rfl) 32 _ (by rfl) 27 i0 _ (wc ((u : Int), n + 1)) (by rfl) Try.underlying32 hi hz0 (by rw [hz1, wc_len]) (by rw [wc_len]; rfl) (by rw [wc_len]; decide) (by rw [wc_len]; decide) (fun Y wS oS hYl hYS => ?_)
  go_wp2_with fail
  refine hK.out _ _ (oS.mono (by simp)) (fun hHeld => ?_)
  clear hK K
  try simp only [Act.put, List.setIfInBounds_toArray, List.set_cons_zero, List.set_cons_succ]
  refine wpAnyT_one (i := 7) (by kernel_rfl) (op_at' rfl) (fun K hK => ?_)
  refine step_append_sep (by rfl) _ _ 32 (by rfl) 27 i0 _ 2 16 Try.underlying32 hi hz0 hz1 hz2 (by rfl) (by decide) vv on.length _ (by rfl) (sD.quiet oS) _ 1 (wc ((u : Int), n + 1)) (by rfl) (src_blk hYS (by rw [wc_len])) (wc_one _) (by unfold maxLen; omega) (by omega) (fun a7 c7 w7 o7 s7 => ?_)
  go_wp2_with fail
  refine hK.out _ _ ((oS.mono (by simp)).trans o7) (fun hHeld => ?_)
  clear hK K
  try simp only [Act.put, List.setIfInBounds_toArray, List.set_cons_zero, List.set_cons_succ]
  refine' wpAnyT_take (i := 8) (v := _) hZ (op_at' rfl) (by rfl) (by kernel_rfl) (by kernel_rfl) (by kernel_rfl) (by kernel_rfl) (fun _ _ _ h => h) (Or.inl ⟨by rfl, ?hy44⟩) (by assumption) ?rest44
  case hy44 =>
    intro w' hS
    go_simp
    try with_reducible rfl
  try simp only [Act.put, List.setIfInBounds_toArray, List.set_cons_zero, List.set_cons_succ]
  refine' wpAnyT_take (i := 9) (v := _) hZ (op_at' rfl) (by rfl) (by kernel_rfl) (by kernel_rfl) (by kernel_rfl) (by kernel_rfl) (fun _ _ _ h => h) (Or.inl ⟨by rfl, ?hy45⟩) (by assumption) ?rest45
  case hy45 =>
    intro w' hS
    go_simp
    try with_reducible rfl
  try simp only [Act.put, List.setIfInBounds_toArray, List.set_cons_zero, List.set_cons_succ]
  refine wpAnyT_last (by kernel_rfl) (op_at' rfl) (by kernel_rfl) (fun K hK => ?_)
  refine step_store_blk (by rfl) 32 _ _ (by rfl) B 0 (.slice a7 (on.length + 1) c7) [.slice a7 (on.length + 1) c7] (mb vv cs nv) 44 (by rfl) (by rfl) (by rfl) (s7.sel 2 [1, 0]) (by simp [mb]) (by kernel_rfl) (by simp [Value.oneCell']) (fun w8 o8 s8 => ?_)
  go_wp2_with fail
  refine hK.out _ _ ?_
  clear hK K
  try simp only [Act.put, List.setIfInBounds_toArray, List.set_cons_zero, List.set_cons_succ]
  have s9 : Sep w0 w8 (modR B (.slice a7 (on.length + 1) c7) (on ++ [((u : Int), n + 1)]) cs nv ns (blk Z [.int .i64 (u : Int), .int .i64 (n + 1)] 27 :: rs)) := by
    rw [mb_set0] at s8
    rw [hfl.out] at s8
    exact (show Sep w0 w8 (_ :: _ :: _) from s8).sel 2 [1, 0] |> fun q => by simpa [modR] using q
  have hB9 := ((cell_in (show w8.heap[B]? = _ from s9.tail.head) 0).trans (mb_0 _ cs nv))
  have Hsort := sort_same (on ++ [((u : Int), n + 1)]) _ w8 (show w8.ownsRow 0 27 2 (.slice a7 (on.length + 1) c7) (on ++ [((u : Int), n + 1)]).length (fl wc (on ++ [((u : Int), n + 1)])) from s9.head) (by simp; omega) Hup.out
  clear s8 sD hZb hB3 hBg hZg hfl
  go_wp2_with fail
  refine Hsort.mono ?_
  rintro e w9 ⟨rfl, o9⟩
  have s10 := s9.quiet o9
  clear hB9 Hsort s9
  go_wp2_with fail
  go_ret
  refine ⟨rfl, a7, c7, ?_⟩
  have e1 : (on ++ [((u : Int), n + 1)]).length = on.length + 1 := by simp
  rw [e1]
  exact s10.sel 4 [0, 1, 2]
end Go.Proofs.Ytjhhlgfbocpniaa
