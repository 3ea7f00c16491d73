/- post of layer 19 (server): taken, with 2 envelopes. Printed by gen_sv8.py. -/
import Derived.Test.YticojdepepkdlaaSv8
set_option linter.unusedSimpArgs false
set_option linter.unusedVariables false
namespace Go.Proofs.Yticojdepepkdlaa
open Go.RowKit Go.Pw
set_option linter.unusedVariables false

/-- What post leaves. -/
def Taken2 (w0 : World) (rs : List Res) (SB RB BM LM RX : Nat) (v : Value) (l : List Li) (bm lm : List ((Int × Int) × Value)) (logs : List Sn) (k u d n tr to : Int) (ev : Value) (X1 : Nat) (l1 : List It) (la1 : Int) (v1 : Value) (tu1 td1 : Int) (X2 : Nat) (l2 : List It) (la2 : Int) (v2 : Value) (tu2 td2 : Int) (nall : Nat) (e : Ending) (w' : World) : Prop :=
  e = .returned (.tuple #[]) ∧ ∃ (lv' : Value) (a : Option Addr) (c : Nat) (u1 : Value) (x1 : It) (u2 : Value) (x2 : It), Sep w0 w' (srvR SB RB BM LM v l bm (putM lm (u, d) (.agg #[.int .u32 n, .bool true])) lv' (logs ++ [(⟨u, d, n, to, .slice a nall c, rfl⟩ : Sn)]) (blk RX (rp0 k u d n tr) 49 :: box X1 u1 (l1 ++ [x1]) (la1 + 1) :: box X2 u2 (l2 ++ [x2]) (la2 + 1) :: row 32 1 ev 2 [v1, v2] :: row 5 1 v1 (eB u d tu1 td1).length ((eB u d tu1 td1).map (Value.int .u8)) :: row 5 1 v2 (eB u d tu2 td2).length ((eB u d tu2 td2).map (Value.int .u8)) :: rs))

set_option maxRecDepth 100000 in
set_option maxHeartbeats 2000000 in
theorem post_two {w0 : World} {rs : List Res} (SB RB BM LM RX : Nat) (v : Value) (l : List Li) (bm lm : List ((Int × Int) × Value)) (lv : Value) (logs : List Sn) (k u d n tr to : Int) (ev : Value) (up : Int) (vb : Value) (qs : List (Value × (Int × Int))) (X1 : Nat) (w1_ : Value) (l1 : List It) (la1 : Int) (v1 : Value) (tu1 td1 : Int) (X2 : Nat) (w2_ : Value) (l2 : List It) (la2 : Int) (v2 : Value) (tu2 td2 : Int) (w : World) (h : Sep w0 w (srvR SB RB BM LM v l bm lm lv logs (blk RX (rp0 k u d n tr) 49 :: box X1 w1_ l1 la1 :: box X2 w2_ l2 la2 :: row 32 1 ev 2 [v1, v2] :: row 5 1 v1 (eB u d tu1 td1).length ((eB u d tu1 td1).map (Value.int .u8)) :: row 5 1 v2 (eB u d tu2 td2).length ((eB u d tu2 td2).map (Value.int .u8)) :: rs))) (hlast : (getM lm (u, d)).getD (.agg #[.int .u32 0, .bool false]) = .agg #[.int .u32 0, .bool false]) (hn : 0 < n ∧ n < 4294967296) (hu : W32 u) (hd : W32 d) (hl : l.length ≤ 1000000) (hr : Rise l)
    (tos all : List (Int × Int)) (htl : tos.length ≤ 100) (hnd : tos.Nodup) (hqs : qs.map (·.2) = tos) (hall : audL l u d to = all) (hall1 : all.length ≤ 1000) (hall0 : 0 < all.length) (hlst : (listL l to).length ≠ 0)
    (hin1 : ∀ p ∈ all, hasW tos p.1 p.2 = true) (hin2 : ∀ p ∈ tos, hasW all p.1 p.2 = true) (rm : Int × Int → Int) (Hrooms : Rooms bm rm all w) (hany : all.any (fun p => decide (rm p < 1)) = false) (hqe : qs = [(v1, (tu1, td1)), (v2, (tu2, td2))]) (htos : tos = [(tu1, td1), (tu2, td2)]) (hw1 : W32 tu1 ∧ W32 td1) (hg1 : getM bm (tu1, td1) = some (.pointer (some ⟨X1, 0, none⟩))) (hll1 : l1.length < 32) (hla1 : 0 ≤ la1 ∧ la1 ≤ 1000000000)  (hw2 : W32 tu2 ∧ W32 td2) (hg2 : getM bm (tu2, td2) = some (.pointer (some ⟨X2, 0, none⟩))) (hll2 : l2.length < 32) (hla2 : 0 ≤ la2 ∧ la2 ≤ 1000000000) (hlog : logs.length ≤ 1000) :
    Calls Try.prog 21 #[.pointer (some ⟨SB, 0, none⟩), .agg (ac k u d n tr to ev up vb).toArray, .pointer (some ⟨RX, 0, none⟩)] w (Taken2 w0 rs SB RB BM LM RX v l bm lm logs k u d n tr to ev X1 l1 la1 v1 tu1 td1 X2 l2 la2 v2 tu2 td2 all.length) := by
  obtain ⟨j0, hj, hjz0, hjz1, hjz2⟩ := info_parts sent_info
  have HTOS := Lib.hid htos
  clear htos
  have Henv : Envs u d ev qs w := by
    subst hqe
    refine ⟨own_src (h.sel 11 [10]).head, fun q hq => ?_⟩
    simp only [List.mem_cons, List.not_mem_nil, or_false] at hq
    rcases hq with rfl | rfl
    · exact ⟨own_rd (h.sel 12 [11]).head, hw1.1, hw1.2⟩
    · exact ⟨own_rd (h.sel 13 [12]).head, hw2.1, hw2.2⟩
  have Haddr := fun (w' : World) (o : Only w w' []) => addressed_any k u d n tr to ev up vb qs w' (Henv.new o) hu hd (by rw [← List.length_map (f := (·.2)), hqs]; exact htl) (by rw [hqs]; exact hnd)
  rw [hqs] at Haddr
  have Haud := fun (w' : World) (o : Only w w' []) => audience_any RB l v u d to w' ((h.quiet o).sel 2 [0, 1]) hl hr
  rw [hall] at Haud
  have Hlist := fun (w' : World) (o : Only w w' []) => list_any RB l v to w' ((h.quiet o).sel 2 [0, 1]) hl hr
  obtain ⟨nl, hnl⟩ : ∃ nl, nl = (listL l to).length := ⟨_, rfl⟩
  unfold Whos at Hlist
  rw [← hnl] at Hlist hlst
  have dnl : ((nl : Int) == 0) = false := by simp; omega
  have dal : ((all.length : Int) == 0) = false := by simp only [beq_eq_false_iff_ne]; omega
  unfold Whos2 at Haddr
  unfold Whos at Haud
  clear hnl hlst hall hnd hqs hqe
  have hlk := fun (w' : World) (o : Only w w' []) => run_lookupW 67 101 (.agg #[.int .u32 0, .bool false]) LM lm (u, d) ((h.quiet o).sel 6 [5]) Try.underlying67 (fun _ => by kernel_rfl)
  rw [hlast] at hlk
  have g1 : (ac k u d n tr to ev up vb).toArray[1]? = some (.int .i64 u) := rfl
  have g2 : (ac k u d n tr to ev up vb).toArray[2]? = some (.int .i64 d) := rfl
  have g3 : (ac k u d n tr to ev up vb).toArray[3]? = some (.int .u32 n) := rfl
  have g5 : (ac k u d n tr to ev up vb).toArray[5]? = some (.int .i64 to) := rfl
  have g6 : (ac k u d n tr to ev up vb).toArray[6]? = some ev := rfl
  have hal := ac_len k u d n tr to ev up vb
  obtain ⟨cs, hcs⟩ : ∃ cs, cs = ac k u d n tr to ev up vb := ⟨_, rfl⟩
  have Hcs := Lib.hid hcs
  rw [← hcs] at g1 g2 g3 g5 g6 hal ⊢
  clear hlast hcs
  go_enter Try.func21, Try.ntmps21
  go_upto_region 1 with (first
    | (refine wpList_box_new rfl 24 _ rfl (.pointer (some ⟨SB, 0, none⟩)) rfl ?_; intro A wA oA hAl hA)
    | (refine wpList_box_new rfl 45 _ rfl (.agg cs.toArray) rfl ?_; intro Z wZ oZ hZl hZb))
  have sA : Sep w0 wA (blk A [.pointer (some ⟨SB, 0, none⟩)] 24 :: srvR SB RB BM LM v l bm lm lv logs (blk RX (rp0 k u d n tr) 49 :: box X1 w1_ l1 la1 :: box X2 w2_ l2 la2 :: row 32 1 ev 2 [v1, v2] :: row 5 1 v1 (eB u d tu1 td1).length ((eB u d tu1 td1).map (Value.int .u8)) :: row 5 1 v2 (eB u d tu2 td2).length ((eB u d tu2 td2).map (Value.int .u8)) :: rs)) := h.add oA hA (fun k hk => by simp [blk] at hk; omega)
  have sZ : Sep w0 wZ (blk Z cs 45 :: blk A [.pointer (some ⟨SB, 0, none⟩)] 24 :: srvR SB RB BM LM v l bm lm lv logs (blk RX (rp0 k u d n tr) 49 :: box X1 w1_ l1 la1 :: box X2 w2_ l2 la2 :: row 32 1 ev 2 [v1, v2] :: row 5 1 v1 (eB u d tu1 td1).length ((eB u d tu1 td1).map (Value.int .u8)) :: row 5 1 v2 (eB u d tu2 td2).length ((eB u d tu2 td2).map (Value.int .u8)) :: rs)) := sA.add oZ hZb (fun k hk => by simp [blk] at hk; omega)
  have sD := sZ.quiet (Only.drew wZ [])
  have oAZ := oA.trans oZ
  clear h sZ sA oA oZ hA hZb hAl hZl
  refine wp_region_t (S := fun w' => Only wZ.drew w' []) 8 (by kernel_rfl) (by kernel_rfl) (Only.refl _ _) (fun hZ hHeld => ?_)
  refine' wpAnyT_take (i := 0) (v := _) hZ (op_at' rfl) (by rfl) (by kernel_rfl) (by kernel_rfl) (by kernel_rfl) (by kernel_rfl) (fun _ _ _ h => h) (Or.inl ⟨by rfl, ?hy123⟩) (by assumption) ?rest123
  case hy123 =>
    intro w' hS
    have hc0 := cell_of_one (show w'.heap[A]? = _ from ((sD.quiet hS).sel 2 [1]).head)
    go_simp
    try with_reducible rfl
  try simp only [Act.put, List.setIfInBounds_toArray, List.set_cons_zero, List.set_cons_succ]
  refine' wpAnyT_take (i := 1) (v := _) hZ (op_at' rfl) (by rfl) (by kernel_rfl) (by kernel_rfl) (by kernel_rfl) (by kernel_rfl) (fun _ _ _ h => h) (Or.inl ⟨by rfl, ?hy124⟩) (by assumption) ?rest124
  case hy124 =>
    intro w' hS
    go_simp
    try with_reducible rfl
  try simp only [Act.put, List.setIfInBounds_toArray, List.set_cons_zero, List.set_cons_succ]
  refine' wpAnyT_take (i := 2) (v := _) hZ (op_at' rfl) (by rfl) (by kernel_rfl) (by kernel_rfl) (by kernel_rfl) (by kernel_rfl) (fun _ _ _ h => h) (Or.inl ⟨by rfl, ?hy125⟩) (by assumption) ?rest125
  case hy125 =>
    intro w' hS
    go_simp
    try with_reducible rfl
  try simp only [Act.put, List.setIfInBounds_toArray, List.set_cons_zero, List.set_cons_succ]
  refine' wpAnyT_take (i := 3) (v := _) hZ (op_at' rfl) (by rfl) (by kernel_rfl) (by kernel_rfl) (by kernel_rfl) (by kernel_rfl) (fun _ _ _ h => h) (Or.inl ⟨by rfl, ?hy126⟩) (by assumption) ?rest126
  case hy126 =>
    intro w' hS
    obtain ⟨c0, c1, c2, c3⟩ := sb_at ((sD.quiet hS).sel 6 [5]).head
    go_simp
    try with_reducible rfl
  try simp only [Act.put, List.setIfInBounds_toArray, List.set_cons_zero, List.set_cons_succ]
  refine' wpAnyT_take (i := 4) (v := _) hZ (op_at' rfl) (by rfl) (by kernel_rfl) (by kernel_rfl) (by kernel_rfl) (by kernel_rfl) (fun _ _ _ h => h) (Or.inl ⟨by rfl, ?hy127⟩) (by assumption) ?rest127
  case hy127 =>
    intro w' hS
    go_simp
    try with_reducible rfl
  try simp only [Act.put, List.setIfInBounds_toArray, List.set_cons_zero, List.set_cons_succ]
  refine' wpAnyT_take (i := 5) (v := _) hZ (op_at' rfl) (by rfl) (by kernel_rfl) (by kernel_rfl) (by kernel_rfl) (by kernel_rfl) (fun _ _ _ h => h) (Or.inl ⟨by rfl, ?hy128⟩) (by assumption) ?rest128
  case hy128 =>
    intro w' hS
    have hz_ := show w'.heap[Z]? = _ from (sD.quiet hS).head
    have z1 := (cell_in hz_ 1).trans g1
    have z2 := (cell_in hz_ 2).trans g2
    go_simp
    try with_reducible rfl
  try simp only [Act.put, List.setIfInBounds_toArray, List.set_cons_zero, List.set_cons_succ]
  refine' wpAnyT_take (i := 6) (v := _) hZ (op_at' rfl) (by rfl) (by kernel_rfl) (by kernel_rfl) (by kernel_rfl) (by kernel_rfl) (fun _ _ _ h => h) (Or.inl ⟨by rfl, ?hy129⟩) (by assumption) ?rest129
  case hy129 =>
    intro w' hS
    have hl_ : (Instr.lookup 67 (.map (some LM)) (.agg #[.int .i64 u, .int .i64 d]) false).run Try.prog w' = .ok (.agg #[.int .u32 0, .bool false]) w' := hlk w' (oAZ.trans ((Only.drew wZ []).trans hS))
    go_simp
    try with_reducible rfl
  try simp only [Act.put, List.setIfInBounds_toArray, List.set_cons_zero, List.set_cons_succ]
  refine wpAnyT_one (i := 7) (by kernel_rfl) (op_at' rfl) (fun K hK => ?_)
  refine step_alloc_new (by rfl) 101 (by rfl) (.agg #[.int .u32 0, .bool false]) (fun _ => by kernel_rfl) (fun T5 w7 o7 l7 h7 => ?_)
  go_wp2_with fail
  refine hK.out _ _ o7 (fun hHeld => ?_)
  clear hK K
  try simp only [Act.put, List.setIfInBounds_toArray, List.set_cons_zero, List.set_cons_succ]
  refine wpAnyT_last (by kernel_rfl) (op_at' rfl) (by kernel_rfl) (fun K hK => ?_)
  refine step_store_blk (by rfl) 101 _ _ (by rfl) T5 0 (.agg #[.int .u32 0, .bool false]) [.int .u32 0, .bool false] [.int .u32 0, .bool false] 101 (by rfl) (by rfl) (by rfl) (sD.add (b := blk T5 [.int .u32 0, .bool false] 101) o7 h7 (fun k hk => by simp [blk] at hk; omega)) (by simp) (by kernel_rfl) (by simp [Value.oneCell']) (fun w8 o8 s8 => ?_)
  go_wp2_with fail
  refine hK.out _ _ ?_
  clear hK K
  try simp only [Act.put, List.setIfInBounds_toArray, List.set_cons_zero, List.set_cons_succ]
  have s9 : Sep w0 w8 (blk A [.pointer (some ⟨SB, 0, none⟩)] 24 :: blk Z cs 45 :: srvR SB RB BM LM v l bm lm lv logs (blk RX (rp0 k u d n tr) 49 :: box X1 w1_ l1 la1 :: box X2 w2_ l2 la2 :: row 32 1 ev 2 [v1, v2] :: row 5 1 v1 (eB u d tu1 td1).length ((eB u d tu1 td1).map (Value.int .u8)) :: row 5 1 v2 (eB u d tu2 td2).length ((eB u d tu2 td2).map (Value.int .u8)) :: rs)) := s8.sel 3 [2, 1]
  have o8d : Only wZ.drew w8 [] := o7.new o8 (fun i hi => by simp only [List.mem_singleton] at hi; omega)
  have hT8 : w8.heap[T5]? = some (.cells #[.int .u32 0, .bool false] 101 (0, 0)) := s8.head
  have hZ7 : w8.heap[Z]? = some (.cells cs.toArray 45 (0, 0)) := (s9.sel 2 [1]).head
  have z3 := (cell_in hZ7 3).trans g3
  have t0 := cell_two0 hT8
  have t1 := cell_two1 hT8
  clear hT8 sD hlk hZ hHeld s8
  have d1 : (n == 0) = false := by simp; omega
  have d2 : decide (n ≤ 0) = false := by simp; omega
  rw [← Hcs.out] at Haddr
  go_wp2_with (refine wpList_load_blk rfl 45 _ rfl Z rfl cs _ hZ7 Try.underlying45 (by rfl) (by rw [hal]; kernel_rfl) ?_)
  have o8w : Only w w8 [] := (oAZ.trans (Only.drew wZ [])).trans o8d
  refine (Haddr _ o8w).mono ?_
  rintro e w10 ⟨at_, ct, rfl, sT⟩
  have s10 := (s9.plus sT)
  have oB := o8w.trans sT.only
  have hst := Henv
  clear z3 t0 t1 Haddr sT s9 hZ7
  go_upto_region 8 with fail
  refine wp_region_held_drew (S := fun w' => Only w10.drew w' []) (by kernel_rfl) (Only.refl _ _) (fun hHeld => ?_)
  refine' wpAnyH_take (i := 0) (v := _) (op_at rfl) (by kernel_rfl) (by kernel_rfl) (by kernel_rfl) (fun _ _ _ h => h) (Or.inl ⟨by rfl, ?hy130⟩) (by assumption) ?rest130
  case hy130 =>
    intro w' hS
    have hc0 := cell_of_one (show w'.heap[A]? = _ from (((s10.quiet (Only.drew w10 [])).quiet hS).sel 2 [1]).head)
    go_simp
    try with_reducible rfl
  try simp only [Act.put, List.setIfInBounds_toArray, List.set_cons_zero, List.set_cons_succ]
  refine' wpAnyH_take (i := 1) (v := _) (op_at rfl) (by kernel_rfl) (by kernel_rfl) (by kernel_rfl) (fun _ _ _ h => h) (Or.inl ⟨by rfl, ?hy131⟩) (by assumption) ?rest131
  case hy131 =>
    intro w' hS
    go_simp
    try with_reducible rfl
  try simp only [Act.put, List.setIfInBounds_toArray, List.set_cons_zero, List.set_cons_succ]
  refine' wpAnyH_take (i := 2) (v := _) (op_at rfl) (by kernel_rfl) (by kernel_rfl) (by kernel_rfl) (fun _ _ _ h => h) (Or.inl ⟨by rfl, ?hy132⟩) (by assumption) ?rest132
  case hy132 =>
    intro w' hS
    go_simp
    try with_reducible rfl
  try simp only [Act.put, List.setIfInBounds_toArray, List.set_cons_zero, List.set_cons_succ]
  refine' wpAnyH_take (i := 3) (v := _) (op_at rfl) (by kernel_rfl) (by kernel_rfl) (by kernel_rfl) (fun _ _ _ h => h) (Or.inl ⟨by rfl, ?hy133⟩) (by assumption) ?rest133
  case hy133 =>
    intro w' hS
    obtain ⟨c0, c1, c2, c3⟩ := sb_at (((s10.quiet (Only.drew w10 [])).quiet hS).sel 7 [6]).head
    go_simp
    try with_reducible rfl
  try simp only [Act.put, List.setIfInBounds_toArray, List.set_cons_zero, List.set_cons_succ]
  refine' wpAnyH_take (i := 4) (v := _) (op_at rfl) (by kernel_rfl) (by kernel_rfl) (by kernel_rfl) (fun _ _ _ h => h) (Or.inl ⟨by rfl, ?hy134⟩) (by assumption) ?rest134
  case hy134 =>
    intro w' hS
    go_simp
    try with_reducible rfl
  try simp only [Act.put, List.setIfInBounds_toArray, List.set_cons_zero, List.set_cons_succ]
  refine' wpAnyH_take (i := 5) (v := _) (op_at rfl) (by kernel_rfl) (by kernel_rfl) (by kernel_rfl) (fun _ _ _ h => h) (Or.inl ⟨by rfl, ?hy135⟩) (by assumption) ?rest135
  case hy135 =>
    intro w' hS
    have hz_ := show w'.heap[Z]? = _ from (((s10.quiet (Only.drew w10 [])).quiet hS).sel 3 [2]).head
    have z1 := (cell_in hz_ 1).trans g1
    have z2 := (cell_in hz_ 2).trans g2
    go_simp
    try with_reducible rfl
  try simp only [Act.put, List.setIfInBounds_toArray, List.set_cons_zero, List.set_cons_succ]
  refine' wpAnyH_take (i := 6) (v := _) (op_at rfl) (by kernel_rfl) (by kernel_rfl) (by kernel_rfl) (fun _ _ _ h => h) (Or.inl ⟨by rfl, ?hy136⟩) (by assumption) ?rest136
  case hy136 =>
    intro w' hS
    go_simp
    try with_reducible rfl
  try simp only [Act.put, List.setIfInBounds_toArray, List.set_cons_zero, List.set_cons_succ]
  refine' wpAnyH_take (i := 7) (v := _) (op_at rfl) (by kernel_rfl) (by kernel_rfl) (by kernel_rfl) (fun _ _ _ h => h) (Or.inl ⟨by rfl, ?hy137⟩) (by assumption) ?rest137
  case hy137 =>
    intro w' hS
    have hz_ := show w'.heap[Z]? = _ from (((s10.quiet (Only.drew w10 [])).quiet hS).sel 3 [2]).head
    have z5 := (cell_in hz_ 5).trans g5
    go_simp
    try with_reducible rfl
  try simp only [Act.put, List.setIfInBounds_toArray, List.set_cons_zero, List.set_cons_succ]
  refine wpAnyH_ready (rs := [8]) (by kernel_rfl) (by simp) (AllReadyH.cons (op_at rfl) (fun K hK => ?_) AllReadyH.nil)
  go_simp
  refine (Haud _ (oB.trans (Only.drew w10 []))).mono fun e w11 hq => ?_
  obtain ⟨aa, ca, rfl, sA⟩ := hq
  go_wp2_with fail
  refine hK.out _ _ sA.only (fun hHeld => ?_)
  clear hK K
  try simp only [Act.put, List.setIfInBounds_toArray, List.set_cons_zero, List.set_cons_succ]
  refine' wpAnyH_take (i := 9) (v := _) (op_at rfl) (by kernel_rfl) (by kernel_rfl) (by kernel_rfl) (fun _ _ _ h => h) (Or.inl ⟨by rfl, ?hy138⟩) (by assumption) ?rest138
  case hy138 =>
    intro w' hS
    go_simp
    try with_reducible rfl
  try simp only [Act.put, List.setIfInBounds_toArray, List.set_cons_zero, List.set_cons_succ]
  refine wpAnyH_done (by kernel_rfl) ?_ _
  have s11 := ((s10.quiet (Only.drew w10 [])).plus sA)
  have oC := (oB.trans (Only.drew w10 [])).trans sA.only
  clear s10 sA hHeld oB Haud
  go_upto_region 9 with fail
  refine wp_region_held_drew (S := fun w' => Only w11.drew w' []) (by kernel_rfl) (Only.refl _ _) (fun hHeld => ?_)
  refine' wpAnyH_take (i := 0) (v := _) (op_at rfl) (by kernel_rfl) (by kernel_rfl) (by kernel_rfl) (fun _ _ _ h => h) (Or.inl ⟨by rfl, ?hy139⟩) (by assumption) ?rest139
  case hy139 =>
    intro w' hS
    have hc0 := cell_of_one (show w'.heap[A]? = _ from (((s11.quiet (Only.drew w11 [])).quiet hS).sel 3 [2]).head)
    go_simp
    try with_reducible rfl
  try simp only [Act.put, List.setIfInBounds_toArray, List.set_cons_zero, List.set_cons_succ]
  refine' wpAnyH_take (i := 1) (v := _) (op_at rfl) (by kernel_rfl) (by kernel_rfl) (by kernel_rfl) (fun _ _ _ h => h) (Or.inl ⟨by rfl, ?hy140⟩) (by assumption) ?rest140
  case hy140 =>
    intro w' hS
    go_simp
    try with_reducible rfl
  try simp only [Act.put, List.setIfInBounds_toArray, List.set_cons_zero, List.set_cons_succ]
  refine' wpAnyH_take (i := 2) (v := _) (op_at rfl) (by kernel_rfl) (by kernel_rfl) (by kernel_rfl) (fun _ _ _ h => h) (Or.inl ⟨by rfl, ?hy141⟩) (by assumption) ?rest141
  case hy141 =>
    intro w' hS
    go_simp
    try with_reducible rfl
  try simp only [Act.put, List.setIfInBounds_toArray, List.set_cons_zero, List.set_cons_succ]
  refine' wpAnyH_take (i := 3) (v := _) (op_at rfl) (by kernel_rfl) (by kernel_rfl) (by kernel_rfl) (fun _ _ _ h => h) (Or.inl ⟨by rfl, ?hy142⟩) (by assumption) ?rest142
  case hy142 =>
    intro w' hS
    obtain ⟨c0, c1, c2, c3⟩ := sb_at (((s11.quiet (Only.drew w11 [])).quiet hS).sel 8 [7]).head
    go_simp
    try with_reducible rfl
  try simp only [Act.put, List.setIfInBounds_toArray, List.set_cons_zero, List.set_cons_succ]
  refine' wpAnyH_take (i := 4) (v := _) (op_at rfl) (by kernel_rfl) (by kernel_rfl) (by kernel_rfl) (fun _ _ _ h => h) (Or.inl ⟨by rfl, ?hy143⟩) (by assumption) ?rest143
  case hy143 =>
    intro w' hS
    go_simp
    try with_reducible rfl
  try simp only [Act.put, List.setIfInBounds_toArray, List.set_cons_zero, List.set_cons_succ]
  refine' wpAnyH_take (i := 5) (v := _) (op_at rfl) (by kernel_rfl) (by kernel_rfl) (by kernel_rfl) (fun _ _ _ h => h) (Or.inl ⟨by rfl, ?hy144⟩) (by assumption) ?rest144
  case hy144 =>
    intro w' hS
    have hz_ := show w'.heap[Z]? = _ from (((s11.quiet (Only.drew w11 [])).quiet hS).sel 4 [3]).head
    have z5 := (cell_in hz_ 5).trans g5
    go_simp
    try with_reducible rfl
  try simp only [Act.put, List.setIfInBounds_toArray, List.set_cons_zero, List.set_cons_succ]
  refine wpAnyH_ready (rs := [6]) (by kernel_rfl) (by simp) (AllReadyH.cons (op_at rfl) (fun K hK => ?_) AllReadyH.nil)
  go_simp
  refine (Hlist _ (oC.trans (Only.drew w11 []))).mono fun e w12 hq => ?_
  obtain ⟨al, cl, rfl, sL⟩ := hq
  go_wp2_with fail
  refine hK.out _ _ sL.only (fun hHeld => ?_)
  clear hK K
  try simp only [Act.put, List.setIfInBounds_toArray, List.set_cons_zero, List.set_cons_succ]
  refine' wpAnyH_take (i := 7) (v := _) (op_at rfl) (by kernel_rfl) (by kernel_rfl) (by kernel_rfl) (fun _ _ _ h => h) (Or.inl ⟨by rfl, ?hy145⟩) (by assumption) ?rest145
  case hy145 =>
    intro w' hS
    go_simp
    try with_reducible rfl
  try simp only [Act.put, List.setIfInBounds_toArray, List.set_cons_zero, List.set_cons_succ]
  refine' wpAnyH_take (i := 8) (v := _) (op_at rfl) (by kernel_rfl) (by kernel_rfl) (by kernel_rfl) (fun _ _ _ h => h) (Or.inl ⟨by rfl, ?hy146⟩) (by assumption) ?rest146
  case hy146 =>
    intro w' hS
    go_simp
    try with_reducible rfl
  try simp only [Act.put, List.setIfInBounds_toArray, List.set_cons_zero, List.set_cons_succ]
  refine' wpAnyH_take (i := 9) (v := _) (op_at rfl) (by kernel_rfl) (by kernel_rfl) (by kernel_rfl) (fun _ _ _ h => h) (Or.inl ⟨by rfl, ?hy147⟩) (by assumption) ?rest147
  case hy147 =>
    intro w' hS
    go_simp
    try with_reducible rfl
  try simp only [Act.put, List.setIfInBounds_toArray, List.set_cons_zero, List.set_cons_succ]
  refine' wpAnyH_take (i := 10) (v := _) (op_at rfl) (by kernel_rfl) (by kernel_rfl) (by kernel_rfl) (fun _ _ _ h => h) (Or.inl ⟨by rfl, ?hy148⟩) (by assumption) ?rest148
  case hy148 =>
    intro w' hS
    go_simp
    try with_reducible rfl
  try simp only [Act.put, List.setIfInBounds_toArray, List.set_cons_zero, List.set_cons_succ]
  refine' wpAnyH_take (i := 11) (v := _) (op_at rfl) (by kernel_rfl) (by kernel_rfl) (by kernel_rfl) (fun _ _ _ h => h) (Or.inl ⟨by rfl, ?hy149⟩) (by assumption) ?rest149
  case hy149 =>
    intro w' hS
    go_simp
    try with_reducible rfl
  try simp only [Act.put, List.setIfInBounds_toArray, List.set_cons_zero, List.set_cons_succ]
  refine' wpAnyH_take (i := 12) (v := _) (op_at rfl) (by kernel_rfl) (by kernel_rfl) (by kernel_rfl) (fun _ _ _ h => h) (Or.inl ⟨by rfl, ?hy150⟩) (by assumption) ?rest150
  case hy150 =>
    intro w' hS
    go_simp
    try with_reducible rfl
  try simp only [Act.put, List.setIfInBounds_toArray, List.set_cons_zero, List.set_cons_succ]
  refine' wpAnyH_take (i := 13) (v := _) (op_at rfl) (by kernel_rfl) (by kernel_rfl) (by kernel_rfl) (fun _ _ _ h => h) (Or.inl ⟨by rfl, ?hy151⟩) (by assumption) ?rest151
  case hy151 =>
    intro w' hS
    go_simp
    try with_reducible rfl
  try simp only [Act.put, List.setIfInBounds_toArray, List.set_cons_zero, List.set_cons_succ]
  refine wpAnyH_done (by kernel_rfl) ?_ _
  have s12 := ((s11.quiet (Only.drew w11 [])).quiet sL.only)
  have oD := (oC.trans (Only.drew w11 [])).trans sL.only
  clear s11 sL hHeld oC Hlist
  have hAll := fun (w' : World) (o : Only w12 w' []) => (show w'.ownsRow 0 27 2 (.slice aa all.length ca) all.length (fl wc all) from (s12.quiet o).head)
  have hTos := fun (w' : World) (o : Only w12 w' []) => (show w'.ownsRow 0 27 2 (.slice at_ tos.length ct) tos.length (fl wc tos) from ((s12.quiet o).sel 2 [1]).head)
  go_wp2_with fail
  go_loopw [83] (fun z wr => ∃ i : Nat, z = .int .i64 i ∧ i ≤ all.length ∧ Only w12 wr []) (fun z _ => all.length - (intOf z).toNat)
  case atStart => exact ⟨0, rfl, Nat.zero_le _, Only.refl _ _⟩
  case round =>
    obtain ⟨i, rfl, hi_, ho⟩ := hrel
    by_cases hlt : i < all.length
    · have d3 : decide ((i : Int) < (all.length : Int)) = true := by simpa using hlt
      have hrow := hAll wr ho
      obtain ⟨gA, rfl, _⟩ := own_some hrow (by omega)
      have e0 := rec_cell wc_len hrow hlt 0 (v := .int .i64 all[i].1) rfl
      have e1 := rec_cell wc_len hrow hlt 1 (v := .int .i64 all[i].2) rfl
      rw [Nat.add_zero] at e0
      have hhas := hin1 _ (List.getElem_mem hlt)
      generalize all[i] = p at *
      obtain ⟨pu, pd⟩ := p
      simp only at e0 e1 hhas
      have h1c : ([.int .i64 pu, .int .i64 pd] : List Value).toArray.all (·.oneCell') = true := by simp [Value.oneCell']
      clear hrow
      go_upto_region 14 with (first
        | (refine wpList_alloc_new rfl 27 rfl (.agg #[.int .i64 0, .int .i64 0]) (fun _ => by kernel_rfl) ?_; intro X wX oX hXl hX)
        | (refine wpList_store_blk rfl 27 _ _ rfl X [.int .i64 pu, .int .i64 pd] rfl rfl hX rfl (by kernel_rfl) h1c ?_; intro wY oY hY; have oXY := oX.new oY (fun i hi => by simp only [List.mem_singleton] at hi; omega); have hy0 := cell_two0 hY; have hy1 := cell_two1 hY; clear hX oX oY e0 e1))
      go_wp2_with fail
      refine (wcontains_any tos _ pu pd _ (hTos _ (ho.trans oXY)) (by omega)).mono ?_
      rw [hhas]
      rintro e w13 ⟨rfl, o13⟩
      clear hy0 hy1 hY
      go_wp2_with fail
      exact ⟨⟨i + 1, by simp, by omega, (ho.trans oXY).trans o13⟩, by simp [intOf]; omega⟩
    · obtain rfl : i = all.length := by omega
      have d3 : decide ((all.length : Int) < (all.length : Int)) = false := by simp
      go_wp2_with fail
      clear d3 hlt hi_
      have ho1 := ho
      clear ho
      go_loopw [113] (fun z wr => ∃ i : Nat, z = .int .i64 i ∧ i ≤ tos.length ∧ Only w12 wr []) (fun z _ => tos.length - (intOf z).toNat)
      case atStart => exact ⟨0, rfl, Nat.zero_le _, ho1⟩
      case round =>
        obtain ⟨i, rfl, hi_, ho⟩ := hrel
        by_cases hlt : i < tos.length
        · have d3 : decide ((i : Int) < (tos.length : Int)) = true := by simpa using hlt
          have hrow := hTos wr ho
          obtain ⟨gA, rfl, _⟩ := own_some hrow (by omega)
          have e0 := rec_cell wc_len hrow hlt 0 (v := .int .i64 tos[i].1) rfl
          have e1 := rec_cell wc_len hrow hlt 1 (v := .int .i64 tos[i].2) rfl
          rw [Nat.add_zero] at e0
          have hhas := hin2 _ (List.getElem_mem hlt)
          generalize tos[i] = p at *
          obtain ⟨pu, pd⟩ := p
          simp only at e0 e1 hhas
          have h1c : ([.int .i64 pu, .int .i64 pd] : List Value).toArray.all (·.oneCell') = true := by simp [Value.oneCell']
          clear hrow
          go_upto_region 21 with (first
            | (refine wpList_alloc_new rfl 27 rfl (.agg #[.int .i64 0, .int .i64 0]) (fun _ => by kernel_rfl) ?_; intro X wX oX hXl hX)
            | (refine wpList_store_blk rfl 27 _ _ rfl X [.int .i64 pu, .int .i64 pd] rfl rfl hX rfl (by kernel_rfl) h1c ?_; intro wY oY hY; have oXY := oX.new oY (fun i hi => by simp only [List.mem_singleton] at hi; omega); have hy0 := cell_two0 hY; have hy1 := cell_two1 hY; clear hX oX oY e0 e1))
          go_wp2_with fail
          refine (wcontains_any all _ pu pd _ (hAll _ (ho.trans oXY)) (by omega)).mono ?_
          rw [hhas]
          rintro e w13 ⟨rfl, o13⟩
          clear hy0 hy1 hY
          go_wp2_with fail
          exact ⟨⟨i + 1, by simp, by omega, (ho.trans oXY).trans o13⟩, by simp [intOf]; omega⟩
        · obtain rfl : i = tos.length := by omega
          have d3 : decide ((tos.length : Int) < (tos.length : Int)) = false := by simp
          go_wp2_with fail
          clear d3 hlt hi_
          have s13 := s12.quiet ho
          have oE := oD.trans ho
          clear ho ho1 hAll hTos s12 oD
          go_upto_region 24 with fail
          refine wp_region_held_drew (S := fun w' => Only wr.drew w' []) (by kernel_rfl) (Only.refl _ _) (fun hHeld => ?_)
          refine' wpAnyH_take (i := 0) (v := _) (op_at rfl) (by kernel_rfl) (by kernel_rfl) (by kernel_rfl) (fun _ _ _ h => h) (Or.inl ⟨by rfl, ?hy152⟩) (by assumption) ?rest152
          case hy152 =>
            intro w' hS
            go_simp
            try with_reducible rfl
          try simp only [Act.put, List.setIfInBounds_toArray, List.set_cons_zero, List.set_cons_succ]
          refine' wpAnyH_take (i := 1) (v := _) (op_at rfl) (by kernel_rfl) (by kernel_rfl) (by kernel_rfl) (fun _ _ _ h => h) (Or.inl ⟨by rfl, ?hy153⟩) (by assumption) ?rest153
          case hy153 =>
            intro w' hS
            go_simp
            try with_reducible rfl
          try simp only [Act.put, List.setIfInBounds_toArray, List.set_cons_zero, List.set_cons_succ]
          refine' wpAnyH_take (i := 2) (v := _) (op_at rfl) (by kernel_rfl) (by kernel_rfl) (by kernel_rfl) (fun _ _ _ h => h) (Or.inl ⟨by rfl, ?hy154⟩) (by assumption) ?rest154
          case hy154 =>
            intro w' hS
            go_simp
            try with_reducible rfl
          try simp only [Act.put, List.setIfInBounds_toArray, List.set_cons_zero, List.set_cons_succ]
          refine' wpAnyH_take (i := 3) (v := _) (op_at rfl) (by kernel_rfl) (by kernel_rfl) (by kernel_rfl) (fun _ _ _ h => h) (Or.inl ⟨by rfl, ?hy155⟩) (by assumption) ?rest155
          case hy155 =>
            intro w' hS
            have hr_ := show w'.heap[RX]? = _ from (((s13.quiet (Only.drew wr [])).quiet hS).sel 12 [11]).head
            have r6 : w'.cell? ⟨RX, 6, none⟩ = some (.slice none 0 0) := cell_in hr_ 6
            have r7 : w'.cell? ⟨RX, 7, none⟩ = some (.slice none 0 0) := cell_in hr_ 7
            go_simp
            try with_reducible rfl
          try simp only [Act.put, List.setIfInBounds_toArray, List.set_cons_zero, List.set_cons_succ]
          refine' wpAnyH_take (i := 4) (v := _) (op_at rfl) (by kernel_rfl) (by kernel_rfl) (by kernel_rfl) (fun _ _ _ h => h) (Or.inl ⟨by rfl, ?hy156⟩) (by assumption) ?rest156
          case hy156 =>
            intro w' hS
            go_simp
            try with_reducible rfl
          try simp only [Act.put, List.setIfInBounds_toArray, List.set_cons_zero, List.set_cons_succ]
          refine' wpAnyH_take (i := 5) (v := _) (op_at rfl) (by kernel_rfl) (by kernel_rfl) (by kernel_rfl) (fun _ _ _ h => h) (Or.inl ⟨by rfl, ?hy157⟩) (by assumption) ?rest157
          case hy157 =>
            intro w' hS
            go_simp
            try with_reducible rfl
          try simp only [Act.put, List.setIfInBounds_toArray, List.set_cons_zero, List.set_cons_succ]
          refine' wpAnyH_take (i := 6) (v := _) (op_at rfl) (by kernel_rfl) (by kernel_rfl) (by kernel_rfl) (fun _ _ _ h => h) (Or.inl ⟨by rfl, ?hy158⟩) (by assumption) ?rest158
          case hy158 =>
            intro w' hS
            go_simp
            try with_reducible rfl
          try simp only [Act.put, List.setIfInBounds_toArray, List.set_cons_zero, List.set_cons_succ]
          refine' wpAnyH_take (i := 7) (v := _) (op_at rfl) (by kernel_rfl) (by kernel_rfl) (by kernel_rfl) (fun _ _ _ h => h) (Or.inl ⟨by rfl, ?hy159⟩) (by assumption) ?rest159
          case hy159 =>
            intro w' hS
            go_simp
            try with_reducible rfl
          try simp only [Act.put, List.setIfInBounds_toArray, List.set_cons_zero, List.set_cons_succ]
          refine' wpAnyH_take (i := 8) (v := _) (op_at rfl) (by kernel_rfl) (by kernel_rfl) (by kernel_rfl) (fun _ _ _ h => h) (Or.inl ⟨by rfl, ?hy160⟩) (by assumption) ?rest160
          case hy160 =>
            intro w' hS
            have hr_ := show w'.heap[RX]? = _ from (((s13.quiet (Only.drew wr [])).quiet hS).sel 12 [11]).head
            have r6 : w'.cell? ⟨RX, 6, none⟩ = some (.slice none 0 0) := cell_in hr_ 6
            have r7 : w'.cell? ⟨RX, 7, none⟩ = some (.slice none 0 0) := cell_in hr_ 7
            go_simp
            try with_reducible rfl
          try simp only [Act.put, List.setIfInBounds_toArray, List.set_cons_zero, List.set_cons_succ]
          refine' wpAnyH_take (i := 9) (v := _) (op_at rfl) (by kernel_rfl) (by kernel_rfl) (by kernel_rfl) (fun _ _ _ h => h) (Or.inl ⟨by rfl, ?hy161⟩) (by assumption) ?rest161
          case hy161 =>
            intro w' hS
            go_simp
            try with_reducible rfl
          try simp only [Act.put, List.setIfInBounds_toArray, List.set_cons_zero, List.set_cons_succ]
          refine' wpAnyH_take (i := 10) (v := _) (op_at rfl) (by kernel_rfl) (by kernel_rfl) (by kernel_rfl) (fun _ _ _ h => h) (Or.inl ⟨by rfl, ?hy162⟩) (by assumption) ?rest162
          case hy162 =>
            intro w' hS
            have hw_ : IntKind.i64.wrap 0 = 0 := by rfl
            go_simp
            try with_reducible rfl
          try simp only [Act.put, List.setIfInBounds_toArray, List.set_cons_zero, List.set_cons_succ]
          refine' wpAnyH_take (i := 11) (v := _) (op_at rfl) (by kernel_rfl) (by kernel_rfl) (by kernel_rfl) (fun _ _ _ h => h) (Or.inl ⟨by rfl, ?hy163⟩) (by assumption) ?rest163
          case hy163 =>
            intro w' hS
            have hw_ : IntKind.i64.wrap 0 = 0 := by rfl
            go_simp
            try with_reducible rfl
          try simp only [Act.put, List.setIfInBounds_toArray, List.set_cons_zero, List.set_cons_succ]
          refine wpAnyH_done (by kernel_rfl) ?_ _
          have s14 := (s13.quiet (Only.drew wr [])).quiet hHeld
          have oF := oE.trans ((Only.drew wr []).trans hHeld)
          clear s13 oE hHeld
          generalize hwd : wr.drew = w14 at *
          clear hwd
          have hA14 : w14.heap[A]? = some (.cells #[.pointer (some ⟨SB, 0, none⟩)] 24 (0, 0)) := (s14.sel 3 [2]).head
          go_wp2_with fail
          refine (pcontains_any A (fun p => decide (rm p < 1)) _ all _ (own_src (show w14.ownsRow 0 27 2 (.slice aa all.length ca) all.length (fl wc all) from s14.head)) hall1 (clos_room A SB RB BM LM lv bm rm all w14 hA14 (s14.sel 9 [7, 8]) (fun p hp => by obtain ⟨X, h1, h2⟩ := Hrooms p hp; exact ⟨X, h1, fun w' o => h2 w' (oF.trans o)⟩))).mono ?_
          rw [hany]
          rintro e w15 ⟨rfl, o15⟩
          have s15 := s14.quiet o15
          clear hA14 s14
          have htos := HTOS.out
          clear Hrooms hin1 hin2 hany Henv dnl dal oF o15 d1 d2 oAZ o8d
          obtain ⟨ae, ce, hev⟩ := own_slice (show w15.ownsRow 0 32 1 ev 2 [v1, v2] from (s15.sel 15 [14]).head)
          obtain ⟨ge, hge, _⟩ := own_some (show w15.ownsRow 0 32 1 (.slice ae 2 ce) 2 [v1, v2] from hev ▸ (s15.sel 15 [14]).head) (by decide)
          subst hge
          obtain ⟨a1_, c1_, hv1⟩ := own_slice (show w15.ownsRow 0 5 1 v1 (eB u d tu1 td1).length ((eB u d tu1 td1).map (Value.int .u8)) from (s15.sel 16 [15]).head)
          obtain ⟨a2_, c2_, hv2⟩ := own_slice (show w15.ownsRow 0 5 1 v2 (eB u d tu2 td2).length ((eB u d tu2 td2).map (Value.int .u8)) from (s15.sel 17 [16]).head)
          have heb1 := eB_len u d tu1 td1
          have heb2 := eB_len u d tu2 td2
          have htl2 : tos.length = 2 := by rw [htos]; rfl
          obtain ⟨gt, hgt, _⟩ := own_some (show w15.ownsRow 0 27 2 (.slice at_ tos.length ct) tos.length (fl wc tos) from (s15.sel 2 [1]).head) (by omega)
          subst hgt
          have ht1 : ∀ w' : World, w'.ownsRow 0 27 2 (.slice (some ⟨gt, 0, none⟩) tos.length ct) tos.length (fl wc tos) → w'.cell? ⟨gt, 0, none⟩ = some (.int .i64 tu1) ∧ w'.cell? ⟨gt, 1, none⟩ = some (.int .i64 td1) := fun w' hr_ => by
            subst htos
            exact ⟨rec_cell wc_len hr_ (m := 0) (by simp) 0 rfl, rec_cell wc_len hr_ (m := 0) (by simp) 1 rfl⟩
          have ht2 : ∀ w' : World, w'.ownsRow 0 27 2 (.slice (some ⟨gt, 0, none⟩) tos.length ct) tos.length (fl wc tos) → w'.cell? ⟨gt, 2, none⟩ = some (.int .i64 tu2) ∧ w'.cell? ⟨gt, 3, none⟩ = some (.int .i64 td2) := fun w' hr_ => by
            subst htos
            exact ⟨rec_cell wc_len hr_ (m := 1) (by simp) 0 rfl, rec_cell wc_len hr_ (m := 1) (by simp) 1 rfl⟩
          have HEV := Lib.hid hev
          rw [hev] at g6
          have hTL : Hid (tos.length = 2) := by show _ = _; rw [htos]; rfl
          clear htos hev 
          go_wp2_with fail
          go_loopw [16, 17, 160] (fun _ _ z wr => (z = .int .i64 0 ∧ Pw.Sep w0 wr (row 27 2 (.slice aa all.length ca) all.length (fl wc all) :: row 27 2 (.slice (some ⟨gt, 0, none⟩) tos.length ct) tos.length (fl wc tos) :: blk A [.pointer (some ⟨SB, 0, none⟩)] 24 :: blk Z cs 45 :: srvR SB RB BM LM v l bm lm lv logs (blk RX (rp0 k u d n tr) 49 :: box X1 w1_ l1 la1 :: box X2 w2_ l2 la2 :: row 32 1 ev 2 [v1, v2] :: row 5 1 v1 (eB u d tu1 td1).length ((eB u d tu1 td1).map (Value.int .u8)) :: row 5 1 v2 (eB u d tu2 td2).length ((eB u d tu2 td2).map (Value.int .u8)) :: rs))) ∨ (z = .int .i64 1 ∧ ∃ (u1 : Value) (x1 : It), Pw.Sep w0 wr (row 27 2 (.slice aa all.length ca) all.length (fl wc all) :: row 27 2 (.slice (some ⟨gt, 0, none⟩) tos.length ct) tos.length (fl wc tos) :: blk A [.pointer (some ⟨SB, 0, none⟩)] 24 :: blk Z cs 45 :: srvR SB RB BM LM v l bm lm lv logs (blk RX (rp0 k u d n tr) 49 :: box X1 u1 (l1 ++ [x1]) (la1 + 1) :: box X2 w2_ l2 la2 :: row 32 1 ev 2 [v1, v2] :: row 5 1 v1 (eB u d tu1 td1).length ((eB u d tu1 td1).map (Value.int .u8)) :: row 5 1 v2 (eB u d tu2 td2).length ((eB u d tu2 td2).map (Value.int .u8)) :: rs))) ∨ (z = .int .i64 2 ∧ ∃ (u1 : Value) (x1 : It), ∃ (u2 : Value) (x2 : It), Pw.Sep w0 wr (row 27 2 (.slice aa all.length ca) all.length (fl wc all) :: row 27 2 (.slice (some ⟨gt, 0, none⟩) tos.length ct) tos.length (fl wc tos) :: blk A [.pointer (some ⟨SB, 0, none⟩)] 24 :: blk Z cs 45 :: srvR SB RB BM LM v l bm lm lv logs (blk RX (rp0 k u d n tr) 49 :: box X1 u1 (l1 ++ [x1]) (la1 + 1) :: box X2 u2 (l2 ++ [x2]) (la2 + 1) :: row 32 1 ev 2 [v1, v2] :: row 5 1 v1 (eB u d tu1 td1).length ((eB u d tu1 td1).map (Value.int .u8)) :: row 5 1 v2 (eB u d tu2 td2).length ((eB u d tu2 td2).map (Value.int .u8)) :: rs)))) (fun _ _ z _ => 2 - (intOf z).toNat)
          case atStart => exact .inl ⟨rfl, s15⟩
          case round =>
            clear s15
            rcases hrel with ⟨rfl, s16⟩ | ⟨rfl, u1, x1, s16⟩ | ⟨rfl, u1, x1, u2, x2, s16⟩
            · have hi_ : decide ((0 : Int) < (tos.length : Int)) = true := by rw [hTL.out]; decide
              have hi2_ : decide (0 < tos.length) = true := by rw [hTL.out]; decide
              have hi3_ : 0 < tos.length := by rw [hTL.out]; decide
              have e01 := ht1 wr (s16.sel 2 [1]).head
              obtain ⟨e0, e1⟩ := e01
              have h1c : ([.int .i64 tu1, .int .i64 td1] : List Value).toArray.all (·.oneCell') = true := by simp [Value.oneCell']
              go_upto_region 32 with (first
                | (refine wpList_alloc_new rfl 27 rfl (.agg #[.int .i64 0, .int .i64 0]) (fun _ => by kernel_rfl) ?_; intro Y wX oX hXl hX)
                | (refine wpList_store_blk rfl 27 _ _ rfl Y [.int .i64 tu1, .int .i64 td1] rfl rfl hX rfl (by kernel_rfl) h1c ?_; intro wY oY hY; have oXY := oX.new oY (fun i hi => by simp only [List.mem_singleton] at hi; omega); clear hX oX oY e0 e1))
              have s17 := s16.quiet (oXY.trans (Only.drew wY []))
              clear s16
              refine wp_region_t (S := fun w' => Only wY.drew w' []) 11 (by kernel_rfl) (by kernel_rfl) (Only.refl _ _) (fun hZ hHeld => ?_)
              refine' wpAnyT_take (i := 0) (v := _) hZ (op_at' rfl) (by rfl) (by kernel_rfl) (by kernel_rfl) (by kernel_rfl) (by kernel_rfl) (fun _ _ _ h => h) (Or.inl ⟨by rfl, ?hy77⟩) (by assumption) ?rest77
              case hy77 =>
                intro w' hS
                have hc0 := cell_of_one (show w'.heap[A]? = _ from ((s17.quiet hS).sel 3 [2]).head)
                go_simp
                try with_reducible rfl
              try simp only [Act.put, List.setIfInBounds_toArray, List.set_cons_zero, List.set_cons_succ]
              refine' wpAnyT_take (i := 1) (v := _) hZ (op_at' rfl) (by rfl) (by kernel_rfl) (by kernel_rfl) (by kernel_rfl) (by kernel_rfl) (fun _ _ _ h => h) (Or.inl ⟨by rfl, ?hy78⟩) (by assumption) ?rest78
              case hy78 =>
                intro w' hS
                go_simp
                try with_reducible rfl
              try simp only [Act.put, List.setIfInBounds_toArray, List.set_cons_zero, List.set_cons_succ]
              refine' wpAnyT_take (i := 2) (v := _) hZ (op_at' rfl) (by rfl) (by kernel_rfl) (by kernel_rfl) (by kernel_rfl) (by kernel_rfl) (fun _ _ _ h => h) (Or.inl ⟨by rfl, ?hy79⟩) (by assumption) ?rest79
              case hy79 =>
                intro w' hS
                go_simp
                try with_reducible rfl
              try simp only [Act.put, List.setIfInBounds_toArray, List.set_cons_zero, List.set_cons_succ]
              refine' wpAnyT_take (i := 3) (v := _) hZ (op_at' rfl) (by rfl) (by kernel_rfl) (by kernel_rfl) (by kernel_rfl) (by kernel_rfl) (fun _ _ _ h => h) (Or.inl ⟨by rfl, ?hy80⟩) (by assumption) ?rest80
              case hy80 =>
                intro w' hS
                obtain ⟨c0, c1, c2, c3⟩ := sb_at ((s17.quiet hS).sel 8 [7]).head
                go_simp
                try with_reducible rfl
              try simp only [Act.put, List.setIfInBounds_toArray, List.set_cons_zero, List.set_cons_succ]
              refine' wpAnyT_take (i := 4) (v := _) hZ (op_at' rfl) (by rfl) (by kernel_rfl) (by kernel_rfl) (by kernel_rfl) (by kernel_rfl) (fun _ _ _ h => h) (Or.inl ⟨by rfl, ?hy81⟩) (by assumption) ?rest81
              case hy81 =>
                intro w' hS
                have ht := ((Only.drew wY []).trans hS).at hY (by simp)
                have ht0 := cell_two0 ht
                have ht1 := cell_two1 ht
                go_simp
                try with_reducible rfl
              try simp only [Act.put, List.setIfInBounds_toArray, List.set_cons_zero, List.set_cons_succ]
              refine' wpAnyT_take (i := 5) (v := _) hZ (op_at' rfl) (by rfl) (by kernel_rfl) (by kernel_rfl) (by kernel_rfl) (by kernel_rfl) (fun _ _ _ h => h) (Or.inl ⟨by rfl, ?hy82⟩) (by assumption) ?rest82
              case hy82 =>
                intro w' hS
                have hl_ : (Instr.lookup 66 (.map (some BM)) (.agg #[.int .i64 tu1, .int .i64 td1]) false).run Try.prog w' = .ok (.pointer (some ⟨X1, 0, none⟩)) w' := by
                  have := run_lookupW 66 51 (.pointer none) BM bm (tu1, td1) ((s17.quiet hS).sel 9 [8]) Try.underlying66 (fun _ => by kernel_rfl)
                  rw [hg1] at this
                  exact this
                go_simp
                try with_reducible rfl
              try simp only [Act.put, List.setIfInBounds_toArray, List.set_cons_zero, List.set_cons_succ]
              refine' wpAnyT_take (i := 6) (v := _) hZ (op_at' rfl) (by rfl) (by kernel_rfl) (by kernel_rfl) (by kernel_rfl) (by kernel_rfl) (fun _ _ _ h => h) (Or.inl ⟨by rfl, ?hy83⟩) (by assumption) ?rest83
              case hy83 =>
                intro w' hS
                go_simp
                try with_reducible rfl
              try simp only [Act.put, List.setIfInBounds_toArray, List.set_cons_zero, List.set_cons_succ]
              refine' wpAnyT_take (i := 7) (v := _) hZ (op_at' rfl) (by rfl) (by kernel_rfl) (by kernel_rfl) (by kernel_rfl) (by kernel_rfl) (fun _ _ _ h => h) (Or.inl ⟨by rfl, ?hy84⟩) (by assumption) ?rest84
              case hy84 =>
                intro w' hS
                have hz_ := show w'.heap[Z]? = _ from ((s17.quiet hS).sel 4 [3]).head
                have z6 := (cell_in hz_ 6).trans g6
                go_simp
                try with_reducible rfl
              try simp only [Act.put, List.setIfInBounds_toArray, List.set_cons_zero, List.set_cons_succ]
              refine' wpAnyT_take (i := 8) (v := _) hZ (op_at' rfl) (by rfl) (by kernel_rfl) (by kernel_rfl) (by kernel_rfl) (by kernel_rfl) (fun _ _ _ h => h) (Or.inl ⟨by rfl, ?hy85⟩) (by assumption) ?rest85
              case hy85 =>
                intro w' hS
                go_simp
                try with_reducible rfl
              try simp only [Act.put, List.setIfInBounds_toArray, List.set_cons_zero, List.set_cons_succ]
              refine' wpAnyT_take (i := 9) (v := _) hZ (op_at' rfl) (by rfl) (by kernel_rfl) (by kernel_rfl) (by kernel_rfl) (by kernel_rfl) (fun _ _ _ h => h) (Or.inl ⟨by rfl, ?hy86⟩) (by assumption) ?rest86
              case hy86 =>
                intro w' hS
                go_simp
                try with_reducible rfl
              try simp only [Act.put, List.setIfInBounds_toArray, List.set_cons_zero, List.set_cons_succ]
              refine' wpAnyT_take (i := 10) (v := _) hZ (op_at' rfl) (by rfl) (by kernel_rfl) (by kernel_rfl) (by kernel_rfl) (by kernel_rfl) (fun _ _ _ h => h) (Or.inl ⟨by rfl, ?hy87⟩) (by assumption) ?rest87
              case hy87 =>
                intro w' hS
                have he_ : w'.cell? ⟨ge, 0, none⟩ = some v1 := by
                  have hr_ := ((s17.quiet hS).sel 15 [14]).head
                  have hr2 : w'.ownsRow 0 32 1 (.slice (some ⟨ge, 0, none⟩) 2 ce) 2 [v1, v2] := HEV.out ▸ hr_
                  exact hr2.cellAt 0 (by decide)
                rw [hv1] at he_
                go_simp
                try with_reducible rfl
              try simp only [Act.put, List.setIfInBounds_toArray, List.set_cons_zero, List.set_cons_succ]
              refine wpAnyT_last (by kernel_rfl) (op_at' rfl) (by kernel_rfl) (fun K hK => ?_)
              go_simp
              rw [← hv1]
              refine (put_ok X1 w1_ l1 la1 v1 (eB u d tu1 td1) _ (s17.sel 17 [12, 0, 1, 2, 3, 4, 5, 6, 7, 8, 9, 10, 11, 13, 14, 15, 16]) hll1 hla1 (own_src (show wY.drew.ownsRow 0 5 1 v1 (eB u d tu1 td1).length ((eB u d tu1 td1).map (Value.int .u8)) from (s17.sel 16 [15]).head)) (fun q hq he => s17.two_at (i := 15) (j := 12) rfl rfl (by decide) q (by simp [row, hq]) (by simp [box, two, blk, he])) (by omega)).mono fun e w9 hq => ?_
              obtain ⟨rfl, u1, x1, hx1, s18⟩ := hq
              go_wp2_with fail
              refine hK.out _ _ ?_
              clear hK K
              try simp only [Act.put, List.setIfInBounds_toArray, List.set_cons_zero, List.set_cons_succ]
              go_wp2_with fail
              exact ⟨(.inr (.inl ⟨by simp, u1, x1, s18.sel 17 [1, 2, 3, 4, 5, 6, 7, 8, 9, 10, 11, 12, 0, 13, 14, 15, 16]⟩)), by simp [intOf]⟩
            · have hi_ : decide ((1 : Int) < (tos.length : Int)) = true := by rw [hTL.out]; decide
              have hi2_ : decide (1 < tos.length) = true := by rw [hTL.out]; decide
              have hi3_ : 1 < tos.length := by rw [hTL.out]; decide
              have e01 := ht2 wr (s16.sel 2 [1]).head
              obtain ⟨e0, e1⟩ := e01
              have h1c : ([.int .i64 tu2, .int .i64 td2] : List Value).toArray.all (·.oneCell') = true := by simp [Value.oneCell']
              go_upto_region 32 with (first
                | (refine wpList_alloc_new rfl 27 rfl (.agg #[.int .i64 0, .int .i64 0]) (fun _ => by kernel_rfl) ?_; intro Y wX oX hXl hX)
                | (refine wpList_store_blk rfl 27 _ _ rfl Y [.int .i64 tu2, .int .i64 td2] rfl rfl hX rfl (by kernel_rfl) h1c ?_; intro wY oY hY; have oXY := oX.new oY (fun i hi => by simp only [List.mem_singleton] at hi; omega); clear hX oX oY e0 e1))
              have s17 := s16.quiet (oXY.trans (Only.drew wY []))
              clear s16
              refine wp_region_t (S := fun w' => Only wY.drew w' []) 11 (by kernel_rfl) (by kernel_rfl) (Only.refl _ _) (fun hZ hHeld => ?_)
              refine' wpAnyT_take (i := 0) (v := _) hZ (op_at' rfl) (by rfl) (by kernel_rfl) (by kernel_rfl) (by kernel_rfl) (by kernel_rfl) (fun _ _ _ h => h) (Or.inl ⟨by rfl, ?hy88⟩) (by assumption) ?rest88
              case hy88 =>
                intro w' hS
                have hc0 := cell_of_one (show w'.heap[A]? = _ from ((s17.quiet hS).sel 3 [2]).head)
                go_simp
                try with_reducible rfl
              try simp only [Act.put, List.setIfInBounds_toArray, List.set_cons_zero, List.set_cons_succ]
              refine' wpAnyT_take (i := 1) (v := _) hZ (op_at' rfl) (by rfl) (by kernel_rfl) (by kernel_rfl) (by kernel_rfl) (by kernel_rfl) (fun _ _ _ h => h) (Or.inl ⟨by rfl, ?hy89⟩) (by assumption) ?rest89
              case hy89 =>
                intro w' hS
                go_simp
                try with_reducible rfl
              try simp only [Act.put, List.setIfInBounds_toArray, List.set_cons_zero, List.set_cons_succ]
              refine' wpAnyT_take (i := 2) (v := _) hZ (op_at' rfl) (by rfl) (by kernel_rfl) (by kernel_rfl) (by kernel_rfl) (by kernel_rfl) (fun _ _ _ h => h) (Or.inl ⟨by rfl, ?hy90⟩) (by assumption) ?rest90
              case hy90 =>
                intro w' hS
                go_simp
                try with_reducible rfl
              try simp only [Act.put, List.setIfInBounds_toArray, List.set_cons_zero, List.set_cons_succ]
              refine' wpAnyT_take (i := 3) (v := _) hZ (op_at' rfl) (by rfl) (by kernel_rfl) (by kernel_rfl) (by kernel_rfl) (by kernel_rfl) (fun _ _ _ h => h) (Or.inl ⟨by rfl, ?hy91⟩) (by assumption) ?rest91
              case hy91 =>
                intro w' hS
                obtain ⟨c0, c1, c2, c3⟩ := sb_at ((s17.quiet hS).sel 8 [7]).head
                go_simp
                try with_reducible rfl
              try simp only [Act.put, List.setIfInBounds_toArray, List.set_cons_zero, List.set_cons_succ]
              refine' wpAnyT_take (i := 4) (v := _) hZ (op_at' rfl) (by rfl) (by kernel_rfl) (by kernel_rfl) (by kernel_rfl) (by kernel_rfl) (fun _ _ _ h => h) (Or.inl ⟨by rfl, ?hy92⟩) (by assumption) ?rest92
              case hy92 =>
                intro w' hS
                have ht := ((Only.drew wY []).trans hS).at hY (by simp)
                have ht0 := cell_two0 ht
                have ht1 := cell_two1 ht
                go_simp
                try with_reducible rfl
              try simp only [Act.put, List.setIfInBounds_toArray, List.set_cons_zero, List.set_cons_succ]
              refine' wpAnyT_take (i := 5) (v := _) hZ (op_at' rfl) (by rfl) (by kernel_rfl) (by kernel_rfl) (by kernel_rfl) (by kernel_rfl) (fun _ _ _ h => h) (Or.inl ⟨by rfl, ?hy93⟩) (by assumption) ?rest93
              case hy93 =>
                intro w' hS
                have hl_ : (Instr.lookup 66 (.map (some BM)) (.agg #[.int .i64 tu2, .int .i64 td2]) false).run Try.prog w' = .ok (.pointer (some ⟨X2, 0, none⟩)) w' := by
                  have := run_lookupW 66 51 (.pointer none) BM bm (tu2, td2) ((s17.quiet hS).sel 9 [8]) Try.underlying66 (fun _ => by kernel_rfl)
                  rw [hg2] at this
                  exact this
                go_simp
                try with_reducible rfl
              try simp only [Act.put, List.setIfInBounds_toArray, List.set_cons_zero, List.set_cons_succ]
              refine' wpAnyT_take (i := 6) (v := _) hZ (op_at' rfl) (by rfl) (by kernel_rfl) (by kernel_rfl) (by kernel_rfl) (by kernel_rfl) (fun _ _ _ h => h) (Or.inl ⟨by rfl, ?hy94⟩) (by assumption) ?rest94
              case hy94 =>
                intro w' hS
                go_simp
                try with_reducible rfl
              try simp only [Act.put, List.setIfInBounds_toArray, List.set_cons_zero, List.set_cons_succ]
              refine' wpAnyT_take (i := 7) (v := _) hZ (op_at' rfl) (by rfl) (by kernel_rfl) (by kernel_rfl) (by kernel_rfl) (by kernel_rfl) (fun _ _ _ h => h) (Or.inl ⟨by rfl, ?hy95⟩) (by assumption) ?rest95
              case hy95 =>
                intro w' hS
                have hz_ := show w'.heap[Z]? = _ from ((s17.quiet hS).sel 4 [3]).head
                have z6 := (cell_in hz_ 6).trans g6
                go_simp
                try with_reducible rfl
              try simp only [Act.put, List.setIfInBounds_toArray, List.set_cons_zero, List.set_cons_succ]
              refine' wpAnyT_take (i := 8) (v := _) hZ (op_at' rfl) (by rfl) (by kernel_rfl) (by kernel_rfl) (by kernel_rfl) (by kernel_rfl) (fun _ _ _ h => h) (Or.inl ⟨by rfl, ?hy96⟩) (by assumption) ?rest96
              case hy96 =>
                intro w' hS
                go_simp
                try with_reducible rfl
              try simp only [Act.put, List.setIfInBounds_toArray, List.set_cons_zero, List.set_cons_succ]
              refine' wpAnyT_take (i := 9) (v := _) hZ (op_at' rfl) (by rfl) (by kernel_rfl) (by kernel_rfl) (by kernel_rfl) (by kernel_rfl) (fun _ _ _ h => h) (Or.inl ⟨by rfl, ?hy97⟩) (by assumption) ?rest97
              case hy97 =>
                intro w' hS
                go_simp
                try with_reducible rfl
              try simp only [Act.put, List.setIfInBounds_toArray, List.set_cons_zero, List.set_cons_succ]
              refine' wpAnyT_take (i := 10) (v := _) hZ (op_at' rfl) (by rfl) (by kernel_rfl) (by kernel_rfl) (by kernel_rfl) (by kernel_rfl) (fun _ _ _ h => h) (Or.inl ⟨by rfl, ?hy98⟩) (by assumption) ?rest98
              case hy98 =>
                intro w' hS
                have he_ : w'.cell? ⟨ge, 1, none⟩ = some v2 := by
                  have hr_ := ((s17.quiet hS).sel 15 [14]).head
                  have hr2 : w'.ownsRow 0 32 1 (.slice (some ⟨ge, 0, none⟩) 2 ce) 2 [v1, v2] := HEV.out ▸ hr_
                  exact hr2.cellAt 1 (by decide)
                rw [hv2] at he_
                go_simp
                try with_reducible rfl
              try simp only [Act.put, List.setIfInBounds_toArray, List.set_cons_zero, List.set_cons_succ]
              refine wpAnyT_last (by kernel_rfl) (op_at' rfl) (by kernel_rfl) (fun K hK => ?_)
              go_simp
              rw [← hv2]
              refine (put_ok X2 w2_ l2 la2 v2 (eB u d tu2 td2) _ (s17.sel 17 [13, 0, 1, 2, 3, 4, 5, 6, 7, 8, 9, 10, 11, 12, 14, 15, 16]) hll2 hla2 (own_src (show wY.drew.ownsRow 0 5 1 v2 (eB u d tu2 td2).length ((eB u d tu2 td2).map (Value.int .u8)) from (s17.sel 17 [16]).head)) (fun q hq he => s17.two_at (i := 16) (j := 13) rfl rfl (by decide) q (by simp [row, hq]) (by simp [box, two, blk, he])) (by omega)).mono fun e w9 hq => ?_
              obtain ⟨rfl, u2, x2, hx2, s18⟩ := hq
              go_wp2_with fail
              refine hK.out _ _ ?_
              clear hK K
              try simp only [Act.put, List.setIfInBounds_toArray, List.set_cons_zero, List.set_cons_succ]
              go_wp2_with fail
              exact ⟨(.inr (.inr ⟨by simp, u1, x1, u2, x2, s18.sel 17 [1, 2, 3, 4, 5, 6, 7, 8, 9, 10, 11, 12, 13, 0, 14, 15, 16]⟩)), by simp [intOf]⟩
            · have hi_ : decide ((2 : Int) < (tos.length : Int)) = false := by rw [hTL.out]; decide
              have hi2_ : decide (2 < tos.length) = false := by rw [hTL.out]; decide
              have hi3_ : ¬ 2 < tos.length := by rw [hTL.out]; decide
              go_upto_region 34 with fail
              have sD := s16.quiet (Only.drew wr [])
              clear s16
              refine wp_region_t (S := fun w' => Only wr.drew w' []) 9 (by kernel_rfl) (by kernel_rfl) (Only.refl _ _) (fun hZ hHeld => ?_)
              refine' wpAnyT_take (i := 0) (v := _) hZ (op_at' rfl) (by rfl) (by kernel_rfl) (by kernel_rfl) (by kernel_rfl) (by kernel_rfl) (fun _ _ _ h => h) (Or.inl ⟨by rfl, ?hy99⟩) (by assumption) ?rest99
              case hy99 =>
                intro w' hS
                have hc0 := cell_of_one (show w'.heap[A]? = _ from ((sD.quiet hS).sel 3 [2]).head)
                go_simp
                try with_reducible rfl
              try simp only [Act.put, List.setIfInBounds_toArray, List.set_cons_zero, List.set_cons_succ]
              refine' wpAnyT_take (i := 1) (v := _) hZ (op_at' rfl) (by rfl) (by kernel_rfl) (by kernel_rfl) (by kernel_rfl) (by kernel_rfl) (fun _ _ _ h => h) (Or.inl ⟨by rfl, ?hy100⟩) (by assumption) ?rest100
              case hy100 =>
                intro w' hS
                go_simp
                try with_reducible rfl
              try simp only [Act.put, List.setIfInBounds_toArray, List.set_cons_zero, List.set_cons_succ]
              refine' wpAnyT_take (i := 2) (v := _) hZ (op_at' rfl) (by rfl) (by kernel_rfl) (by kernel_rfl) (by kernel_rfl) (by kernel_rfl) (fun _ _ _ h => h) (Or.inl ⟨by rfl, ?hy101⟩) (by assumption) ?rest101
              case hy101 =>
                intro w' hS
                go_simp
                try with_reducible rfl
              try simp only [Act.put, List.setIfInBounds_toArray, List.set_cons_zero, List.set_cons_succ]
              refine' wpAnyT_take (i := 3) (v := _) hZ (op_at' rfl) (by rfl) (by kernel_rfl) (by kernel_rfl) (by kernel_rfl) (by kernel_rfl) (fun _ _ _ h => h) (Or.inl ⟨by rfl, ?hy102⟩) (by assumption) ?rest102
              case hy102 =>
                intro w' hS
                obtain ⟨c0, c1, c2, c3⟩ := sb_at ((sD.quiet hS).sel 8 [7]).head
                go_simp
                try with_reducible rfl
              try simp only [Act.put, List.setIfInBounds_toArray, List.set_cons_zero, List.set_cons_succ]
              refine' wpAnyT_take (i := 4) (v := _) hZ (op_at' rfl) (by rfl) (by kernel_rfl) (by kernel_rfl) (by kernel_rfl) (by kernel_rfl) (fun _ _ _ h => h) (Or.inl ⟨by rfl, ?hy103⟩) (by assumption) ?rest103
              case hy103 =>
                intro w' hS
                go_simp
                try with_reducible rfl
              try simp only [Act.put, List.setIfInBounds_toArray, List.set_cons_zero, List.set_cons_succ]
              refine' wpAnyT_take (i := 5) (v := _) hZ (op_at' rfl) (by rfl) (by kernel_rfl) (by kernel_rfl) (by kernel_rfl) (by kernel_rfl) (fun _ _ _ h => h) (Or.inl ⟨by rfl, ?hy104⟩) (by assumption) ?rest104
              case hy104 =>
                intro w' hS
                have hz_ := show w'.heap[Z]? = _ from ((sD.quiet hS).sel 4 [3]).head
                have z1 := (cell_in hz_ 1).trans g1
                have z2 := (cell_in hz_ 2).trans g2
                go_simp
                try with_reducible rfl
              try simp only [Act.put, List.setIfInBounds_toArray, List.set_cons_zero, List.set_cons_succ]
              refine' wpAnyT_take (i := 6) (v := _) hZ (op_at' rfl) (by rfl) (by kernel_rfl) (by kernel_rfl) (by kernel_rfl) (by kernel_rfl) (fun _ _ _ h => h) (Or.inl ⟨by rfl, ?hy105⟩) (by assumption) ?rest105
              case hy105 =>
                intro w' hS
                go_simp
                try with_reducible rfl
              try simp only [Act.put, List.setIfInBounds_toArray, List.set_cons_zero, List.set_cons_succ]
              refine' wpAnyT_take (i := 7) (v := _) hZ (op_at' rfl) (by rfl) (by kernel_rfl) (by kernel_rfl) (by kernel_rfl) (by kernel_rfl) (fun _ _ _ h => h) (Or.inl ⟨by rfl, ?hy106⟩) (by assumption) ?rest106
              case hy106 =>
                intro w' hS
                have hz_ := show w'.heap[Z]? = _ from ((sD.quiet hS).sel 4 [3]).head
                have z3 := (cell_in hz_ 3).trans g3
                go_simp
                try with_reducible rfl
              try simp only [Act.put, List.setIfInBounds_toArray, List.set_cons_zero, List.set_cons_succ]
              refine' wpAnyT_take (i := 8) (v := _) hZ (op_at' rfl) (by rfl) (by kernel_rfl) (by kernel_rfl) (by kernel_rfl) (by kernel_rfl) (fun _ _ _ h => h) (Or.inl ⟨by rfl, ?hy107⟩) (by assumption) ?rest107
              case hy107 =>
                intro w' hS
                go_simp
                try with_reducible rfl
              try simp only [Act.put, List.setIfInBounds_toArray, List.set_cons_zero, List.set_cons_succ]
              refine wpAnyT_last (by kernel_rfl) (op_at' rfl) (by kernel_rfl) (fun K hK => ?_)
              refine step_updateW (by rfl) 67 101 _ _ _ (by rfl) LM lm (u, d) (.agg #[.int .u32 n, .bool true]) (by rfl) (by rfl) (by rfl) (sD.sel 17 [9, 0, 1, 2, 3, 4, 5, 6, 7, 8, 10, 11, 12, 13, 14, 15, 16]) Try.underlying67 (fun w20 o20 s20 => ?_)
              go_wp2_with fail
              refine hK.out _ _ ?_
              clear hK K
              try simp only [Act.put, List.setIfInBounds_toArray, List.set_cons_zero, List.set_cons_succ]
              have s21 : Pw.Sep w0 w20 (row 27 2 (.slice aa all.length ca) all.length (fl wc all) :: row 27 2 (.slice (some ⟨gt, 0, none⟩) tos.length ct) tos.length (fl wc tos) :: blk A [.pointer (some ⟨SB, 0, none⟩)] 24 :: blk Z cs 45 :: srvR SB RB BM LM v l bm (putM lm (u, d) (.agg #[.int .u32 n, .bool true])) lv logs (blk RX (rp0 k u d n tr) 49 :: box X1 u1 (l1 ++ [x1]) (la1 + 1) :: box X2 u2 (l2 ++ [x2]) (la2 + 1) :: row 32 1 ev 2 [v1, v2] :: row 5 1 v1 (eB u d tu1 td1).length ((eB u d tu1 td1).map (Value.int .u8)) :: row 5 1 v2 (eB u d tu2 td2).length ((eB u d tu2 td2).map (Value.int .u8)) :: rs)) := s20.sel 17 [1, 2, 3, 4, 5, 6, 7, 8, 9, 0, 10, 11, 12, 13, 14, 15, 16]
              clear s20 sD hZ hHeld
              go_upto_region 35 with fail
              have hSBg : SB ∉ lv.ownBlock.toList := fun hk => s21.two_at (i := 10) (j := 7) rfl rfl (by decide) SB hk (by simp [blk])
              have hAg : A ∉ lv.ownBlock.toList := fun hk => s21.two_at (i := 10) (j := 2) rfl rfl (by decide) A hk (by simp [blk])
              have hZg : Z ∉ lv.ownBlock.toList := fun hk => s21.two_at (i := 10) (j := 3) rfl rfl (by decide) Z hk (by simp [blk])
              have hA20 : w20.heap[A]? = some (.cells #[.pointer (some ⟨SB, 0, none⟩)] 24 (0, 0)) := (s21.sel 3 [2]).head
              have hZ20 : w20.heap[Z]? = some (.cells cs.toArray 45 (0, 0)) := (s21.sel 4 [3]).head
              have hSB20 : w20.heap[SB]? = some (.cells (sb RB BM LM lv).toArray 69 (0, 0)) := (s21.sel 8 [7]).head
              have sE := s21.quiet (Only.drew w20 [])
              have hfl : Hid (fl sc logs ++ sc (⟨u, d, n, to, .slice aa all.length ca, rfl⟩ : Sn) = fl sc (logs ++ [(⟨u, d, n, to, .slice aa all.length ca, rfl⟩ : Sn)])) := by show _ = _; rw [fl_snoc]
              clear s21
              refine wp_region_t (S := fun w' => Only w20.drew w' lv.ownBlock.toList) 17 (by kernel_rfl) (by kernel_rfl) (Only.refl _ _) (fun hZ hHeld => ?_)
              refine' wpAnyT_take (i := 0) (v := _) hZ (op_at' rfl) (by rfl) (by kernel_rfl) (by kernel_rfl) (by kernel_rfl) (by kernel_rfl) (fun _ _ _ h => h) (Or.inl ⟨by rfl, ?hy108⟩) (by assumption) ?rest108
              case hy108 =>
                intro w' hS
                have hc0 := cell_of_one (hS.at (show w20.drew.heap[A]? = _ from hA20) hAg)
                go_simp
                try with_reducible rfl
              try simp only [Act.put, List.setIfInBounds_toArray, List.set_cons_zero, List.set_cons_succ]
              refine' wpAnyT_take (i := 1) (v := _) hZ (op_at' rfl) (by rfl) (by kernel_rfl) (by kernel_rfl) (by kernel_rfl) (by kernel_rfl) (fun _ _ _ h => h) (Or.inl ⟨by rfl, ?hy109⟩) (by assumption) ?rest109
              case hy109 =>
                intro w' hS
                have hc0 := cell_of_one (hS.at (show w20.drew.heap[A]? = _ from hA20) hAg)
                go_simp
                try with_reducible rfl
              try simp only [Act.put, List.setIfInBounds_toArray, List.set_cons_zero, List.set_cons_succ]
              refine' wpAnyT_take (i := 2) (v := _) hZ (op_at' rfl) (by rfl) (by kernel_rfl) (by kernel_rfl) (by kernel_rfl) (by kernel_rfl) (fun _ _ _ h => h) (Or.inl ⟨by rfl, ?hy110⟩) (by assumption) ?rest110
              case hy110 =>
                intro w' hS
                go_simp
                try with_reducible rfl
              try simp only [Act.put, List.setIfInBounds_toArray, List.set_cons_zero, List.set_cons_succ]
              refine' wpAnyT_take (i := 3) (v := _) hZ (op_at' rfl) (by rfl) (by kernel_rfl) (by kernel_rfl) (by kernel_rfl) (by kernel_rfl) (fun _ _ _ h => h) (Or.inl ⟨by rfl, ?hy111⟩) (by assumption) ?rest111
              case hy111 =>
                intro w' hS
                go_simp
                try with_reducible rfl
              try simp only [Act.put, List.setIfInBounds_toArray, List.set_cons_zero, List.set_cons_succ]
              refine' wpAnyT_take (i := 4) (v := _) hZ (op_at' rfl) (by rfl) (by kernel_rfl) (by kernel_rfl) (by kernel_rfl) (by kernel_rfl) (fun _ _ _ h => h) (Or.inl ⟨by rfl, ?hy112⟩) (by assumption) ?rest112
              case hy112 =>
                intro w' hS
                have c3 : w'.cell? ⟨SB, 3, none⟩ = some lv := cell_in (hS.at (show w20.drew.heap[SB]? = _ from hSB20) hSBg) 3
                go_simp
                try with_reducible rfl
              try simp only [Act.put, List.setIfInBounds_toArray, List.set_cons_zero, List.set_cons_succ]
              refine' wpAnyT_take (i := 5) (v := _) hZ (op_at' rfl) (by rfl) (by kernel_rfl) (by kernel_rfl) (by kernel_rfl) (by kernel_rfl) (fun _ _ _ h => h) (Or.inl ⟨by rfl, ?hy113⟩) (by assumption) ?rest113
              case hy113 =>
                intro w' hS
                go_simp
                try with_reducible rfl
              try simp only [Act.put, List.setIfInBounds_toArray, List.set_cons_zero, List.set_cons_succ]
              refine' wpAnyT_take (i := 6) (v := _) hZ (op_at' rfl) (by rfl) (by kernel_rfl) (by kernel_rfl) (by kernel_rfl) (by kernel_rfl) (fun _ _ _ h => h) (Or.inl ⟨by rfl, ?hy114⟩) (by assumption) ?rest114
              case hy114 =>
                intro w' hS
                have z1 := (cell_in (hS.at (show w20.drew.heap[Z]? = _ from hZ20) hZg) 1).trans g1
                have z2 := (cell_in (hS.at (show w20.drew.heap[Z]? = _ from hZ20) hZg) 2).trans g2
                go_simp
                try with_reducible rfl
              try simp only [Act.put, List.setIfInBounds_toArray, List.set_cons_zero, List.set_cons_succ]
              refine' wpAnyT_take (i := 7) (v := _) hZ (op_at' rfl) (by rfl) (by kernel_rfl) (by kernel_rfl) (by kernel_rfl) (by kernel_rfl) (fun _ _ _ h => h) (Or.inl ⟨by rfl, ?hy115⟩) (by assumption) ?rest115
              case hy115 =>
                intro w' hS
                go_simp
                try with_reducible rfl
              try simp only [Act.put, List.setIfInBounds_toArray, List.set_cons_zero, List.set_cons_succ]
              refine' wpAnyT_take (i := 8) (v := _) hZ (op_at' rfl) (by rfl) (by kernel_rfl) (by kernel_rfl) (by kernel_rfl) (by kernel_rfl) (fun _ _ _ h => h) (Or.inl ⟨by rfl, ?hy116⟩) (by assumption) ?rest116
              case hy116 =>
                intro w' hS
                have z3 := (cell_in (hS.at (show w20.drew.heap[Z]? = _ from hZ20) hZg) 3).trans g3
                go_simp
                try with_reducible rfl
              try simp only [Act.put, List.setIfInBounds_toArray, List.set_cons_zero, List.set_cons_succ]
              refine' wpAnyT_take (i := 9) (v := _) hZ (op_at' rfl) (by rfl) (by kernel_rfl) (by kernel_rfl) (by kernel_rfl) (by kernel_rfl) (fun _ _ _ h => h) (Or.inl ⟨by rfl, ?hy117⟩) (by assumption) ?rest117
              case hy117 =>
                intro w' hS
                go_simp
                try with_reducible rfl
              try simp only [Act.put, List.setIfInBounds_toArray, List.set_cons_zero, List.set_cons_succ]
              refine' wpAnyT_take (i := 10) (v := _) hZ (op_at' rfl) (by rfl) (by kernel_rfl) (by kernel_rfl) (by kernel_rfl) (by kernel_rfl) (fun _ _ _ h => h) (Or.inl ⟨by rfl, ?hy118⟩) (by assumption) ?rest118
              case hy118 =>
                intro w' hS
                have z5 := (cell_in (hS.at (show w20.drew.heap[Z]? = _ from hZ20) hZg) 5).trans g5
                go_simp
                try with_reducible rfl
              try simp only [Act.put, List.setIfInBounds_toArray, List.set_cons_zero, List.set_cons_succ]
              refine' wpAnyT_take (i := 11) (v := _) hZ (op_at' rfl) (by rfl) (by kernel_rfl) (by kernel_rfl) (by kernel_rfl) (by kernel_rfl) (fun _ _ _ h => h) (Or.inl ⟨by rfl, ?hy119⟩) (by assumption) ?rest119
              case hy119 =>
                intro w' hS
                go_simp
                try with_reducible rfl
              try simp only [Act.put, List.setIfInBounds_toArray, List.set_cons_zero, List.set_cons_succ]
              refine' wpAnyT_take (i := 12) (v := _) hZ (op_at' rfl) (by rfl) (by kernel_rfl) (by kernel_rfl) (by kernel_rfl) (by kernel_rfl) (fun _ _ _ h => h) (Or.inl ⟨by rfl, ?hy120⟩) (by assumption) ?rest120
              case hy120 =>
                intro w' hS
                go_simp
                try with_reducible rfl
              try simp only [Act.put, List.setIfInBounds_toArray, List.set_cons_zero, List.set_cons_succ]
              refine wpAnyT_one (i := 13) (by kernel_rfl) (op_at' rfl) (fun K hK => ?_)
              refine step_buildSlice_one (by rfl) 54 _ (by rfl) 60 j0 _ (sc (⟨u, d, n, to, .slice aa all.length ca, rfl⟩ : Sn)) (by rfl) Try.underlying54 hj hjz0 (by rw [hjz1, sc_len]) (by rw [sc_len]; rfl) (by rw [sc_len]; decide) (by rw [sc_len]; decide) (fun Yn wS oS hYl hYS => ?_)
              go_wp2_with fail
              refine hK.out _ _ (oS.mono (by simp)) (fun hHeld => ?_)
              clear hK K
              try simp only [Act.put, List.setIfInBounds_toArray, List.set_cons_zero, List.set_cons_succ]
              refine wpAnyT_one (i := 14) (by kernel_rfl) (op_at' rfl) (fun K hK => ?_)
              refine step_append_sep (by rfl) _ _ 54 (by rfl) 60 j0 _ 5 56 Try.underlying54 hj hjz0 hjz1 hjz2 (by rfl) (by decide) lv logs.length _ (by rfl) ((sE.quiet oS).sel 17 [10, 0, 1, 2, 3, 4, 5, 6, 7, 8, 9, 11, 12, 13, 14, 15, 16]) _ 1 (sc (⟨u, d, n, to, .slice aa all.length ca, rfl⟩ : Sn)) (by rfl) (src_blk hYS (by rw [sc_len])) (sc_one _) (by unfold maxLen; omega) (by omega) (fun a7 c7 w27 o27 s27 => ?_)
              go_wp2_with fail
              refine hK.out _ _ ((oS.mono (by simp)).trans o27) (fun hHeld => ?_)
              clear hK K
              try simp only [Act.put, List.setIfInBounds_toArray, List.set_cons_zero, List.set_cons_succ]
              refine' wpAnyT_take (i := 15) (v := _) hZ (op_at' rfl) (by rfl) (by kernel_rfl) (by kernel_rfl) (by kernel_rfl) (by kernel_rfl) (fun _ _ _ h => h) (Or.inl ⟨by rfl, ?hy121⟩) (by assumption) ?rest121
              case hy121 =>
                intro w' hS
                go_simp
                try with_reducible rfl
              try simp only [Act.put, List.setIfInBounds_toArray, List.set_cons_zero, List.set_cons_succ]
              refine' wpAnyT_take (i := 16) (v := _) hZ (op_at' rfl) (by rfl) (by kernel_rfl) (by kernel_rfl) (by kernel_rfl) (by kernel_rfl) (fun _ _ _ h => h) (Or.inl ⟨by rfl, ?hy122⟩) (by assumption) ?rest122
              case hy122 =>
                intro w' hS
                go_simp
                try with_reducible rfl
              try simp only [Act.put, List.setIfInBounds_toArray, List.set_cons_zero, List.set_cons_succ]
              refine wpAnyT_last (by kernel_rfl) (op_at' rfl) (by kernel_rfl) (fun K hK => ?_)
              refine step_store_blk (by rfl) 54 _ _ (by rfl) SB 3 (.slice a7 (logs.length + 1) c7) [.slice a7 (logs.length + 1) c7] (sb RB BM LM lv) 69 (by rfl) (by rfl) (by rfl) (s27.sel 17 [8, 0, 1, 2, 3, 4, 5, 6, 7, 9, 10, 11, 12, 13, 14, 15, 16]) (by simp) (by kernel_rfl) (by simp [Value.oneCell']) (fun w28 o28 s28 => ?_)
              go_wp2_with fail
              refine hK.out _ _ ?_
              clear hK K
              try simp only [Act.put, List.setIfInBounds_toArray, List.set_cons_zero, List.set_cons_succ]
              rw [hfl.out] at s28
              have s29 := s28.sel 17 [6, 7, 8, 0, 9, 10, 1, 11, 12, 13, 14, 15, 16]
              have hlen : (logs ++ [(⟨u, d, n, to, .slice aa all.length ca, rfl⟩ : Sn)]).length = logs.length + 1 := by simp
              clear s27 sE hfl hA20 hZ20 hSB20 hSBg hAg hZg s28 hZ hHeld
              go_wp2_with fail
              refine bodyPost_end (v := .tuple #[]) (by simp [results, Try.results21, go_sem]) rfl ⟨rfl, .slice a7 (logs.length + 1) c7, aa, ca, u1, x1, u2, x2, ?_⟩
              unfold srvR
              rw [hlen]
              exact s29
end Go.Proofs.Yticojdepepkdlaa
