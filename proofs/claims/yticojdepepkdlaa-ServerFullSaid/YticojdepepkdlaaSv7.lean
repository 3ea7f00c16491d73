/- post of layer 19 (server): no room; taken. Printed by gen_sv7.py. -/
import Derived.Test.YticojdepepkdlaaSv6
set_option linter.unusedSimpArgs false
set_option linter.unusedVariables false
namespace Go.Proofs.Yticojdepepkdlaa
open Go.RowKit Go.Pw
set_option linter.unusedVariables false

set_option maxRecDepth 100000 in
set_option maxHeartbeats 2000000 in
theorem post_full {w0 : World} {rs : List Res} (SB RB BM LM RX : Nat) (v : Value) (l : List Li) (bm lm : List ((Int × Int) × Value)) (lv : Value) (logs : List Sn) (k u d n tr to : Int) (ev : Value) (up : Int) (vb : Value) (qs : List (Value × (Int × Int))) (w : World) (h : Sep w0 w (srvR SB RB BM LM v l bm lm lv logs (blk RX (rp0 k u d n tr) 49 :: rs))) (hlast : (getM lm (u, d)).getD (.agg #[.int .u32 0, .bool false]) = .agg #[.int .u32 0, .bool false]) (hn : 0 < n ∧ n < 4294967296) (hu : W32 u) (hd : W32 d) (hl : l.length ≤ 1000000) (hr : Rise l)
    (tos all : List (Int × Int)) (htl : tos.length ≤ 100) (hnd : tos.Nodup) (hqs : qs.map (·.2) = tos) (hall : audL l u d to = all) (hall1 : all.length ≤ 1000) (hall0 : 0 < all.length) (hlst : (listL l to).length ≠ 0)
    (hin1 : ∀ p ∈ all, hasW tos p.1 p.2 = true) (hin2 : ∀ p ∈ tos, hasW all p.1 p.2 = true) (rm : Int × Int → Int) (Hrooms : Rooms bm rm all w) (hany : all.any (fun p => decide (rm p < 1)) = true) (henv : Envs u d ev qs w) :
    Calls Try.prog 21 #[.pointer (some ⟨SB, 0, none⟩), .agg (ac k u d n tr to ev up vb).toArray, .pointer (some ⟨RX, 0, none⟩)] w (fun e w' => e = .returned (.tuple #[]) ∧ Sep w0 w' (srvR SB RB BM LM v l bm lm lv logs (blk RX (rpE k u d n tr 3) 49 :: rs))) := by
  have Henv : Envs u d ev qs w := henv
  have Haddr := fun (w' : World) (o : Only w w' []) => addressed_any k u d n tr to ev up vb qs w' (Henv.new o) hu hd (by rw [← List.length_map (f := (·.2)), hqs]; exact htl) (by rw [hqs]; exact hnd)
  rw [hqs] at Haddr
  have Haud := fun (w' : World) (o : Only w w' []) => audience_any RB l v u d to w' ((h.quiet o).sel 2 [0, 1]) hl hr
  rw [hall] at Haud
  have Hlist := fun (w' : World) (o : Only w w' []) => list_any RB l v to w' ((h.quiet o).sel 2 [0, 1]) hl hr
  obtain ⟨nl, hnl⟩ : ∃ nl, nl = (listL l to).length := ⟨_, rfl⟩
  unfold Whos at Hlist
  rw [← hnl] at Hlist hlst
  have dnl : ((nl : Int) == 0) = false := by simp; omega
  have dal : ((all.length : Int) == 0) = false := by simp only [beq_eq_false_iff_ne]; omega
  unfold Whos2 at Haddr
  unfold Whos at Haud
  clear hnl hlst hall hnd
  have hlk := fun (w' : World) (o : Only w w' []) => run_lookupW 67 101 (.agg #[.int .u32 0, .bool false]) LM lm (u, d) ((h.quiet o).sel 6 [5]) Try.underlying67 (fun _ => by kernel_rfl)
  rw [hlast] at hlk
  have g1 : (ac k u d n tr to ev up vb).toArray[1]? = some (.int .i64 u) := rfl
  have g2 : (ac k u d n tr to ev up vb).toArray[2]? = some (.int .i64 d) := rfl
  have g3 : (ac k u d n tr to ev up vb).toArray[3]? = some (.int .u32 n) := rfl
  have g5 : (ac k u d n tr to ev up vb).toArray[5]? = some (.int .i64 to) := rfl
  have g6 : (ac k u d n tr to ev up vb).toArray[6]? = some ev := rfl
  have hal := ac_len k u d n tr to ev up vb
  obtain ⟨cs, hcs⟩ : ∃ cs, cs = ac k u d n tr to ev up vb := ⟨_, rfl⟩
  have Hcs := Lib.hid hcs
  rw [← hcs] at g1 g2 g3 g5 g6 hal ⊢
  clear hlast hcs
  go_enter Try.func21, Try.ntmps21
  go_upto_region 1 with (first
    | (refine wpList_box_new rfl 24 _ rfl (.pointer (some ⟨SB, 0, none⟩)) rfl ?_; intro A wA oA hAl hA)
    | (refine wpList_box_new rfl 45 _ rfl (.agg cs.toArray) rfl ?_; intro Z wZ oZ hZl hZb))
  have sA : Sep w0 wA (blk A [.pointer (some ⟨SB, 0, none⟩)] 24 :: srvR SB RB BM LM v l bm lm lv logs (blk RX (rp0 k u d n tr) 49 :: rs)) := h.add oA hA (fun k hk => by simp [blk] at hk; omega)
  have sZ : Sep w0 wZ (blk Z cs 45 :: blk A [.pointer (some ⟨SB, 0, none⟩)] 24 :: srvR SB RB BM LM v l bm lm lv logs (blk RX (rp0 k u d n tr) 49 :: rs)) := sA.add oZ hZb (fun k hk => by simp [blk] at hk; omega)
  have sD := sZ.quiet (Only.drew wZ [])
  have oAZ := oA.trans oZ
  clear h sZ sA oA oZ hA hZb hAl hZl
  refine wp_region_t (S := fun w' => Only wZ.drew w' []) 8 (by kernel_rfl) (by kernel_rfl) (Only.refl _ _) (fun hZ hHeld => ?_)
  refine' wpAnyT_take (i := 0) (v := _) hZ (op_at' rfl) (by rfl) (by kernel_rfl) (by kernel_rfl) (by kernel_rfl) (by kernel_rfl) (fun _ _ _ h => h) (Or.inl ⟨by rfl, ?hy1⟩) (by assumption) ?rest1
  case hy1 =>
    intro w' hS
    have hc0 := cell_of_one (show w'.heap[A]? = _ from ((sD.quiet hS).sel 2 [1]).head)
    go_simp
    try with_reducible rfl
  try simp only [Act.put, List.setIfInBounds_toArray, List.set_cons_zero, List.set_cons_succ]
  refine' wpAnyT_take (i := 1) (v := _) hZ (op_at' rfl) (by rfl) (by kernel_rfl) (by kernel_rfl) (by kernel_rfl) (by kernel_rfl) (fun _ _ _ h => h) (Or.inl ⟨by rfl, ?hy2⟩) (by assumption) ?rest2
  case hy2 =>
    intro w' hS
    go_simp
    try with_reducible rfl
  try simp only [Act.put, List.setIfInBounds_toArray, List.set_cons_zero, List.set_cons_succ]
  refine' wpAnyT_take (i := 2) (v := _) hZ (op_at' rfl) (by rfl) (by kernel_rfl) (by kernel_rfl) (by kernel_rfl) (by kernel_rfl) (fun _ _ _ h => h) (Or.inl ⟨by rfl, ?hy3⟩) (by assumption) ?rest3
  case hy3 =>
    intro w' hS
    go_simp
    try with_reducible rfl
  try simp only [Act.put, List.setIfInBounds_toArray, List.set_cons_zero, List.set_cons_succ]
  refine' wpAnyT_take (i := 3) (v := _) hZ (op_at' rfl) (by rfl) (by kernel_rfl) (by kernel_rfl) (by kernel_rfl) (by kernel_rfl) (fun _ _ _ h => h) (Or.inl ⟨by rfl, ?hy4⟩) (by assumption) ?rest4
  case hy4 =>
    intro w' hS
    obtain ⟨c0, c1, c2, c3⟩ := sb_at ((sD.quiet hS).sel 6 [5]).head
    go_simp
    try with_reducible rfl
  try simp only [Act.put, List.setIfInBounds_toArray, List.set_cons_zero, List.set_cons_succ]
  refine' wpAnyT_take (i := 4) (v := _) hZ (op_at' rfl) (by rfl) (by kernel_rfl) (by kernel_rfl) (by kernel_rfl) (by kernel_rfl) (fun _ _ _ h => h) (Or.inl ⟨by rfl, ?hy5⟩) (by assumption) ?rest5
  case hy5 =>
    intro w' hS
    go_simp
    try with_reducible rfl
  try simp only [Act.put, List.setIfInBounds_toArray, List.set_cons_zero, List.set_cons_succ]
  refine' wpAnyT_take (i := 5) (v := _) hZ (op_at' rfl) (by rfl) (by kernel_rfl) (by kernel_rfl) (by kernel_rfl) (by kernel_rfl) (fun _ _ _ h => h) (Or.inl ⟨by rfl, ?hy6⟩) (by assumption) ?rest6
  case hy6 =>
    intro w' hS
    have hz_ := show w'.heap[Z]? = _ from (sD.quiet hS).head
    have z1 := (cell_in hz_ 1).trans g1
    have z2 := (cell_in hz_ 2).trans g2
    go_simp
    try with_reducible rfl
  try simp only [Act.put, List.setIfInBounds_toArray, List.set_cons_zero, List.set_cons_succ]
  refine' wpAnyT_take (i := 6) (v := _) hZ (op_at' rfl) (by rfl) (by kernel_rfl) (by kernel_rfl) (by kernel_rfl) (by kernel_rfl) (fun _ _ _ h => h) (Or.inl ⟨by rfl, ?hy7⟩) (by assumption) ?rest7
  case hy7 =>
    intro w' hS
    have hl_ : (Instr.lookup 67 (.map (some LM)) (.agg #[.int .i64 u, .int .i64 d]) false).run Try.prog w' = .ok (.agg #[.int .u32 0, .bool false]) w' := hlk w' (oAZ.trans ((Only.drew wZ []).trans hS))
    go_simp
    try with_reducible rfl
  try simp only [Act.put, List.setIfInBounds_toArray, List.set_cons_zero, List.set_cons_succ]
  refine wpAnyT_one (i := 7) (by kernel_rfl) (op_at' rfl) (fun K hK => ?_)
  refine step_alloc_new (by rfl) 101 (by rfl) (.agg #[.int .u32 0, .bool false]) (fun _ => by kernel_rfl) (fun T5 w7 o7 l7 h7 => ?_)
  go_wp2_with fail
  refine hK.out _ _ o7 (fun hHeld => ?_)
  clear hK K
  try simp only [Act.put, List.setIfInBounds_toArray, List.set_cons_zero, List.set_cons_succ]
  refine wpAnyT_last (by kernel_rfl) (op_at' rfl) (by kernel_rfl) (fun K hK => ?_)
  refine step_store_blk (by rfl) 101 _ _ (by rfl) T5 0 (.agg #[.int .u32 0, .bool false]) [.int .u32 0, .bool false] [.int .u32 0, .bool false] 101 (by rfl) (by rfl) (by rfl) (sD.add (b := blk T5 [.int .u32 0, .bool false] 101) o7 h7 (fun k hk => by simp [blk] at hk; omega)) (by simp) (by kernel_rfl) (by simp [Value.oneCell']) (fun w8 o8 s8 => ?_)
  go_wp2_with fail
  refine hK.out _ _ ?_
  clear hK K
  try simp only [Act.put, List.setIfInBounds_toArray, List.set_cons_zero, List.set_cons_succ]
  have s9 : Sep w0 w8 (blk A [.pointer (some ⟨SB, 0, none⟩)] 24 :: blk Z cs 45 :: srvR SB RB BM LM v l bm lm lv logs (blk RX (rp0 k u d n tr) 49 :: rs)) := s8.sel 3 [2, 1]
  have o8d : Only wZ.drew w8 [] := o7.new o8 (fun i hi => by simp only [List.mem_singleton] at hi; omega)
  have hT8 : w8.heap[T5]? = some (.cells #[.int .u32 0, .bool false] 101 (0, 0)) := s8.head
  have hZ7 : w8.heap[Z]? = some (.cells cs.toArray 45 (0, 0)) := (s9.sel 2 [1]).head
  have z3 := (cell_in hZ7 3).trans g3
  have t0 := cell_two0 hT8
  have t1 := cell_two1 hT8
  clear hT8 sD hlk hZ hHeld s8
  have d1 : (n == 0) = false := by simp; omega
  have d2 : decide (n ≤ 0) = false := by simp; omega
  rw [← Hcs.out] at Haddr
  go_wp2_with (refine wpList_load_blk rfl 45 _ rfl Z rfl cs _ hZ7 Try.underlying45 (by rfl) (by rw [hal]; kernel_rfl) ?_)
  have o8w : Only w w8 [] := (oAZ.trans (Only.drew wZ [])).trans o8d
  refine (Haddr _ o8w).mono ?_
  rintro e w10 ⟨at_, ct, rfl, sT⟩
  have s10 := (s9.plus sT)
  have oB := o8w.trans sT.only
  have hst := Henv
  clear z3 t0 t1 Haddr sT s9 hZ7
  go_upto_region 8 with fail
  refine wp_region_held_drew (S := fun w' => Only w10.drew w' []) (by kernel_rfl) (Only.refl _ _) (fun hHeld => ?_)
  refine' wpAnyH_take (i := 0) (v := _) (op_at rfl) (by kernel_rfl) (by kernel_rfl) (by kernel_rfl) (fun _ _ _ h => h) (Or.inl ⟨by rfl, ?hy8⟩) (by assumption) ?rest8
  case hy8 =>
    intro w' hS
    have hc0 := cell_of_one (show w'.heap[A]? = _ from (((s10.quiet (Only.drew w10 [])).quiet hS).sel 2 [1]).head)
    go_simp
    try with_reducible rfl
  try simp only [Act.put, List.setIfInBounds_toArray, List.set_cons_zero, List.set_cons_succ]
  refine' wpAnyH_take (i := 1) (v := _) (op_at rfl) (by kernel_rfl) (by kernel_rfl) (by kernel_rfl) (fun _ _ _ h => h) (Or.inl ⟨by rfl, ?hy9⟩) (by assumption) ?rest9
  case hy9 =>
    intro w' hS
    go_simp
    try with_reducible rfl
  try simp only [Act.put, List.setIfInBounds_toArray, List.set_cons_zero, List.set_cons_succ]
  refine' wpAnyH_take (i := 2) (v := _) (op_at rfl) (by kernel_rfl) (by kernel_rfl) (by kernel_rfl) (fun _ _ _ h => h) (Or.inl ⟨by rfl, ?hy10⟩) (by assumption) ?rest10
  case hy10 =>
    intro w' hS
    go_simp
    try with_reducible rfl
  try simp only [Act.put, List.setIfInBounds_toArray, List.set_cons_zero, List.set_cons_succ]
  refine' wpAnyH_take (i := 3) (v := _) (op_at rfl) (by kernel_rfl) (by kernel_rfl) (by kernel_rfl) (fun _ _ _ h => h) (Or.inl ⟨by rfl, ?hy11⟩) (by assumption) ?rest11
  case hy11 =>
    intro w' hS
    obtain ⟨c0, c1, c2, c3⟩ := sb_at (((s10.quiet (Only.drew w10 [])).quiet hS).sel 7 [6]).head
    go_simp
    try with_reducible rfl
  try simp only [Act.put, List.setIfInBounds_toArray, List.set_cons_zero, List.set_cons_succ]
  refine' wpAnyH_take (i := 4) (v := _) (op_at rfl) (by kernel_rfl) (by kernel_rfl) (by kernel_rfl) (fun _ _ _ h => h) (Or.inl ⟨by rfl, ?hy12⟩) (by assumption) ?rest12
  case hy12 =>
    intro w' hS
    go_simp
    try with_reducible rfl
  try simp only [Act.put, List.setIfInBounds_toArray, List.set_cons_zero, List.set_cons_succ]
  refine' wpAnyH_take (i := 5) (v := _) (op_at rfl) (by kernel_rfl) (by kernel_rfl) (by kernel_rfl) (fun _ _ _ h => h) (Or.inl ⟨by rfl, ?hy13⟩) (by assumption) ?rest13
  case hy13 =>
    intro w' hS
    have hz_ := show w'.heap[Z]? = _ from (((s10.quiet (Only.drew w10 [])).quiet hS).sel 3 [2]).head
    have z1 := (cell_in hz_ 1).trans g1
    have z2 := (cell_in hz_ 2).trans g2
    go_simp
    try with_reducible rfl
  try simp only [Act.put, List.setIfInBounds_toArray, List.set_cons_zero, List.set_cons_succ]
  refine' wpAnyH_take (i := 6) (v := _) (op_at rfl) (by kernel_rfl) (by kernel_rfl) (by kernel_rfl) (fun _ _ _ h => h) (Or.inl ⟨by rfl, ?hy14⟩) (by assumption) ?rest14
  case hy14 =>
    intro w' hS
    go_simp
    try with_reducible rfl
  try simp only [Act.put, List.setIfInBounds_toArray, List.set_cons_zero, List.set_cons_succ]
  refine' wpAnyH_take (i := 7) (v := _) (op_at rfl) (by kernel_rfl) (by kernel_rfl) (by kernel_rfl) (fun _ _ _ h => h) (Or.inl ⟨by rfl, ?hy15⟩) (by assumption) ?rest15
  case hy15 =>
    intro w' hS
    have hz_ := show w'.heap[Z]? = _ from (((s10.quiet (Only.drew w10 [])).quiet hS).sel 3 [2]).head
    have z5 := (cell_in hz_ 5).trans g5
    go_simp
    try with_reducible rfl
  try simp only [Act.put, List.setIfInBounds_toArray, List.set_cons_zero, List.set_cons_succ]
  refine wpAnyH_ready (rs := [8]) (by kernel_rfl) (by simp) (AllReadyH.cons (op_at rfl) (fun K hK => ?_) AllReadyH.nil)
  go_simp
  refine (Haud _ (oB.trans (Only.drew w10 []))).mono fun e w11 hq => ?_
  obtain ⟨aa, ca, rfl, sA⟩ := hq
  go_wp2_with fail
  refine hK.out _ _ sA.only (fun hHeld => ?_)
  clear hK K
  try simp only [Act.put, List.setIfInBounds_toArray, List.set_cons_zero, List.set_cons_succ]
  refine' wpAnyH_take (i := 9) (v := _) (op_at rfl) (by kernel_rfl) (by kernel_rfl) (by kernel_rfl) (fun _ _ _ h => h) (Or.inl ⟨by rfl, ?hy16⟩) (by assumption) ?rest16
  case hy16 =>
    intro w' hS
    go_simp
    try with_reducible rfl
  try simp only [Act.put, List.setIfInBounds_toArray, List.set_cons_zero, List.set_cons_succ]
  refine wpAnyH_done (by kernel_rfl) ?_ _
  have s11 := ((s10.quiet (Only.drew w10 [])).plus sA)
  have oC := (oB.trans (Only.drew w10 [])).trans sA.only
  clear s10 sA hHeld oB Haud
  go_upto_region 9 with fail
  refine wp_region_held_drew (S := fun w' => Only w11.drew w' []) (by kernel_rfl) (Only.refl _ _) (fun hHeld => ?_)
  refine' wpAnyH_take (i := 0) (v := _) (op_at rfl) (by kernel_rfl) (by kernel_rfl) (by kernel_rfl) (fun _ _ _ h => h) (Or.inl ⟨by rfl, ?hy17⟩) (by assumption) ?rest17
  case hy17 =>
    intro w' hS
    have hc0 := cell_of_one (show w'.heap[A]? = _ from (((s11.quiet (Only.drew w11 [])).quiet hS).sel 3 [2]).head)
    go_simp
    try with_reducible rfl
  try simp only [Act.put, List.setIfInBounds_toArray, List.set_cons_zero, List.set_cons_succ]
  refine' wpAnyH_take (i := 1) (v := _) (op_at rfl) (by kernel_rfl) (by kernel_rfl) (by kernel_rfl) (fun _ _ _ h => h) (Or.inl ⟨by rfl, ?hy18⟩) (by assumption) ?rest18
  case hy18 =>
    intro w' hS
    go_simp
    try with_reducible rfl
  try simp only [Act.put, List.setIfInBounds_toArray, List.set_cons_zero, List.set_cons_succ]
  refine' wpAnyH_take (i := 2) (v := _) (op_at rfl) (by kernel_rfl) (by kernel_rfl) (by kernel_rfl) (fun _ _ _ h => h) (Or.inl ⟨by rfl, ?hy19⟩) (by assumption) ?rest19
  case hy19 =>
    intro w' hS
    go_simp
    try with_reducible rfl
  try simp only [Act.put, List.setIfInBounds_toArray, List.set_cons_zero, List.set_cons_succ]
  refine' wpAnyH_take (i := 3) (v := _) (op_at rfl) (by kernel_rfl) (by kernel_rfl) (by kernel_rfl) (fun _ _ _ h => h) (Or.inl ⟨by rfl, ?hy20⟩) (by assumption) ?rest20
  case hy20 =>
    intro w' hS
    obtain ⟨c0, c1, c2, c3⟩ := sb_at (((s11.quiet (Only.drew w11 [])).quiet hS).sel 8 [7]).head
    go_simp
    try with_reducible rfl
  try simp only [Act.put, List.setIfInBounds_toArray, List.set_cons_zero, List.set_cons_succ]
  refine' wpAnyH_take (i := 4) (v := _) (op_at rfl) (by kernel_rfl) (by kernel_rfl) (by kernel_rfl) (fun _ _ _ h => h) (Or.inl ⟨by rfl, ?hy21⟩) (by assumption) ?rest21
  case hy21 =>
    intro w' hS
    go_simp
    try with_reducible rfl
  try simp only [Act.put, List.setIfInBounds_toArray, List.set_cons_zero, List.set_cons_succ]
  refine' wpAnyH_take (i := 5) (v := _) (op_at rfl) (by kernel_rfl) (by kernel_rfl) (by kernel_rfl) (fun _ _ _ h => h) (Or.inl ⟨by rfl, ?hy22⟩) (by assumption) ?rest22
  case hy22 =>
    intro w' hS
    have hz_ := show w'.heap[Z]? = _ from (((s11.quiet (Only.drew w11 [])).quiet hS).sel 4 [3]).head
    have z5 := (cell_in hz_ 5).trans g5
    go_simp
    try with_reducible rfl
  try simp only [Act.put, List.setIfInBounds_toArray, List.set_cons_zero, List.set_cons_succ]
  refine wpAnyH_ready (rs := [6]) (by kernel_rfl) (by simp) (AllReadyH.cons (op_at rfl) (fun K hK => ?_) AllReadyH.nil)
  go_simp
  refine (Hlist _ (oC.trans (Only.drew w11 []))).mono fun e w12 hq => ?_
  obtain ⟨al, cl, rfl, sL⟩ := hq
  go_wp2_with fail
  refine hK.out _ _ sL.only (fun hHeld => ?_)
  clear hK K
  try simp only [Act.put, List.setIfInBounds_toArray, List.set_cons_zero, List.set_cons_succ]
  refine' wpAnyH_take (i := 7) (v := _) (op_at rfl) (by kernel_rfl) (by kernel_rfl) (by kernel_rfl) (fun _ _ _ h => h) (Or.inl ⟨by rfl, ?hy23⟩) (by assumption) ?rest23
  case hy23 =>
    intro w' hS
    go_simp
    try with_reducible rfl
  try simp only [Act.put, List.setIfInBounds_toArray, List.set_cons_zero, List.set_cons_succ]
  refine' wpAnyH_take (i := 8) (v := _) (op_at rfl) (by kernel_rfl) (by kernel_rfl) (by kernel_rfl) (fun _ _ _ h => h) (Or.inl ⟨by rfl, ?hy24⟩) (by assumption) ?rest24
  case hy24 =>
    intro w' hS
    go_simp
    try with_reducible rfl
  try simp only [Act.put, List.setIfInBounds_toArray, List.set_cons_zero, List.set_cons_succ]
  refine' wpAnyH_take (i := 9) (v := _) (op_at rfl) (by kernel_rfl) (by kernel_rfl) (by kernel_rfl) (fun _ _ _ h => h) (Or.inl ⟨by rfl, ?hy25⟩) (by assumption) ?rest25
  case hy25 =>
    intro w' hS
    go_simp
    try with_reducible rfl
  try simp only [Act.put, List.setIfInBounds_toArray, List.set_cons_zero, List.set_cons_succ]
  refine' wpAnyH_take (i := 10) (v := _) (op_at rfl) (by kernel_rfl) (by kernel_rfl) (by kernel_rfl) (fun _ _ _ h => h) (Or.inl ⟨by rfl, ?hy26⟩) (by assumption) ?rest26
  case hy26 =>
    intro w' hS
    go_simp
    try with_reducible rfl
  try simp only [Act.put, List.setIfInBounds_toArray, List.set_cons_zero, List.set_cons_succ]
  refine' wpAnyH_take (i := 11) (v := _) (op_at rfl) (by kernel_rfl) (by kernel_rfl) (by kernel_rfl) (fun _ _ _ h => h) (Or.inl ⟨by rfl, ?hy27⟩) (by assumption) ?rest27
  case hy27 =>
    intro w' hS
    go_simp
    try with_reducible rfl
  try simp only [Act.put, List.setIfInBounds_toArray, List.set_cons_zero, List.set_cons_succ]
  refine' wpAnyH_take (i := 12) (v := _) (op_at rfl) (by kernel_rfl) (by kernel_rfl) (by kernel_rfl) (fun _ _ _ h => h) (Or.inl ⟨by rfl, ?hy28⟩) (by assumption) ?rest28
  case hy28 =>
    intro w' hS
    go_simp
    try with_reducible rfl
  try simp only [Act.put, List.setIfInBounds_toArray, List.set_cons_zero, List.set_cons_succ]
  refine' wpAnyH_take (i := 13) (v := _) (op_at rfl) (by kernel_rfl) (by kernel_rfl) (by kernel_rfl) (fun _ _ _ h => h) (Or.inl ⟨by rfl, ?hy29⟩) (by assumption) ?rest29
  case hy29 =>
    intro w' hS
    go_simp
    try with_reducible rfl
  try simp only [Act.put, List.setIfInBounds_toArray, List.set_cons_zero, List.set_cons_succ]
  refine wpAnyH_done (by kernel_rfl) ?_ _
  have s12 := ((s11.quiet (Only.drew w11 [])).quiet sL.only)
  have oD := (oC.trans (Only.drew w11 [])).trans sL.only
  clear s11 sL hHeld oC Hlist
  have hAll := fun (w' : World) (o : Only w12 w' []) => (show w'.ownsRow 0 27 2 (.slice aa all.length ca) all.length (fl wc all) from (s12.quiet o).head)
  have hTos := fun (w' : World) (o : Only w12 w' []) => (show w'.ownsRow 0 27 2 (.slice at_ tos.length ct) tos.length (fl wc tos) from ((s12.quiet o).sel 2 [1]).head)
  go_wp2_with fail
  go_loopw [83] (fun z wr => ∃ i : Nat, z = .int .i64 i ∧ i ≤ all.length ∧ Only w12 wr []) (fun z _ => all.length - (intOf z).toNat)
  case atStart => exact ⟨0, rfl, Nat.zero_le _, Only.refl _ _⟩
  case round =>
    obtain ⟨i, rfl, hi_, ho⟩ := hrel
    by_cases hlt : i < all.length
    · have d3 : decide ((i : Int) < (all.length : Int)) = true := by simpa using hlt
      have hrow := hAll wr ho
      obtain ⟨gA, rfl, _⟩ := own_some hrow (by omega)
      have e0 := rec_cell wc_len hrow hlt 0 (v := .int .i64 all[i].1) rfl
      have e1 := rec_cell wc_len hrow hlt 1 (v := .int .i64 all[i].2) rfl
      rw [Nat.add_zero] at e0
      have hhas := hin1 _ (List.getElem_mem hlt)
      generalize all[i] = p at *
      obtain ⟨pu, pd⟩ := p
      simp only at e0 e1 hhas
      have h1c : ([.int .i64 pu, .int .i64 pd] : List Value).toArray.all (·.oneCell') = true := by simp [Value.oneCell']
      clear hrow
      go_upto_region 14 with (first
        | (refine wpList_alloc_new rfl 27 rfl (.agg #[.int .i64 0, .int .i64 0]) (fun _ => by kernel_rfl) ?_; intro X wX oX hXl hX)
        | (refine wpList_store_blk rfl 27 _ _ rfl X [.int .i64 pu, .int .i64 pd] rfl rfl hX rfl (by kernel_rfl) h1c ?_; intro wY oY hY; have oXY := oX.new oY (fun i hi => by simp only [List.mem_singleton] at hi; omega); have hy0 := cell_two0 hY; have hy1 := cell_two1 hY; clear hX oX oY e0 e1))
      go_wp2_with fail
      refine (wcontains_any tos _ pu pd _ (hTos _ (ho.trans oXY)) (by omega)).mono ?_
      rw [hhas]
      rintro e w13 ⟨rfl, o13⟩
      clear hy0 hy1 hY
      go_wp2_with fail
      exact ⟨⟨i + 1, by simp, by omega, (ho.trans oXY).trans o13⟩, by simp [intOf]; omega⟩
    · obtain rfl : i = all.length := by omega
      have d3 : decide ((all.length : Int) < (all.length : Int)) = false := by simp
      go_wp2_with fail
      clear d3 hlt hi_
      have ho1 := ho
      clear ho
      go_loopw [113] (fun z wr => ∃ i : Nat, z = .int .i64 i ∧ i ≤ tos.length ∧ Only w12 wr []) (fun z _ => tos.length - (intOf z).toNat)
      case atStart => exact ⟨0, rfl, Nat.zero_le _, ho1⟩
      case round =>
        obtain ⟨i, rfl, hi_, ho⟩ := hrel
        by_cases hlt : i < tos.length
        · have d3 : decide ((i : Int) < (tos.length : Int)) = true := by simpa using hlt
          have hrow := hTos wr ho
          obtain ⟨gA, rfl, _⟩ := own_some hrow (by omega)
          have e0 := rec_cell wc_len hrow hlt 0 (v := .int .i64 tos[i].1) rfl
          have e1 := rec_cell wc_len hrow hlt 1 (v := .int .i64 tos[i].2) rfl
          rw [Nat.add_zero] at e0
          have hhas := hin2 _ (List.getElem_mem hlt)
          generalize tos[i] = p at *
          obtain ⟨pu, pd⟩ := p
          simp only at e0 e1 hhas
          have h1c : ([.int .i64 pu, .int .i64 pd] : List Value).toArray.all (·.oneCell') = true := by simp [Value.oneCell']
          clear hrow
          go_upto_region 21 with (first
            | (refine wpList_alloc_new rfl 27 rfl (.agg #[.int .i64 0, .int .i64 0]) (fun _ => by kernel_rfl) ?_; intro X wX oX hXl hX)
            | (refine wpList_store_blk rfl 27 _ _ rfl X [.int .i64 pu, .int .i64 pd] rfl rfl hX rfl (by kernel_rfl) h1c ?_; intro wY oY hY; have oXY := oX.new oY (fun i hi => by simp only [List.mem_singleton] at hi; omega); have hy0 := cell_two0 hY; have hy1 := cell_two1 hY; clear hX oX oY e0 e1))
          go_wp2_with fail
          refine (wcontains_any all _ pu pd _ (hAll _ (ho.trans oXY)) (by omega)).mono ?_
          rw [hhas]
          rintro e w13 ⟨rfl, o13⟩
          clear hy0 hy1 hY
          go_wp2_with fail
          exact ⟨⟨i + 1, by simp, by omega, (ho.trans oXY).trans o13⟩, by simp [intOf]; omega⟩
        · obtain rfl : i = tos.length := by omega
          have d3 : decide ((tos.length : Int) < (tos.length : Int)) = false := by simp
          go_wp2_with fail
          clear d3 hlt hi_
          have s13 := s12.quiet ho
          have oE := oD.trans ho
          clear ho ho1 hAll hTos s12 oD
          go_upto_region 24 with fail
          refine wp_region_held_drew (S := fun w' => Only wr.drew w' []) (by kernel_rfl) (Only.refl _ _) (fun hHeld => ?_)
          refine' wpAnyH_take (i := 0) (v := _) (op_at rfl) (by kernel_rfl) (by kernel_rfl) (by kernel_rfl) (fun _ _ _ h => h) (Or.inl ⟨by rfl, ?hy30⟩) (by assumption) ?rest30
          case hy30 =>
            intro w' hS
            go_simp
            try with_reducible rfl
          try simp only [Act.put, List.setIfInBounds_toArray, List.set_cons_zero, List.set_cons_succ]
          refine' wpAnyH_take (i := 1) (v := _) (op_at rfl) (by kernel_rfl) (by kernel_rfl) (by kernel_rfl) (fun _ _ _ h => h) (Or.inl ⟨by rfl, ?hy31⟩) (by assumption) ?rest31
          case hy31 =>
            intro w' hS
            go_simp
            try with_reducible rfl
          try simp only [Act.put, List.setIfInBounds_toArray, List.set_cons_zero, List.set_cons_succ]
          refine' wpAnyH_take (i := 2) (v := _) (op_at rfl) (by kernel_rfl) (by kernel_rfl) (by kernel_rfl) (fun _ _ _ h => h) (Or.inl ⟨by rfl, ?hy32⟩) (by assumption) ?rest32
          case hy32 =>
            intro w' hS
            go_simp
            try with_reducible rfl
          try simp only [Act.put, List.setIfInBounds_toArray, List.set_cons_zero, List.set_cons_succ]
          refine' wpAnyH_take (i := 3) (v := _) (op_at rfl) (by kernel_rfl) (by kernel_rfl) (by kernel_rfl) (fun _ _ _ h => h) (Or.inl ⟨by rfl, ?hy33⟩) (by assumption) ?rest33
          case hy33 =>
            intro w' hS
            have hr_ := show w'.heap[RX]? = _ from (((s13.quiet (Only.drew wr [])).quiet hS).sel 12 [11]).head
            have r6 : w'.cell? ⟨RX, 6, none⟩ = some (.slice none 0 0) := cell_in hr_ 6
            have r7 : w'.cell? ⟨RX, 7, none⟩ = some (.slice none 0 0) := cell_in hr_ 7
            go_simp
            try with_reducible rfl
          try simp only [Act.put, List.setIfInBounds_toArray, List.set_cons_zero, List.set_cons_succ]
          refine' wpAnyH_take (i := 4) (v := _) (op_at rfl) (by kernel_rfl) (by kernel_rfl) (by kernel_rfl) (fun _ _ _ h => h) (Or.inl ⟨by rfl, ?hy34⟩) (by assumption) ?rest34
          case hy34 =>
            intro w' hS
            go_simp
            try with_reducible rfl
          try simp only [Act.put, List.setIfInBounds_toArray, List.set_cons_zero, List.set_cons_succ]
          refine' wpAnyH_take (i := 5) (v := _) (op_at rfl) (by kernel_rfl) (by kernel_rfl) (by kernel_rfl) (fun _ _ _ h => h) (Or.inl ⟨by rfl, ?hy35⟩) (by assumption) ?rest35
          case hy35 =>
            intro w' hS
            go_simp
            try with_reducible rfl
          try simp only [Act.put, List.setIfInBounds_toArray, List.set_cons_zero, List.set_cons_succ]
          refine' wpAnyH_take (i := 6) (v := _) (op_at rfl) (by kernel_rfl) (by kernel_rfl) (by kernel_rfl) (fun _ _ _ h => h) (Or.inl ⟨by rfl, ?hy36⟩) (by assumption) ?rest36
          case hy36 =>
            intro w' hS
            go_simp
            try with_reducible rfl
          try simp only [Act.put, List.setIfInBounds_toArray, List.set_cons_zero, List.set_cons_succ]
          refine' wpAnyH_take (i := 7) (v := _) (op_at rfl) (by kernel_rfl) (by kernel_rfl) (by kernel_rfl) (fun _ _ _ h => h) (Or.inl ⟨by rfl, ?hy37⟩) (by assumption) ?rest37
          case hy37 =>
            intro w' hS
            go_simp
            try with_reducible rfl
          try simp only [Act.put, List.setIfInBounds_toArray, List.set_cons_zero, List.set_cons_succ]
          refine' wpAnyH_take (i := 8) (v := _) (op_at rfl) (by kernel_rfl) (by kernel_rfl) (by kernel_rfl) (fun _ _ _ h => h) (Or.inl ⟨by rfl, ?hy38⟩) (by assumption) ?rest38
          case hy38 =>
            intro w' hS
            have hr_ := show w'.heap[RX]? = _ from (((s13.quiet (Only.drew wr [])).quiet hS).sel 12 [11]).head
            have r6 : w'.cell? ⟨RX, 6, none⟩ = some (.slice none 0 0) := cell_in hr_ 6
            have r7 : w'.cell? ⟨RX, 7, none⟩ = some (.slice none 0 0) := cell_in hr_ 7
            go_simp
            try with_reducible rfl
          try simp only [Act.put, List.setIfInBounds_toArray, List.set_cons_zero, List.set_cons_succ]
          refine' wpAnyH_take (i := 9) (v := _) (op_at rfl) (by kernel_rfl) (by kernel_rfl) (by kernel_rfl) (fun _ _ _ h => h) (Or.inl ⟨by rfl, ?hy39⟩) (by assumption) ?rest39
          case hy39 =>
            intro w' hS
            go_simp
            try with_reducible rfl
          try simp only [Act.put, List.setIfInBounds_toArray, List.set_cons_zero, List.set_cons_succ]
          refine' wpAnyH_take (i := 10) (v := _) (op_at rfl) (by kernel_rfl) (by kernel_rfl) (by kernel_rfl) (fun _ _ _ h => h) (Or.inl ⟨by rfl, ?hy40⟩) (by assumption) ?rest40
          case hy40 =>
            intro w' hS
            have hw_ : IntKind.i64.wrap 0 = 0 := by rfl
            go_simp
            try with_reducible rfl
          try simp only [Act.put, List.setIfInBounds_toArray, List.set_cons_zero, List.set_cons_succ]
          refine' wpAnyH_take (i := 11) (v := _) (op_at rfl) (by kernel_rfl) (by kernel_rfl) (by kernel_rfl) (fun _ _ _ h => h) (Or.inl ⟨by rfl, ?hy41⟩) (by assumption) ?rest41
          case hy41 =>
            intro w' hS
            have hw_ : IntKind.i64.wrap 0 = 0 := by rfl
            go_simp
            try with_reducible rfl
          try simp only [Act.put, List.setIfInBounds_toArray, List.set_cons_zero, List.set_cons_succ]
          refine wpAnyH_done (by kernel_rfl) ?_ _
          have s14 := (s13.quiet (Only.drew wr [])).quiet hHeld
          have oF := oE.trans ((Only.drew wr []).trans hHeld)
          clear s13 oE hHeld
          generalize hwd : wr.drew = w14 at *
          clear hwd
          have hA14 : w14.heap[A]? = some (.cells #[.pointer (some ⟨SB, 0, none⟩)] 24 (0, 0)) := (s14.sel 3 [2]).head
          go_wp2_with fail
          refine (pcontains_any A (fun p => decide (rm p < 1)) _ all _ (own_src (show w14.ownsRow 0 27 2 (.slice aa all.length ca) all.length (fl wc all) from s14.head)) hall1 (clos_room A SB RB BM LM lv bm rm all w14 hA14 (s14.sel 9 [7, 8]) (fun p hp => by obtain ⟨X, h1, h2⟩ := Hrooms p hp; exact ⟨X, h1, fun w' o => h2 w' (oF.trans o)⟩))).mono ?_
          rw [hany]
          rintro e w15 ⟨rfl, o15⟩
          have s15 := s14.quiet o15
          clear hA14 s14
          have hRX := (s15.sel 12 [11, 4, 5, 6, 7, 8, 9, 10])
          have hR5 : w15.cell? ⟨RX, 5, none⟩ = some (.int .i64 0) := (cell_in (show w15.heap[RX]? = _ from hRX.head) 5)
          have hRf := free_in (show w15.heap[RX]? = some (.cells (rp0 k u d n tr).toArray 49 (0, 0)) from hRX.head) 5
          have hP := hRX.put 5 (.int .i64 3)
          clear s15 hRX
          go_wp2_with fail
          refine bodyPost_ret (v := .tuple #[]) (by simp [results, Try.results21, go_sem]) rfl ⟨rfl, (show Sep w0 _ _ from hP).sel 8 [1, 2, 3, 4, 5, 6, 7, 0]⟩
end Go.Proofs.Yticojdepepkdlaa
