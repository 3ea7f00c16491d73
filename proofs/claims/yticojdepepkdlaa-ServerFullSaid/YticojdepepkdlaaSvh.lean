/- awake of law 19. Printed by gen_svh.py. -/
import Derived.Test.YticojdepepkdlaaSvp
import Derived.Test.YticojdepepkdlaaSvg
set_option linter.unusedSimpArgs false
set_option linter.unusedVariables false
namespace Go.Proofs.Yticojdepepkdlaa
open Go.RowKit Go.Pw
set_option linter.unusedVariables false

set_option maxRecDepth 100000 in
set_option maxHeartbeats 2000000 in
theorem awake_any (w : World) : Calls Try.prog 5 #[] w fun e w' => e = .returned (.bool true) ∧ Only w w' [] := by
  have h1c : ([.int .i64 0, .int .i64 1] : List Value).toArray.all (·.oneCell') = true := by simp [Value.oneCell']
  have h2c : ([.int .i64 1, .int .i64 1] : List Value).toArray.all (·.oneCell') = true := by simp [Value.oneCell']
  go_enter Try.func5, Try.ntmps5
  go_wp2_with fail
  refine (snew_any w).mono ?_
  rintro e w1 ⟨SB, RB, BM, LM, rfl, s1⟩
  go_upto_region 3 with (first
    | (refine wpList_alloc_new (op := ⟨some 2, .alloc 27, _, _, _, _⟩) rfl 27 rfl (.agg #[.int .i64 0, .int .i64 0]) (fun _ => by kernel_rfl) ?_; intro X wX oX hXl hX)
    | (refine wpList_store_blk (op := ⟨none, .store 27 _ _, _, _, _, _⟩) rfl 27 _ _ rfl X [.int .i64 0, .int .i64 1] rfl rfl hX rfl (by kernel_rfl) h1c ?_; intro w2 o2 hX2; have oX2 := oX.new o2 (fun i hi => by simp only [List.mem_singleton] at hi; omega)))
  have s2 := s1.add (b := blk X [.int .i64 0, .int .i64 1] 27) oX2 hX2 (fun k hk => by simp [blk] at hk; omega)
  clear s1 oX hXl hX o2 oX2 hX2
  go_upto_region 4 with (first
    | (refine wpList_alloc_new (op := ⟨some 3, .alloc 27, _, _, _, _⟩) rfl 27 rfl (.agg #[.int .i64 0, .int .i64 0]) (fun _ => by kernel_rfl) ?_; intro Y wY oY hYl hY)
    | (refine wpList_store_blk (op := ⟨none, .store 27 _ _, _, _, _, _⟩) rfl 27 _ _ rfl Y [.int .i64 1, .int .i64 1] rfl rfl hY rfl (by kernel_rfl) h2c ?_; intro w3 o3 hY3; have oY3 := oY.new o3 (fun i hi => by simp only [List.mem_singleton] at hi; omega)))
  have s3 : Sep w w3 (blk Y [.int .i64 1, .int .i64 1] 27 :: blk X [.int .i64 0, .int .i64 1] 27 :: srvR SB RB BM LM (.slice none 0 0) [] [] [] (.slice none 0 0) [] []) := s2.add (b := blk Y [.int .i64 1, .int .i64 1] 27) oY3 hY3 (fun k hk => by simp [blk] at hk; omega)
  clear s2 oY hYl hY o3 oY3 hY3
  have sD := s3.quiet (Only.drew w3 [])
  clear s3
  refine wp_region_held_drew (S := fun w' => (blk X [.int .i64 0, .int .i64 1] 27).ok w' ∧ (blk Y [.int .i64 1, .int .i64 1] 27).ok w') (by kernel_rfl) ⟨(sD.sel 2 [1]).head, sD.head⟩ (fun hHeld => ?_)
  refine' wpAnyH_take (i := 0) (v := _) (op_at rfl) (by kernel_rfl) (by kernel_rfl) (by kernel_rfl) (fun _ _ _ h => h) (Or.inl ⟨by rfl, ?hy1⟩) (by assumption) ?rest1
  case hy1 =>
    intro w' hS
    go_simp
    try with_reducible rfl
  try simp only [Act.put, List.setIfInBounds_toArray, List.set_cons_zero, List.set_cons_succ]
  refine' wpAnyH_take (i := 1) (v := _) (op_at rfl) (by kernel_rfl) (by kernel_rfl) (by kernel_rfl) (fun _ _ _ h => h) (Or.inl ⟨by rfl, ?hy2⟩) (by assumption) ?rest2
  case hy2 =>
    intro w' hS
    have hx_ := show w'.heap[X]? = _ from hS.1
    have hx0 := cell_two0 hx_
    have hx1 := cell_two1 hx_
    go_simp
    try with_reducible rfl
  try simp only [Act.put, List.setIfInBounds_toArray, List.set_cons_zero, List.set_cons_succ]
  refine' wpAnyH_take (i := 2) (v := _) (op_at rfl) (by kernel_rfl) (by kernel_rfl) (by kernel_rfl) (fun _ _ _ h => h) (Or.inl ⟨by rfl, ?hy3⟩) (by assumption) ?rest3
  case hy3 =>
    intro w' hS
    have hx_ := show w'.heap[X]? = _ from hS.1
    have hx0 := cell_two0 hx_
    have hx1 := cell_two1 hx_
    go_simp
    try with_reducible rfl
  try simp only [Act.put, List.setIfInBounds_toArray, List.set_cons_zero, List.set_cons_succ]
  refine wpAnyH_ready (rs := [3]) (by kernel_rfl) (by simp) (AllReadyH.cons (op_at rfl) (fun K hK => ?_) AllReadyH.nil)
  go_simp
  refine (bundles_any 0 1 _).mono fun e w4 hq => ?_
  obtain ⟨b1, a1, c1, rfl, hl1, hb1, s4⟩ := hq
  have sA := sD.plus s4
  go_wp2_with fail
  refine hK.out _ _ ⟨(sA.sel 3 [2]).head, (sA.sel 2 [1]).head⟩ (fun hHeld => ?_)
  clear hK K
  try simp only [Act.put, List.setIfInBounds_toArray, List.set_cons_zero, List.set_cons_succ]
  refine wpAnyH_ready (rs := [4]) (by kernel_rfl) (by simp) (AllReadyH.cons (op_at rfl) (fun K hK => ?_) AllReadyH.nil)
  go_simp
  refine (link_new SB RB BM LM _ [] [] [] _ [] 0 1 _ b1 _ (sA.sel 10 [3, 4, 5, 6, 7, 8, 9, 0, 1, 2]) hb1 hl1 (by simp) rise_nil (by rfl) (by rfl) _ (fresh0 0 1)).mono fun e w5 hq => ?_
  obtain ⟨rfl, v1, x1, B1, hx1, s5⟩ := hq
  go_wp2_with fail
  refine hK.out _ _ ⟨(s5.sel 10 [9]).head, (s5.sel 9 [8]).head⟩ (fun hHeld => ?_)
  clear hK K
  try simp only [Act.put, List.setIfInBounds_toArray, List.set_cons_zero, List.set_cons_succ]
  refine' wpAnyH_take (i := 5) (v := _) (op_at rfl) (by kernel_rfl) (by kernel_rfl) (by kernel_rfl) (fun _ _ _ h => h) (Or.inl ⟨by rfl, ?hy4⟩) (by assumption) ?rest4
  case hy4 =>
    intro w' hS
    go_simp
    try with_reducible rfl
  try simp only [Act.put, List.setIfInBounds_toArray, List.set_cons_zero, List.set_cons_succ]
  refine' wpAnyH_take (i := 6) (v := _) (op_at rfl) (by kernel_rfl) (by kernel_rfl) (by kernel_rfl) (fun _ _ _ h => h) (Or.inl ⟨by rfl, ?hy5⟩) (by assumption) ?rest5
  case hy5 =>
    intro w' hS
    go_simp
    try with_reducible rfl
  try simp only [Act.put, List.setIfInBounds_toArray, List.set_cons_zero, List.set_cons_succ]
  refine' wpAnyH_take (i := 7) (v := _) (op_at rfl) (by kernel_rfl) (by kernel_rfl) (by kernel_rfl) (fun _ _ _ h => h) (Or.inl ⟨by rfl, ?hy6⟩) (by assumption) ?rest6
  case hy6 =>
    intro w' hS
    go_simp
    try with_reducible rfl
  try simp only [Act.put, List.setIfInBounds_toArray, List.set_cons_zero, List.set_cons_succ]
  refine' wpAnyH_take (i := 8) (v := _) (op_at rfl) (by kernel_rfl) (by kernel_rfl) (by kernel_rfl) (fun _ _ _ h => h) (Or.inl ⟨by rfl, ?hy7⟩) (by assumption) ?rest7
  case hy7 =>
    intro w' hS
    have hy_ := show w'.heap[Y]? = _ from hS.2
    have hy0 := cell_two0 hy_
    have hy1 := cell_two1 hy_
    go_simp
    try with_reducible rfl
  try simp only [Act.put, List.setIfInBounds_toArray, List.set_cons_zero, List.set_cons_succ]
  refine' wpAnyH_take (i := 9) (v := _) (op_at rfl) (by kernel_rfl) (by kernel_rfl) (by kernel_rfl) (fun _ _ _ h => h) (Or.inl ⟨by rfl, ?hy8⟩) (by assumption) ?rest8
  case hy8 =>
    intro w' hS
    have hy_ := show w'.heap[Y]? = _ from hS.2
    have hy0 := cell_two0 hy_
    have hy1 := cell_two1 hy_
    go_simp
    try with_reducible rfl
  try simp only [Act.put, List.setIfInBounds_toArray, List.set_cons_zero, List.set_cons_succ]
  refine wpAnyH_ready (rs := [10]) (by kernel_rfl) (by simp) (AllReadyH.cons (op_at rfl) (fun K hK => ?_) AllReadyH.nil)
  go_simp
  refine (bundles_any 1 1 _).mono fun e w6 hq => ?_
  obtain ⟨b2, a2, c2, rfl, hl2, hb2, s6⟩ := hq
  have sB := s5.plus s6
  go_wp2_with fail
  refine hK.out _ _ ⟨(sB.sel 11 [10]).head, (sB.sel 10 [9]).head⟩ (fun hHeld => ?_)
  clear hK K
  try simp only [Act.put, List.setIfInBounds_toArray, List.set_cons_zero, List.set_cons_succ]
  refine wpAnyH_ready (rs := [11]) (by kernel_rfl) (by simp) (AllReadyH.cons (op_at rfl) (fun K hK => ?_) AllReadyH.nil)
  go_simp
  refine (link_new SB RB BM LM _ [x1] _ [] _ [] 1 1 _ b2 _ (sB.sel 11 [1, 2, 3, 4, 5, 6, 7, 0, 8, 9, 10]) hb2 hl2 (by simp) (rise_one x1) (ld_next hx1) (ld_found hx1) _ (ld_ins hx1)).mono fun e w7 hq => ?_
  obtain ⟨rfl, v2, x2, B2, hx2, s7⟩ := hq
  go_wp2_with fail
  refine hK.out _ _ ⟨(s7.sel 11 [10]).head, (s7.sel 10 [9]).head⟩ (fun hHeld => ?_)
  clear hK K
  try simp only [Act.put, List.setIfInBounds_toArray, List.set_cons_zero, List.set_cons_succ]
  refine' wpAnyH_take (i := 12) (v := _) (op_at rfl) (by kernel_rfl) (by kernel_rfl) (by kernel_rfl) (fun _ _ _ h => h) (Or.inl ⟨by rfl, ?hy9⟩) (by assumption) ?rest9
  case hy9 =>
    intro w' hS
    go_simp
    try with_reducible rfl
  try simp only [Act.put, List.setIfInBounds_toArray, List.set_cons_zero, List.set_cons_succ]
  refine' wpAnyH_take (i := 13) (v := _) (op_at rfl) (by kernel_rfl) (by kernel_rfl) (by kernel_rfl) (fun _ _ _ h => h) (Or.inl ⟨by rfl, ?hy10⟩) (by assumption) ?rest10
  case hy10 =>
    intro w' hS
    go_simp
    try with_reducible rfl
  try simp only [Act.put, List.setIfInBounds_toArray, List.set_cons_zero, List.set_cons_succ]
  refine wpAnyH_done (by kernel_rfl) ?_ _
  clear sD s4 sA s5 s6 sB hHeld hb1 hl1 hb2 hl2
  obtain ⟨t1, t2, t3, t4, t5⟩ := two_facts hx1 hx2
  have hrt := rise_two hx1 hx2
  obtain ⟨y1, y2, y3, q1, q2, hos, hq1, hq2⟩ := hx2
  have Hh := fun (w' : World) (o : Only w7 w' []) => handle_list SB RB BM LM v2 [x1, x2] _ [] _ [] 0 1 1 1 1 (.slice none 0 0) 0 (.slice none 0 0) w' (s7.quiet o) (by simp) hrt t1 rfl (by decide) ⟨by decide, by decide⟩ ⟨by decide, by decide⟩ 1 1 t2 t3 1 x2 t4 t5 (by simp) rfl y3 q1 [q2] hos (by simp) hq1 hq2 rfl
  have hX7 : w7.heap[X]? = some (.cells #[.int .i64 0, .int .i64 1] 27 (0, 0)) := (s7.sel 11 [10]).head
  have hx0 := cell_two0 hX7
  have hx1' := cell_two1 hX7
  clear s7 hx1 t1 t2 t3 t4 t5 hrt hos hq1 hq2 y1 y2 y3 hX7
  go_wp2_with fail
  refine (Hh _ (Only.refl _ _)).mono ?_
  rintro e w8 ⟨g, c, b, rfl, hbu, hbd, s8⟩
  clear Hh hx0 hx1'
  have hre : ([.int .u8 1, .int .i64 0, .int .i64 1, .int .u32 1, .int .u32 1, .int .i64 12, .slice (some ⟨g, 0, none⟩) 1 c, .slice none 0 0, .slice none 0 0] : List Value).toArray.all (·.oneCell') = true := by simp [Value.oneCell']
  go_upto_region 7 with (first
    | (refine wpList_alloc_new (op := ⟨some 4, .alloc 49, _, _, _, _⟩) rfl 49 rfl (.agg #[.int .u8 0, .int .i64 0, .int .i64 0, .int .u32 0, .int .u32 0, .int .i64 0, .slice none 0 0, .slice none 0 0, .slice none 0 0]) (fun _ => by kernel_rfl) ?_; intro R wR oR hRl hR)
    | (refine wpList_store_blk (op := ⟨none, .store 49 _ _, _, _, _, _⟩) rfl 49 _ _ rfl R [.int .u8 1, .int .i64 0, .int .i64 1, .int .u32 1, .int .u32 1, .int .i64 12, .slice (some ⟨g, 0, none⟩) 1 c, .slice none 0 0, .slice none 0 0] rfl rfl hR rfl (by kernel_rfl) hre ?_; intro w9 o9 hR9; have oR9 := oR.new o9 (fun i hi => by simp only [List.mem_singleton] at hi; omega)))
  have s9 := (s8.add (b := blk R [.int .u8 1, .int .i64 0, .int .i64 1, .int .u32 1, .int .u32 1, .int .i64 12, .slice (some ⟨g, 0, none⟩) 1 c, .slice none 0 0, .slice none 0 0] 49) oR9 hR9 (fun k hk => by simp [blk] at hk; omega)).quiet (Only.drew w9 [])
  have oW := s9.only
  clear s8 oR hRl hR o9 oR9 hR9 hre
  refine wp_region_held_drew (S := fun w' => Only w9.drew w' []) (by kernel_rfl) (Only.refl _ _) (fun hHeld => ?_)
  refine' wpAnyH_take (i := 0) (v := _) (op_at rfl) (by kernel_rfl) (by kernel_rfl) (by kernel_rfl) (fun _ _ _ h => h) (Or.inl ⟨by rfl, ?hy11⟩) (by assumption) ?rest11
  case hy11 =>
    intro w' hS
    go_simp
    try with_reducible rfl
  try simp only [Act.put, List.setIfInBounds_toArray, List.set_cons_zero, List.set_cons_succ]
  refine' wpAnyH_take (i := 1) (v := _) (op_at rfl) (by kernel_rfl) (by kernel_rfl) (by kernel_rfl) (fun _ _ _ h => h) (Or.inl ⟨by rfl, ?hy12⟩) (by assumption) ?rest12
  case hy12 =>
    intro w' hS
    have hr_ := show w'.heap[R]? = some (.cells ([.int .u8 1, .int .i64 0, .int .i64 1, .int .u32 1, .int .u32 1, .int .i64 12, .slice (some ⟨g, 0, none⟩) 1 c, .slice none 0 0, .slice none 0 0] : List Value).toArray 49 (0, 0)) from (s9.quiet hS).head
    have r5_ := cell_in hr_ 5
    go_simp
    try with_reducible rfl
  try simp only [Act.put, List.setIfInBounds_toArray, List.set_cons_zero, List.set_cons_succ]
  refine' wpAnyH_take (i := 2) (v := _) (op_at rfl) (by kernel_rfl) (by kernel_rfl) (by kernel_rfl) (fun _ _ _ h => h) (Or.inl ⟨by rfl, ?hy13⟩) (by assumption) ?rest13
  case hy13 =>
    intro w' hS
    go_simp
    try with_reducible rfl
  try simp only [Act.put, List.setIfInBounds_toArray, List.set_cons_zero, List.set_cons_succ]
  refine' wpAnyH_take (i := 3) (v := _) (op_at rfl) (by kernel_rfl) (by kernel_rfl) (by kernel_rfl) (fun _ _ _ h => h) (Or.inl ⟨by rfl, ?hy14⟩) (by assumption) ?rest14
  case hy14 =>
    intro w' hS
    go_simp
    try with_reducible rfl
  try simp only [Act.put, List.setIfInBounds_toArray, List.set_cons_zero, List.set_cons_succ]
  refine' wpAnyH_take (i := 4) (v := _) (op_at rfl) (by kernel_rfl) (by kernel_rfl) (by kernel_rfl) (fun _ _ _ h => h) (Or.inl ⟨by rfl, ?hy15⟩) (by assumption) ?rest15
  case hy15 =>
    intro w' hS
    go_simp
    try with_reducible rfl
  try simp only [Act.put, List.setIfInBounds_toArray, List.set_cons_zero, List.set_cons_succ]
  refine' wpAnyH_take (i := 5) (v := _) (op_at rfl) (by kernel_rfl) (by kernel_rfl) (by kernel_rfl) (fun _ _ _ h => h) (Or.inl ⟨by rfl, ?hy16⟩) (by assumption) ?rest16
  case hy16 =>
    intro w' hS
    have hr_ := show w'.heap[R]? = some (.cells ([.int .u8 1, .int .i64 0, .int .i64 1, .int .u32 1, .int .u32 1, .int .i64 12, .slice (some ⟨g, 0, none⟩) 1 c, .slice none 0 0, .slice none 0 0] : List Value).toArray 49 (0, 0)) from (s9.quiet hS).head
    have r6_ := cell_in hr_ 6
    go_simp
    try with_reducible rfl
  try simp only [Act.put, List.setIfInBounds_toArray, List.set_cons_zero, List.set_cons_succ]
  refine' wpAnyH_take (i := 6) (v := _) (op_at rfl) (by kernel_rfl) (by kernel_rfl) (by kernel_rfl) (fun _ _ _ h => h) (Or.inl ⟨by rfl, ?hy17⟩) (by assumption) ?rest17
  case hy17 =>
    intro w' hS
    go_simp
    try with_reducible rfl
  try simp only [Act.put, List.setIfInBounds_toArray, List.set_cons_zero, List.set_cons_succ]
  refine' wpAnyH_take (i := 7) (v := _) (op_at rfl) (by kernel_rfl) (by kernel_rfl) (by kernel_rfl) (fun _ _ _ h => h) (Or.inl ⟨by rfl, ?hy18⟩) (by assumption) ?rest18
  case hy18 =>
    intro w' hS
    go_simp
    try with_reducible rfl
  try simp only [Act.put, List.setIfInBounds_toArray, List.set_cons_zero, List.set_cons_succ]
  refine' wpAnyH_take (i := 8) (v := _) (op_at rfl) (by kernel_rfl) (by kernel_rfl) (by kernel_rfl) (fun _ _ _ h => h) (Or.inl ⟨by rfl, ?hy19⟩) (by assumption) ?rest19
  case hy19 =>
    intro w' hS
    go_simp
    try with_reducible rfl
  try simp only [Act.put, List.setIfInBounds_toArray, List.set_cons_zero, List.set_cons_succ]
  refine' wpAnyH_take (i := 9) (v := _) (op_at rfl) (by kernel_rfl) (by kernel_rfl) (by kernel_rfl) (fun _ _ _ h => h) (Or.inl ⟨by rfl, ?hy20⟩) (by assumption) ?rest20
  case hy20 =>
    intro w' hS
    go_simp
    try with_reducible rfl
  try simp only [Act.put, List.setIfInBounds_toArray, List.set_cons_zero, List.set_cons_succ]
  refine' wpAnyH_take (i := 10) (v := _) (op_at rfl) (by kernel_rfl) (by kernel_rfl) (by kernel_rfl) (fun _ _ _ h => h) (Or.inl ⟨by rfl, ?hy21⟩) (by assumption) ?rest21
  case hy21 =>
    intro w' hS
    go_simp
    try with_reducible rfl
  try simp only [Act.put, List.setIfInBounds_toArray, List.set_cons_zero, List.set_cons_succ]
  refine' wpAnyH_take (i := 11) (v := _) (op_at rfl) (by kernel_rfl) (by kernel_rfl) (by kernel_rfl) (fun _ _ _ h => h) (Or.inl ⟨by rfl, ?hy22⟩) (by assumption) ?rest22
  case hy22 =>
    intro w' hS
    have hr_ := show w'.heap[R]? = some (.cells ([.int .u8 1, .int .i64 0, .int .i64 1, .int .u32 1, .int .u32 1, .int .i64 12, .slice (some ⟨g, 0, none⟩) 1 c, .slice none 0 0, .slice none 0 0] : List Value).toArray 49 (0, 0)) from (s9.quiet hS).head
    have r6_ := cell_in hr_ 6
    go_simp
    try with_reducible rfl
  try simp only [Act.put, List.setIfInBounds_toArray, List.set_cons_zero, List.set_cons_succ]
  refine' wpAnyH_take (i := 12) (v := _) (op_at rfl) (by kernel_rfl) (by kernel_rfl) (by kernel_rfl) (fun _ _ _ h => h) (Or.inl ⟨by rfl, ?hy23⟩) (by assumption) ?rest23
  case hy23 =>
    intro w' hS
    go_simp
    try with_reducible rfl
  try simp only [Act.put, List.setIfInBounds_toArray, List.set_cons_zero, List.set_cons_succ]
  refine' wpAnyH_take (i := 13) (v := _) (op_at rfl) (by kernel_rfl) (by kernel_rfl) (by kernel_rfl) (fun _ _ _ h => h) (Or.inl ⟨by rfl, ?hy24⟩) (by assumption) ?rest24
  case hy24 =>
    intro w' hS
    go_simp
    try with_reducible rfl
  try simp only [Act.put, List.setIfInBounds_toArray, List.set_cons_zero, List.set_cons_succ]
  refine' wpAnyH_take (i := 14) (v := _) (op_at rfl) (by kernel_rfl) (by kernel_rfl) (by kernel_rfl) (fun _ _ _ h => h) (Or.inl ⟨by rfl, ?hy25⟩) (by assumption) ?rest25
  case hy25 =>
    intro w' hS
    have hg_ := show w'.ownsRow 0 63 10 (.slice (some ⟨g, 0, none⟩) ([b] : List Bu).length c) ([b] : List Bu).length (fl bc [b]) from ((s9.quiet hS).sel 2 [1]).head
    have b0_ := rec_cell bc_len hg_ (m := 0) (by simp) 0 (v := .int .i64 1) (by simp [bc, hbu])
    have b1_ := rec_cell bc_len hg_ (m := 0) (by simp) 1 (v := .int .i64 1) (by simp [bc, hbd])
    simp only [Nat.zero_mul, Nat.zero_add] at b0_ b1_
    go_simp
    try with_reducible rfl
  try simp only [Act.put, List.setIfInBounds_toArray, List.set_cons_zero, List.set_cons_succ]
  refine' wpAnyH_take (i := 15) (v := _) (op_at rfl) (by kernel_rfl) (by kernel_rfl) (by kernel_rfl) (fun _ _ _ h => h) (Or.inl ⟨by rfl, ?hy26⟩) (by assumption) ?rest26
  case hy26 =>
    intro w' hS
    have hy_ := show w'.heap[Y]? = _ from ((s9.quiet hS).sel 5 [4]).head
    have hy0 := cell_two0 hy_
    have hy1 := cell_two1 hy_
    go_simp
    try with_reducible rfl
  try simp only [Act.put, List.setIfInBounds_toArray, List.set_cons_zero, List.set_cons_succ]
  refine' wpAnyH_take (i := 16) (v := _) (op_at rfl) (by kernel_rfl) (by kernel_rfl) (by kernel_rfl) (fun _ _ _ h => h) (Or.inl ⟨by rfl, ?hy27⟩) (by assumption) ?rest27
  case hy27 =>
    intro w' hS
    go_simp
    try with_reducible rfl
  try simp only [Act.put, List.setIfInBounds_toArray, List.set_cons_zero, List.set_cons_succ]
  refine' wpAnyH_take (i := 17) (v := _) (op_at rfl) (by kernel_rfl) (by kernel_rfl) (by kernel_rfl) (fun _ _ _ h => h) (Or.inl ⟨by rfl, ?hy28⟩) (by assumption) ?rest28
  case hy28 =>
    intro w' hS
    go_simp
    try with_reducible rfl
  try simp only [Act.put, List.setIfInBounds_toArray, List.set_cons_zero, List.set_cons_succ]
  refine' wpAnyH_take (i := 18) (v := _) (op_at rfl) (by kernel_rfl) (by kernel_rfl) (by kernel_rfl) (fun _ _ _ h => h) (Or.inl ⟨by rfl, ?hy29⟩) (by assumption) ?rest29
  case hy29 =>
    intro w' hS
    go_simp
    try with_reducible rfl
  try simp only [Act.put, List.setIfInBounds_toArray, List.set_cons_zero, List.set_cons_succ]
  refine' wpAnyH_take (i := 19) (v := _) (op_at rfl) (by kernel_rfl) (by kernel_rfl) (by kernel_rfl) (fun _ _ _ h => h) (Or.inl ⟨by rfl, ?hy30⟩) (by assumption) ?rest30
  case hy30 =>
    intro w' hS
    go_simp
    try with_reducible rfl
  try simp only [Act.put, List.setIfInBounds_toArray, List.set_cons_zero, List.set_cons_succ]
  refine' wpAnyH_take (i := 20) (v := _) (op_at rfl) (by kernel_rfl) (by kernel_rfl) (by kernel_rfl) (fun _ _ _ h => h) (Or.inl ⟨by rfl, ?hy31⟩) (by assumption) ?rest31
  case hy31 =>
    intro w' hS
    go_simp
    try with_reducible rfl
  try simp only [Act.put, List.setIfInBounds_toArray, List.set_cons_zero, List.set_cons_succ]
  refine wpAnyH_done (by kernel_rfl) ?_ _
  go_wp2_with fail
  refine bodyPost_ret (v := .bool true) (by simp [results, Try.results5, go_sem]) rfl ⟨rfl, oW.trans hHeld⟩
end Go.Proofs.Yticojdepepkdlaa
