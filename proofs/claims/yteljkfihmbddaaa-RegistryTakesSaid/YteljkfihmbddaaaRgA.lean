/- The waking of layer 17's laws (registry). Printed by gen_rga.py. -/
import Derived.Test.YteljkfihmbddaaaRg9
namespace Go.Proofs.Yteljkfihmbddaaa
open Go.RowKit Go.Pw
set_option linter.unusedVariables false

theorem rise_nil : Rise [] := fun u d i j hi hj => by simp at hj
theorem rise_one (r : Li) : Rise [r] := fun u d i j hi hj => by simp at hj; omega
theorem rise_two (r s : Li) (h : cmpW r.u r.d s.u s.d < 0) : Rise [r, s] := fun u d i j hi hj hlt => by
  simp at hj
  obtain rfl : j = 1 := by omega
  obtain rfl : i = 0 := by omega
  simp only [List.getElem_cons_zero, List.getElem_cons_succ] at *
  rw [cmpW_neg] at *
  omega
theorem regs_nil {w0 w : World} {rs : List Res} {B : Nat} (h : Sep w0 w (blk B [.slice none 0 0] 72 :: rs)) : Sep w0 w (regR B (.slice none 0 0) [] rs) :=
  (h.many_nil.rown 76 14).sel 3 [0, 2, 1]

set_option maxRecDepth 100000 in
set_option maxHeartbeats 1600000 in
theorem awake_any (w : World) : Calls Try.prog 7 #[] w fun e w' => e = .returned (.bool true) ∧ Only w w' [] := by
  obtain ⟨i0, hi, hz0, hz1, hz2⟩ := info_parts bun_info
  go_enter Try.func7, Try.ntmps7
  go_wp2_with fail
  refine (new_any w).mono ?_
  rintro e w1 ⟨rfl, rfl⟩
  have s1 := regs_nil ((Sep.nil w).box [.slice none 0 0] 72)
  obtain ⟨B, hB⟩ : ∃ B, B = w.heap.size := ⟨_, rfl⟩
  rw [← hB] at s1 ⊢
  clear hB
  generalize w.alloc (.cells [Value.slice none 0 0].toArray 72) = w1 at *
  go_wp2_with (first
    | (have hQ := hY1; refine wpList_alloc_new rfl 30 rfl (.agg #[.int .i64 0, .int .i64 0]) (fun _ => by kernel_rfl) ?_; intro X2 wX2 oX2 hX2l hX2; clear hQ)
    | (refine wpList_alloc_new rfl 30 rfl (.agg #[.int .i64 0, .int .i64 0]) (fun _ => by kernel_rfl) ?_; intro X1 wX1 oX1 hX1l hX1)
    | (refine wpList_store_blk rfl 30 _ _ rfl X1 [.int .i64 0, .int .i64 1] rfl rfl hX1 rfl (by kernel_rfl) (by simp [Value.oneCell']) ?_; intro wY1 oY1 hY1; have s2 := s1.add (b := blk X1 [.int .i64 0, .int .i64 1] 30) (oX1.new oY1 (fun i hi => by simp only [List.mem_singleton] at hi; omega)) hY1 (fun k hk => by simp [blk] at hk; omega); clear s1 hX1 oX1 oY1)
    | (refine wpList_store_blk rfl 30 _ _ rfl X2 [.int .i64 0, .int .i64 2] rfl rfl hX2 rfl (by kernel_rfl) (by simp [Value.oneCell']) ?_; intro wY2 oY2 hY2; have s3 := s2.add (b := blk X2 [.int .i64 0, .int .i64 2] 30) (oX2.new oY2 (fun i hi => by simp only [List.mem_singleton] at hi; omega)) hY2 (fun k hk => by simp [blk] at hk; omega); clear s2 hX2 oX2 oY2))
  have sA : Sep w wY2 (regR B (.slice none 0 0) [] (blk X1 [.int .i64 0, .int .i64 1] 30 :: blk X2 [.int .i64 0, .int .i64 2] 30 :: [])) := s3.sel 5 [2, 3, 4, 1, 0]
  clear s3 hY1 hY2
  have hX1 : wY2.drew.heap[X1]? = some (.cells #[.int .i64 0, .int .i64 1] 30 (0, 0)) := (sA.sel 4 [3]).head
  have hX2 : wY2.drew.heap[X2]? = some (.cells #[.int .i64 0, .int .i64 2] 30 (0, 0)) := (sA.sel 5 [4]).head
  have sD := sA.quiet (Only.drew wY2 [])
  clear sA
  refine wp_region_held_drew (S := fun w' => w'.heap[X1]? = some (.cells #[.int .i64 0, .int .i64 1] 30 (0, 0)) ∧ w'.heap[X2]? = some (.cells #[.int .i64 0, .int .i64 2] 30 (0, 0))) (by kernel_rfl) (⟨hX1, hX2⟩) (fun hHeld => ?_)
  refine' wpAnyH_take (i := 0) (v := _) (op_at rfl) (by kernel_rfl) (by kernel_rfl) (by kernel_rfl) (fun _ _ _ h => h) (Or.inl ⟨by rfl, ?hy1⟩) (by assumption) ?rest1
  case hy1 =>
    intro w' hS
    go_simp
    try with_reducible rfl
  try simp only [Act.put, List.setIfInBounds_toArray, List.set_cons_zero, List.set_cons_succ]
  refine' wpAnyH_take (i := 1) (v := _) (op_at rfl) (by kernel_rfl) (by kernel_rfl) (by kernel_rfl) (fun _ _ _ h => h) (Or.inl ⟨by rfl, ?hy2⟩) (by assumption) ?rest2
  case hy2 =>
    intro w' hS
    have q0 := cell_two0 hS.1
    have q1 := cell_two1 hS.1
    go_simp
    try with_reducible rfl
  try simp only [Act.put, List.setIfInBounds_toArray, List.set_cons_zero, List.set_cons_succ]
  refine' wpAnyH_take (i := 2) (v := _) (op_at rfl) (by kernel_rfl) (by kernel_rfl) (by kernel_rfl) (fun _ _ _ h => h) (Or.inl ⟨by rfl, ?hy3⟩) (by assumption) ?rest3
  case hy3 =>
    intro w' hS
    have q0 := cell_two0 hS.1
    have q1 := cell_two1 hS.1
    go_simp
    try with_reducible rfl
  try simp only [Act.put, List.setIfInBounds_toArray, List.set_cons_zero, List.set_cons_succ]
  refine wpAnyH_ready (rs := [3]) (by kernel_rfl) (by simp) (AllReadyH.cons (op_at rfl) (fun K hK => ?_) AllReadyH.nil)
  go_simp
  refine (bundle_no 0 1 1 (by decide) (by decide) _).mono fun e w3 hq => ?_
  obtain ⟨b1, rfl, o3, f1, f2, f3, f4, f5⟩ := hq
  go_wp2_with fail
  refine hK.out _ _ ⟨o3.at hHeld.1 (by simp), o3.at hHeld.2 (by simp)⟩ (fun hHeld => ?_)
  clear hK K
  try simp only [Act.put, List.setIfInBounds_toArray, List.set_cons_zero, List.set_cons_succ]
  have s3 := sD.quiet o3
  clear o3 sD
  refine wpAnyH_ready (rs := [4]) (by kernel_rfl) (by simp) (AllReadyH.cons (op_at rfl) (fun K hK => ?_) AllReadyH.nil)
  refine step_buildSlice_one (by rfl) 42 _ (by rfl) 40 i0 _ (bc b1) (by rfl) Try.underlying42 hi hz0 (by rw [hz1, bc_len]) (by rw [bc_len]; rfl) (by rw [bc_len]; decide) (by rw [bc_len]; decide) (fun Y4 w4 o4 hY4l hY4 => ?_)
  go_wp2_with fail
  refine hK.out _ _ ⟨o4.at hHeld.1 (by simp), o4.at hHeld.2 (by simp)⟩ (fun hHeld => ?_)
  clear hK K
  try simp only [Act.put, List.setIfInBounds_toArray, List.set_cons_zero, List.set_cons_succ]
  have s4 : Sep w w4 (regR B (.slice none 0 0) [] (row 40 10 (.slice (some ⟨Y4, 0, none⟩) 1 1) [b1].length (fl bc [b1]) :: blk X1 [.int .i64 0, .int .i64 1] 30 :: blk X2 [.int .i64 0, .int .i64 2] 30 :: [])) := (s3.add (b := row 40 10 (.slice (some ⟨Y4, 0, none⟩) 1 1) [b1].length (fl bc [b1])) o4 (blk_row (cs := fl bc [b1]) (by simpa [fl] using hY4) (by simp [fl, bc_len]) (by simp [maxLen])) (fun k hk => by simp [row, Value.ownBlock] at hk; omega)).sel 6 [1, 2, 3, 0, 4, 5]
  clear s3 o4 hY4
  refine wpAnyH_ready (rs := [5]) (by kernel_rfl) (by simp) (AllReadyH.cons (op_at rfl) (fun K hK => ?_) AllReadyH.nil)
  go_simp
  refine (add_ok B [] _ 0 1 _ [b1] _ s4 (by simp) (by simp) rise_nil rfl (by simp [f4]) (by simp [other, f1, f2]) rfl).mono fun e w5 hq => ?_
  obtain ⟨rfl, v5, x1, g1, g2, g3, g4, g5, s5⟩ := hq
  obtain ⟨xu, xd, xo, xb, xv, xs, xk⟩ := x1
  simp only at g1 g2 g3 g5
  obtain rfl := g1
  obtain rfl := g2
  obtain rfl := g3
  go_wp2_with fail
  refine hK.out _ _ ⟨(s5.sel 5 [4]).head, (s5.sel 6 [5]).head⟩ (fun hHeld => ?_)
  clear hK K
  try simp only [Act.put, List.setIfInBounds_toArray, List.set_cons_zero, List.set_cons_succ]
  have s6 : Sep w w5 (regR B v5 [⟨0, 1, true, xb, xv, xs, xk⟩] (blk X1 [.int .i64 0, .int .i64 1] 30 :: blk X2 [.int .i64 0, .int .i64 2] 30 :: [])) := s5.sel 6 [0, 1, 2, 4, 5]
  clear s4 s5 g4
  refine' wpAnyH_take (i := 6) (v := _) (op_at rfl) (by kernel_rfl) (by kernel_rfl) (by kernel_rfl) (fun _ _ _ h => h) (Or.inl ⟨by rfl, ?hy4⟩) (by assumption) ?rest4
  case hy4 =>
    intro w' hS
    go_simp
    try with_reducible rfl
  try simp only [Act.put, List.setIfInBounds_toArray, List.set_cons_zero, List.set_cons_succ]
  refine' wpAnyH_take (i := 7) (v := _) (op_at rfl) (by kernel_rfl) (by kernel_rfl) (by kernel_rfl) (fun _ _ _ h => h) (Or.inl ⟨by rfl, ?hy5⟩) (by assumption) ?rest5
  case hy5 =>
    intro w' hS
    go_simp
    try with_reducible rfl
  try simp only [Act.put, List.setIfInBounds_toArray, List.set_cons_zero, List.set_cons_succ]
  refine' wpAnyH_take (i := 8) (v := _) (op_at rfl) (by kernel_rfl) (by kernel_rfl) (by kernel_rfl) (fun _ _ _ h => h) (Or.inl ⟨by rfl, ?hy6⟩) (by assumption) ?rest6
  case hy6 =>
    intro w' hS
    go_simp
    try with_reducible rfl
  try simp only [Act.put, List.setIfInBounds_toArray, List.set_cons_zero, List.set_cons_succ]
  refine' wpAnyH_take (i := 9) (v := _) (op_at rfl) (by kernel_rfl) (by kernel_rfl) (by kernel_rfl) (fun _ _ _ h => h) (Or.inl ⟨by rfl, ?hy7⟩) (by assumption) ?rest7
  case hy7 =>
    intro w' hS
    have q0 := cell_two0 hS.2
    have q1 := cell_two1 hS.2
    go_simp
    try with_reducible rfl
  try simp only [Act.put, List.setIfInBounds_toArray, List.set_cons_zero, List.set_cons_succ]
  refine' wpAnyH_take (i := 10) (v := _) (op_at rfl) (by kernel_rfl) (by kernel_rfl) (by kernel_rfl) (fun _ _ _ h => h) (Or.inl ⟨by rfl, ?hy8⟩) (by assumption) ?rest8
  case hy8 =>
    intro w' hS
    have q0 := cell_two0 hS.2
    have q1 := cell_two1 hS.2
    go_simp
    try with_reducible rfl
  try simp only [Act.put, List.setIfInBounds_toArray, List.set_cons_zero, List.set_cons_succ]
  refine wpAnyH_ready (rs := [11]) (by kernel_rfl) (by simp) (AllReadyH.cons (op_at rfl) (fun K hK => ?_) AllReadyH.nil)
  go_simp
  refine (bundle_no 0 2 1 (by decide) (by decide) _).mono fun e w3 hq => ?_
  obtain ⟨b2, rfl, o3, k1, k2, k3, k4, k5⟩ := hq
  go_wp2_with fail
  refine hK.out _ _ ⟨o3.at hHeld.1 (by simp), o3.at hHeld.2 (by simp)⟩ (fun hHeld => ?_)
  clear hK K
  try simp only [Act.put, List.setIfInBounds_toArray, List.set_cons_zero, List.set_cons_succ]
  have s7 := s6.quiet o3
  clear o3 s6
  refine wpAnyH_ready (rs := [12]) (by kernel_rfl) (by simp) (AllReadyH.cons (op_at rfl) (fun K hK => ?_) AllReadyH.nil)
  refine step_buildSlice_got (by rfl) 42 _ (by rfl) 40 i0 _ (bc b2) (by rfl) Try.underlying42 hi hz0 (by rw [hz1, bc_len]) (by rw [bc_len]; rfl) (by rw [bc_len]; decide) (by rw [bc_len]; decide) (fun Y8 w8 o8 hY8l hY8 => ?_)
  go_wp2_with fail
  refine hK.out _ _ ⟨o8.at hHeld.1 (by simp), o8.at hHeld.2 (by simp)⟩ (fun hHeld => ?_)
  clear hK K
  try simp only [Act.put, List.setIfInBounds_toArray, List.set_cons_zero, List.set_cons_succ]
  have s8 : Sep w w8 (regR B v5 [⟨0, 1, true, xb, xv, xs, xk⟩] (row 40 10 (.slice (some ⟨Y8, 0, none⟩) 1 1) [b2].length (fl bc [b2]) :: blk X1 [.int .i64 0, .int .i64 1] 30 :: blk X2 [.int .i64 0, .int .i64 2] 30 :: [])) := (s7.add (b := row 40 10 (.slice (some ⟨Y8, 0, none⟩) 1 1) [b2].length (fl bc [b2])) o8 (blk_row (cs := fl bc [b2]) (by simpa [fl] using hY8) (by simp [fl, bc_len]) (by simp [maxLen])) (fun k hk => by simp [row, Value.ownBlock] at hk; omega)).sel 6 [1, 2, 3, 0, 4, 5]
  clear s7 o8 hY8
  refine wpAnyH_ready (rs := [13]) (by kernel_rfl) (by simp) (AllReadyH.cons (op_at rfl) (fun K hK => ?_) AllReadyH.nil)
  go_simp
  refine (add_ok B _ _ 0 2 _ [b2] _ s8 (by simp) (by simp) (rise_one _) rfl (by simp [k4]) (by simp [other, k1, k2]) rfl).mono fun e w9 hq => ?_
  obtain ⟨rfl, v9, x2, g1, g2, g3, g4, g6, s9⟩ := hq
  obtain ⟨yu, yd, yo, yb, yv, ys, yk⟩ := x2
  simp only at g1 g2 g3 g6
  obtain rfl := g1
  obtain rfl := g2
  obtain rfl := g3
  go_wp2_with fail
  refine hK.out _ _ ⟨(s9.sel 5 [4]).head, (s9.sel 6 [5]).head⟩ (fun hHeld => ?_)
  clear hK K
  try simp only [Act.put, List.setIfInBounds_toArray, List.set_cons_zero, List.set_cons_succ]
  have s10 : Sep w w9 (regR B v9 [⟨0, 1, true, xb, xv, xs, xk⟩, ⟨0, 2, true, yb, yv, ys, yk⟩] (blk X1 [.int .i64 0, .int .i64 1] 30 :: blk X2 [.int .i64 0, .int .i64 2] 30 :: [])) := s9.sel 6 [0, 1, 2, 4, 5]
  clear s8 s9 g4
  refine' wpAnyH_take (i := 14) (v := _) (op_at rfl) (by kernel_rfl) (by kernel_rfl) (by kernel_rfl) (fun _ _ _ h => h) (Or.inl ⟨by rfl, ?hy9⟩) (by assumption) ?rest9
  case hy9 =>
    intro w' hS
    go_simp
    try with_reducible rfl
  try simp only [Act.put, List.setIfInBounds_toArray, List.set_cons_zero, List.set_cons_succ]
  refine' wpAnyH_take (i := 15) (v := _) (op_at rfl) (by kernel_rfl) (by kernel_rfl) (by kernel_rfl) (fun _ _ _ h => h) (Or.inl ⟨by rfl, ?hy10⟩) (by assumption) ?rest10
  case hy10 =>
    intro w' hS
    go_simp
    try with_reducible rfl
  try simp only [Act.put, List.setIfInBounds_toArray, List.set_cons_zero, List.set_cons_succ]
  refine' wpAnyH_take (i := 16) (v := _) (op_at rfl) (by kernel_rfl) (by kernel_rfl) (by kernel_rfl) (fun _ _ _ h => h) (Or.inl ⟨by rfl, ?hy11⟩) (by assumption) ?rest11
  case hy11 =>
    intro w' hS
    go_simp
    try with_reducible rfl
  try simp only [Act.put, List.setIfInBounds_toArray, List.set_cons_zero, List.set_cons_succ]
  refine' wpAnyH_take (i := 17) (v := _) (op_at rfl) (by kernel_rfl) (by kernel_rfl) (by kernel_rfl) (fun _ _ _ h => h) (Or.inl ⟨by rfl, ?hy12⟩) (by assumption) ?rest12
  case hy12 =>
    intro w' hS
    go_simp
    try with_reducible rfl
  try simp only [Act.put, List.setIfInBounds_toArray, List.set_cons_zero, List.set_cons_succ]
  refine' wpAnyH_take (i := 18) (v := _) (op_at rfl) (by kernel_rfl) (by kernel_rfl) (by kernel_rfl) (fun _ _ _ h => h) (Or.inl ⟨by rfl, ?hy13⟩) (by assumption) ?rest13
  case hy13 =>
    intro w' hS
    have q0 := cell_two0 hS.1
    have q1 := cell_two1 hS.1
    go_simp
    try with_reducible rfl
  try simp only [Act.put, List.setIfInBounds_toArray, List.set_cons_zero, List.set_cons_succ]
  refine wpAnyH_ready (rs := [19]) (by kernel_rfl) (by simp) (AllReadyH.cons (op_at rfl) (fun K hK => ?_) AllReadyH.nil)
  go_simp
  refine (remove_ok B _ _ 0 1 _ s10 (by simp) (rise_two _ _ (by simp [cmpW, orL, cmpI])) rfl).mono fun e w11 hq => ?_
  obtain ⟨rfl, s11⟩ := hq
  go_wp2_with fail
  refine hK.out _ _ ⟨(s11.sel 4 [3]).head, (s11.sel 5 [4]).head⟩ (fun hHeld => ?_)
  clear hK K
  try simp only [Act.put, List.setIfInBounds_toArray, List.set_cons_zero, List.set_cons_succ]
  have s12 : Sep w w11 (regR B v9 [⟨0, 1, false, xb, .slice none 0 0, [], rfl⟩, ⟨0, 2, true, yb, yv, ys, yk⟩] (blk X1 [.int .i64 0, .int .i64 1] 30 :: blk X2 [.int .i64 0, .int .i64 2] 30 :: [])) := s11
  clear s10 s11
  refine' wpAnyH_take (i := 20) (v := _) (op_at rfl) (by kernel_rfl) (by kernel_rfl) (by kernel_rfl) (fun _ _ _ h => h) (Or.inl ⟨by rfl, ?hy14⟩) (by assumption) ?rest14
  case hy14 =>
    intro w' hS
    go_simp
    try with_reducible rfl
  try simp only [Act.put, List.setIfInBounds_toArray, List.set_cons_zero, List.set_cons_succ]
  refine' wpAnyH_take (i := 21) (v := _) (op_at rfl) (by kernel_rfl) (by kernel_rfl) (by kernel_rfl) (fun _ _ _ h => h) (Or.inl ⟨by rfl, ?hy15⟩) (by assumption) ?rest15
  case hy15 =>
    intro w' hS
    go_simp
    try with_reducible rfl
  try simp only [Act.put, List.setIfInBounds_toArray, List.set_cons_zero, List.set_cons_succ]
  refine wpAnyH_done (by kernel_rfl) ?_ _
  clear hX1 hX2
  obtain ⟨hX1, hX2⟩ := hHeld
  go_wp2_with fail
  refine (next_any B _ _ 0 _ s12 (by simp) (rise_two _ _ (by simp [cmpW, orL, cmpI]))).mono ?_
  rw [show nextD [(⟨0, 1, false, xb, .slice none 0 0, [], rfl⟩ : Li), ⟨0, 2, true, yb, yv, ys, yk⟩] 0 = ((0, 3), 0) from rfl]
  simp only [wv]
  rintro e w13 ⟨rfl, o13⟩
  have s13 := s12.quiet o13
  clear s12 o13 hX1 hX2
  have h1c : ([.int .i64 0, .int .i64 3] : List Value).toArray.all (·.oneCell') = true := by simp [Value.oneCell']
  go_wp2_with (first
    | (refine wpList_alloc_new rfl 30 rfl (.agg #[.int .i64 0, .int .i64 0]) (fun _ => by kernel_rfl) ?_; intro Z wZ oZ hZl hZ)
    | (refine wpList_store_blk rfl 30 _ _ rfl Z [.int .i64 0, .int .i64 3] rfl rfl hZ rfl (by kernel_rfl) h1c ?_; intro wU oU hU; have s14 := s13.quiet (oZ.new oU (fun i hi => by simp only [List.mem_singleton] at hi; omega)); have hu1 := cell_two1 hU; have hx2 := (show wU.heap[X2]? = _ from (s14.sel 5 [4]).head); have hb0 := cell_two0 hx2; have hb1 := cell_two1 hx2; clear s13 hZ oZ oU hU hx2))
  refine (is_any B _ _ 0 2 _ s14 (by simp) (rise_two _ _ (by simp [cmpW, orL, cmpI]))).mono ?_
  rw [show isL [(⟨0, 1, false, xb, .slice none 0 0, [], rfl⟩ : Li), ⟨0, 2, true, yb, yv, ys, yk⟩] 0 2 = true from rfl]
  rintro e w15 ⟨rfl, o15⟩
  have s15 := s14.quiet o15
  clear s14 o15 hu1 hb0 hb1
  have hx1 : w15.heap[X1]? = some (.cells #[.int .i64 0, .int .i64 1] 30 (0, 0)) := (s15.sel 4 [3]).head
  have ha0 := cell_two0 hx1
  have ha1 := cell_two1 hx1
  go_wp2_with fail
  refine (is_any B _ _ 0 1 _ s15 (by simp) (rise_two _ _ (by simp [cmpW, orL, cmpI]))).mono ?_
  rw [show isL [(⟨0, 1, false, xb, .slice none 0 0, [], rfl⟩ : Li), ⟨0, 2, true, yb, yv, ys, yk⟩] 0 1 = false from rfl]
  rintro e w16 ⟨rfl, o16⟩
  have oF := s15.only.trans o16
  clear s15 o16 ha0 ha1 hx1
  go_wp2_with fail
  go_ret
  exact ⟨rfl, oF⟩
end Go.Proofs.Yteljkfihmbddaaa
