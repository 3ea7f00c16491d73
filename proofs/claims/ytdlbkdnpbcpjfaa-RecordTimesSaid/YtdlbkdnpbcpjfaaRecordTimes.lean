/- RecordTimes returns true for every four floats: what is stale is known for so long, and no longer. No condition. -/
import Derived.Test.YtdlbkdnpbcpjfaaRecI
import Derived.Test.YtdlbkdnpbcpjfaaOpenS
import Derived.Test.YtdlbkdnpbcpjfaaSRecordTimes
namespace Go.Proofs.Ytdlbkdnpbcpjfaa
open Go.RowKit Go.Pw Go.Pw.Fl
set_option linter.unusedVariables false

theorem drop_keep {w0 : World} {rs : List Res} (B : Nat) (l : List Re) (v : Value) (now long : Nat) (w : World) (h : Sep w0 w (row 36 7 v l.length (fl rc l) :: blk B [v] 68 :: rs)) (hl : l.length ≤ 1000000) (hk : rkp now long l = l) :
    Calls Try.prog 10 #[.pointer (some ⟨B, 0, none⟩), .float .f64 now, .float .f64 long] w fun e w' => e = .returned (.int .i64 0) ∧ ∃ v', Sep w0 w' (row 36 7 v' l.length (fl rc l) :: blk B [v'] 68 :: rs) := by
  refine (drop_any B l v now long w h hl).mono ?_
  unfold Dropped
  rw [hk]
  rintro e w' ⟨rfl, hq⟩
  exact ⟨by simp, hq⟩
theorem drop_one {w0 : World} {rs : List Res} (B : Nat) (r : Re) (v : Value) (now long : Nat) (w : World) (h : Sep w0 w (row 36 7 v [r].length (fl rc [r]) :: blk B [v] 68 :: rs)) (hk : rkp now long [r] = []) :
    Calls Try.prog 10 #[.pointer (some ⟨B, 0, none⟩), .float .f64 now, .float .f64 long] w fun e w' => e = .returned (.int .i64 1) ∧ ∃ v', Sep w0 w' (row 36 7 v' ([] : List Re).length (fl rc []) :: blk B [v'] 68 :: rs) := by
  refine (drop_any B [r] v now long w h (by simp)).mono ?_
  unfold Dropped
  rw [hk]
  rintro e w' ⟨rfl, hq⟩
  exact ⟨by simp, hq⟩

theorem f64_wfT {b : Nat} (h : (Lit.float .f64 b).wf = true) : b < 18446744073709551616 := by simpa [Lit.wf] using h

set_option maxRecDepth 100000 in
set_option maxHeartbeats 3200000 in
theorem times_walk (since now long again : Nat) (hs : since < 18446744073709551616) (w : World) :
    Calls Try.prog 3 #[.float .f64 since, .float .f64 now, .float .f64 long, .float .f64 again] w fun e w' => e = .returned (.bool true) ∧ Below w.heap.size w w' := by
  go_enter Try.func3, Try.ntmps3
  go_wp2_with fail
  refine (new_any w).mono ?_
  rintro e w1 ⟨rfl, rfl⟩
  have s1 : Sep w _ (row 36 7 (.slice none 0 0) ([] : List Re).length (fl rc []) :: blk w.heap.size [.slice none 0 0] 68 :: []) := ((Sep.nil w).box [.slice none 0 0] 68).rown _ _
  obtain ⟨B, hB⟩ : ∃ B, B = w.heap.size := ⟨_, rfl⟩
  rw [← hB] at s1 ⊢
  clear hB
  generalize w.alloc (.cells [Value.slice none 0 0].toArray 68) = w1 at *
  have h1c : ([.int .i64 2, .int .i64 3] : List Value).toArray.all (·.oneCell') = true := by simp [Value.oneCell']
  go_wp2_with (first
    | (refine wpList_alloc_new rfl 26 rfl (.agg #[.int .i64 0, .int .i64 0]) (fun _ => by kernel_rfl) ?_; intro X wX oX hXl hX)
    | (refine wpList_store_blk rfl 26 _ _ rfl X [.int .i64 2, .int .i64 3] rfl rfl hX rfl (by kernel_rfl) h1c ?_; intro wY oY hY; have s2 := s1.add (b := blk X [.int .i64 2, .int .i64 3] 26) (oX.new oY (fun i hi => by simp only [List.mem_singleton] at hi; omega)) hY (fun k hk => by simp [blk] at hk; omega); clear s1 hX oX oY))
  have s3 : Sep w wY (row 36 7 (.slice none 0 0) ([] : List Re).length (fl rc []) :: blk B [.slice none 0 0] 68 :: blk X [.int .i64 2, .int .i64 3] 26 :: []) := s2.sel 3 [1, 2, 0]
  have hX3 : wY.heap[X]? = some (.cells #[.int .i64 2, .int .i64 3] 26 (0, 0)) := hY
  clear s2 hY
  refine wp_region_t (S := fun w' => Only wY.drew w' []) 3 (by kernel_rfl) (by kernel_rfl) (Only.refl _ _) (fun hZ hHeld => ?_)
  refine' wpAnyT_take (i := 0) (v := _) hZ (op_at' rfl) (by rfl) (by kernel_rfl) (by kernel_rfl) (by kernel_rfl) (by kernel_rfl) (fun _ _ _ h => h) (Or.inl ⟨by rfl, ?hy1⟩) (by assumption) ?rest1
  case hy1 =>
    intro w' hS
    go_simp
    try with_reducible rfl
  try simp only [Act.put, List.setIfInBounds_toArray, List.set_cons_zero, List.set_cons_succ]
  refine' wpAnyT_take (i := 1) (v := _) hZ (op_at' rfl) (by rfl) (by kernel_rfl) (by kernel_rfl) (by kernel_rfl) (by kernel_rfl) (fun _ _ _ h => h) (Or.inl ⟨by rfl, ?hy2⟩) (by assumption) ?rest2
  case hy2 =>
    intro w' hS
    have ht := hS.at (show wY.drew.heap[X]? = _ from hX3) (by simp)
    have ht0 := cell_two0 ht
    have ht1 := cell_two1 ht
    go_simp
    try with_reducible rfl
  try simp only [Act.put, List.setIfInBounds_toArray, List.set_cons_zero, List.set_cons_succ]
  refine wpAnyT_one (i := 2) (by kernel_rfl) (op_at' rfl) (fun K hK => ?_)
  go_simp
  refine (ident_any 0 (by decide) (by decide) _).mono fun e wi hq => ?_
  obtain ⟨A1, A2, rfl, oi, _, _, _, _, _⟩ := hq
  go_wp2_with fail
  refine hK.out _ _ oi (fun hHeld => ?_)
  clear hK K
  try simp only [Act.put, List.setIfInBounds_toArray, List.set_cons_zero, List.set_cons_succ]
  refine wpAnyT_last (by kernel_rfl) (op_at' rfl) (by kernel_rfl) (fun K hK => ?_)
  go_simp
  have s3i := s3.quiet ((Only.drew wY []).trans oi)
  refine (put_new B [] _ 2 3 (some ⟨A1, 0, none⟩) 1 1 (some ⟨A2, 0, none⟩) 1 1 _ s3i (by decide) rise_nil rfl).mono fun e w2 hq => ?_
  obtain ⟨v2, Q, rfl, s4⟩ := hq
  go_wp2_with fail
  refine hK.out _ _ ?_
  clear hK K
  try simp only [Act.put, List.setIfInBounds_toArray, List.set_cons_zero, List.set_cons_succ]
  have s5 : Sep w w2 (row 36 7 v2 [(⟨2, 3, some ⟨A1, 0, none⟩, 1, 1, some ⟨A2, 0, none⟩, 1, 1, some ⟨Q, 0, none⟩, false, 0⟩ : Re)].length (fl rc [⟨2, 3, some ⟨A1, 0, none⟩, 1, 1, some ⟨A2, 0, none⟩, 1, 1, some ⟨Q, 0, none⟩, false, 0⟩]) :: blk B [v2] 68 :: blk Q [.slice none 0 0] 74 :: blk X [.int .i64 2, .int .i64 3] 26 :: []) := s4
  clear s4 s3i s3 hX3 oi
  clear hZ hHeld
  go_wp2_with fail
  refine (drop_keep B _ v2 now long _ s5 (by simp) (by simp [rkp, stale])).mono ?_
  rintro e w3 ⟨rfl, v3, s6⟩
  have hX2 : w3.heap[X]? = some (.cells #[.int .i64 2, .int .i64 3] 26 (0, 0)) := (s6.sel 4 [3]).head
  have ht0 := cell_two0 hX2
  have ht1 := cell_two1 hX2
  clear s5 hX2
  go_wp2_with fail
  refine (mark_any B _ v3 2 3 since _ s6 (by simp) (rise_one _)).mono ?_
  rintro e w4 ⟨rfl, s7⟩
  have s8 : Sep w w4 (row 36 7 v3 [(⟨2, 3, some ⟨A1, 0, none⟩, 1, 1, some ⟨A2, 0, none⟩, 1, 1, some ⟨Q, 0, none⟩, true, since⟩ : Re)].length (fl rc [⟨2, 3, some ⟨A1, 0, none⟩, 1, 1, some ⟨A2, 0, none⟩, 1, 1, some ⟨Q, 0, none⟩, true, since⟩]) :: blk B [v3] 68 :: blk Q [.slice none 0 0] 74 :: blk X [.int .i64 2, .int .i64 3] 26 :: []) := s7
  have hX2 : w4.heap[X]? = some (.cells #[.int .i64 2, .int .i64 3] 26 (0, 0)) := (s8.sel 4 [3]).head
  clear ht0 ht1
  have ht0 := cell_two0 hX2
  have ht1 := cell_two1 hX2
  clear s6 s7 hX2
  go_wp2_with fail
  refine (mark_any B _ v3 2 3 again _ s8 (by simp) (rise_one _)).mono ?_
  rintro e w5 ⟨rfl, s9⟩
  have s10 : Sep w w5 (row 36 7 v3 [(⟨2, 3, some ⟨A1, 0, none⟩, 1, 1, some ⟨A2, 0, none⟩, 1, 1, some ⟨Q, 0, none⟩, true, since⟩ : Re)].length (fl rc [⟨2, 3, some ⟨A1, 0, none⟩, 1, 1, some ⟨A2, 0, none⟩, 1, 1, some ⟨Q, 0, none⟩, true, since⟩]) :: blk B [v3] 68 :: blk Q [.slice none 0 0] 74 :: blk X [.int .i64 2, .int .i64 3] 26 :: []) := s9
  have hX2 : w5.heap[X]? = some (.cells #[.int .i64 2, .int .i64 3] 26 (0, 0)) := (s10.sel 4 [3]).head
  clear ht0 ht1
  have ht0 := cell_two0 hX2
  have ht1 := cell_two1 hX2
  clear s8 s9 hX2
  go_wp2_with fail
  refine (get_any B _ v3 2 3 _ (s10.sel 4 [0, 1, 2, 3]) (by simp) (rise_one _)).mono ?_
  rw [show gotL [(⟨2, 3, some ⟨A1, 0, none⟩, 1, 1, some ⟨A2, 0, none⟩, 1, 1, some ⟨Q, 0, none⟩, true, since⟩ : Re)] 2 3 = .agg #[.int .i64 2, .int .i64 3, .slice (some ⟨A1, 0, none⟩) 1 1, .slice (some ⟨A2, 0, none⟩) 1 1, .pointer (some ⟨Q, 0, none⟩), .bool true, .float .f64 since] from rfl, show foundL [(⟨2, 3, some ⟨A1, 0, none⟩, 1, 1, some ⟨A2, 0, none⟩, 1, 1, some ⟨Q, 0, none⟩, true, since⟩ : Re)] 2 3 = true from rfl]
  rintro e w6 ⟨rfl, o6⟩
  have s11 := s10.quiet o6
  have h1c : ([.int .i64 2, .int .i64 3, .slice (some ⟨A1, 0, none⟩) 1 1, .slice (some ⟨A2, 0, none⟩) 1 1, .pointer (some ⟨Q, 0, none⟩), .bool true, .float .f64 since] : List Value).toArray.all (·.oneCell') = true := by simp [Value.oneCell']
  clear s10 o6 ht0 ht1
  go_wp2_with (first
    | (refine wpList_alloc_new rfl 36 rfl (.agg #[.int .i64 0, .int .i64 0, .slice none 0 0, .slice none 0 0, .pointer none, .bool false, .float .f64 0]) (fun _ => by kernel_rfl) ?_; intro Z wZ oZ hZl hZ)
    | (refine wpList_store_blk rfl 36 _ _ rfl Z [.int .i64 2, .int .i64 3, .slice (some ⟨A1, 0, none⟩) 1 1, .slice (some ⟨A2, 0, none⟩) 1 1, .pointer (some ⟨Q, 0, none⟩), .bool true, .float .f64 since] rfl rfl hZ rfl (by kernel_rfl) h1c ?_; intro wU oU hU; have s12 := s11.add (b := blk Z [.int .i64 2, .int .i64 3, .slice (some ⟨A1, 0, none⟩) 1 1, .slice (some ⟨A2, 0, none⟩) 1 1, .pointer (some ⟨Q, 0, none⟩), .bool true, .float .f64 since] 36) (oZ.new oU (fun i hi => by simp only [List.mem_singleton] at hi; omega)) hU (fun k hk => by simp [blk] at hk; omega); clear s11 hZ oZ oU))
  have s13 : Sep w wU (row 36 7 v3 [(⟨2, 3, some ⟨A1, 0, none⟩, 1, 1, some ⟨A2, 0, none⟩, 1, 1, some ⟨Q, 0, none⟩, true, since⟩ : Re)].length (fl rc [⟨2, 3, some ⟨A1, 0, none⟩, 1, 1, some ⟨A2, 0, none⟩, 1, 1, some ⟨Q, 0, none⟩, true, since⟩]) :: blk B [v3] 68 :: blk Z [.int .i64 2, .int .i64 3, .slice (some ⟨A1, 0, none⟩) 1 1, .slice (some ⟨A2, 0, none⟩) 1 1, .pointer (some ⟨Q, 0, none⟩), .bool true, .float .f64 since] 36 :: []) := s12.sel 5 [1, 2, 0]
  clear s12 hU
  have H1 := over_any now since long
  have H2 := rover_any now since long
  have H3 := rsame_any since since hs hs
  unfold OverA at H1 H2
  simp only [decide_true] at H3
  cases hO : overV now since long with
  | true =>
    rw [hO] at H1 H2
    refine (drop_one B _ v3 now long _ s13 (by simp [rkp, stale, hO])).mono ?_
    rintro e w7 ⟨rfl, v7, s14⟩

    obtain ⟨a7, c7, rfl⟩ := own_slice (show w7.ownsRow 0 36 7 v7 ([] : List Re).length (fl rc ([] : List Re)) from s14.head)
    have o7 := s14.only
    have HL := fun w' (o : Only w7 w' []) => len_any B a7 0 c7 w' (o.at (show w7.heap[B]? = _ from (s14.sel 3 [1]).head) (by simp))
    have HZ := fun w' (o : Only w7 w' []) => o.at (show w7.heap[Z]? = some (.cells #[.int .i64 2, .int .i64 3, .slice (some ⟨A1, 0, none⟩) 1 1, .slice (some ⟨A2, 0, none⟩) 1 1, .pointer (some ⟨Q, 0, none⟩), .bool true, .float .f64 since] 36 (0, 0)) from (s14.sel 3 [2]).head) (by simp)
    clear s13 s14 hO
    go_wp2_with fail
    refine (H2 _).mono ?_
    rintro e w8 ⟨rfl, o8⟩
    go_wp2_with fail
    refine (awake_any _).mono ?_
    rintro e w9 ⟨rfl, o9⟩
    have hz := HZ w9 (o8.trans o9)
    have hz5 : w9.cell? ⟨Z, 5, none⟩ = _ := cell_in hz 5
    have hz6 : w9.cell? ⟨Z, 6, none⟩ = _ := cell_in hz 6
    simp only [List.getElem?_toArray, List.getElem?_cons_succ, List.getElem?_cons_zero] at hz5 hz6
    clear hz
    go_wp2_with fail
    refine (H3 _).mono ?_
    rintro e w' ⟨rfl, rfl⟩
    go_wp2_with fail
    refine (HL _ (o8.trans o9)).mono ?_
    rintro e w' ⟨rfl, rfl⟩
    go_wp2_with fail
    refine (H1 _).mono ?_
    rintro e w10 ⟨rfl, o10⟩
    go_wp2_with fail
    go_ret
    exact ⟨rfl, (((o7.trans o8).trans o9).trans o10).below (Nat.le_refl _) (by simp)⟩

  | false =>
    rw [hO] at H1 H2
    refine (drop_keep B _ v3 now long _ s13 (by simp) (by simp [rkp, stale, hO])).mono ?_
    rintro e w7 ⟨rfl, v7, s14⟩

    obtain ⟨a7, c7, rfl⟩ := own_slice (show w7.ownsRow 0 36 7 v7 [(⟨2, 3, some ⟨A1, 0, none⟩, 1, 1, some ⟨A2, 0, none⟩, 1, 1, some ⟨Q, 0, none⟩, true, since⟩ : Re)].length (fl rc [(⟨2, 3, some ⟨A1, 0, none⟩, 1, 1, some ⟨A2, 0, none⟩, 1, 1, some ⟨Q, 0, none⟩, true, since⟩ : Re)]) from s14.head)
    have o7 := s14.only
    have HL := fun w' (o : Only w7 w' []) => len_any B a7 1 c7 w' (o.at (show w7.heap[B]? = _ from (s14.sel 3 [1]).head) (by simp))
    have HZ := fun w' (o : Only w7 w' []) => o.at (show w7.heap[Z]? = some (.cells #[.int .i64 2, .int .i64 3, .slice (some ⟨A1, 0, none⟩) 1 1, .slice (some ⟨A2, 0, none⟩) 1 1, .pointer (some ⟨Q, 0, none⟩), .bool true, .float .f64 since] 36 (0, 0)) from (s14.sel 3 [2]).head) (by simp)
    clear s13 s14 hO
    go_wp2_with fail
    refine (H2 _).mono ?_
    rintro e w8 ⟨rfl, o8⟩
    go_wp2_with fail
    refine (awake_any _).mono ?_
    rintro e w9 ⟨rfl, o9⟩
    have hz := HZ w9 (o8.trans o9)
    have hz5 : w9.cell? ⟨Z, 5, none⟩ = _ := cell_in hz 5
    have hz6 : w9.cell? ⟨Z, 6, none⟩ = _ := cell_in hz 6
    simp only [List.getElem?_toArray, List.getElem?_cons_succ, List.getElem?_cons_zero] at hz5 hz6
    clear hz
    go_wp2_with fail
    refine (H3 _).mono ?_
    rintro e w' ⟨rfl, rfl⟩
    go_wp2_with fail
    refine (HL _ (o8.trans o9)).mono ?_
    rintro e w' ⟨rfl, rfl⟩
    go_wp2_with fail
    refine (H1 _).mono ?_
    rintro e w10 ⟨rfl, o10⟩
    go_wp2_with fail
    go_ret
    exact ⟨rfl, (((o7.trans o8).trans o9).trans o10).below (Nat.le_refl _) (by simp)⟩


set_option maxRecDepth 100000 in
theorem recordTimes_holds : Rows.RecordTimesSaid := recordTimes.said fun H enc base W v0 v1 v2 v3 d0 p0 d1 p1 d2 p2 d3 p3 h0 h1 h2 h3 h4 h5 h6 h7 => by
  obtain ⟨a, rfl, _, _, wa⟩ := Go.ChangeShapes.open_float Try.underlying22 h0 h1
  obtain ⟨b, rfl, _, _, wb⟩ := Go.ChangeShapes.open_float Try.underlying22 h2 h3
  obtain ⟨c, rfl, _, _, wc⟩ := Go.ChangeShapes.open_float Try.underlying22 h4 h5
  obtain ⟨d, rfl, _, _, wd⟩ := Go.ChangeShapes.open_float Try.underlying22 h6 h7
  exact times_walk a b c d (f64_wfT wa) W
end Go.Proofs.Ytdlbkdnpbcpjfaa
