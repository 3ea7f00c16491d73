/- Several texts in one: RecA, RecI. -/
import Derived.Test.YtdlbkdnpbcpjfaaPc
import Derived.Lib.SmallJoins
set_option linter.unusedSimpArgs false
set_option linter.unusedVariables false
/- The waking of layer 16's laws (record); who stands ahead; idents. -/
namespace Go.Proofs.Ytdlbkdnpbcpjfaa
open Go.RowKit Go.Pw Go.Pw.Fl
set_option linter.unusedVariables false

theorem rise_nil : Rise [] := fun u d i j hi hj => by simp at hj
theorem rise_one (r : Re) : Rise [r] := fun u d i j hi hj => by simp at hj; omega

set_option maxRecDepth 100000 in
set_option maxHeartbeats 1600000 in
theorem awake_any (w : World) : Calls Try.prog 14 #[] w fun e w' => e = .returned (.bool true) ∧ Only w w' [] := by
  go_enter Try.func14, Try.ntmps14
  go_wp2_with fail
  refine (new_any w).mono ?_
  rintro e w1 ⟨rfl, rfl⟩
  have s1 : Sep w _ (row 36 7 (.slice none 0 0) ([] : List Re).length (fl rc []) :: blk w.heap.size [.slice none 0 0] 68 :: []) := ((Sep.nil w).box [.slice none 0 0] 68).rown _ _
  generalize w.heap.size = B at *
  generalize w.alloc (.cells [Value.slice none 0 0].toArray 68) = w1 at *
  have h1c : ([.int .i64 1, .int .i64 1] : List Value).toArray.all (·.oneCell') = true := by simp [Value.oneCell']
  go_wp2_with (first
    | (refine wpList_alloc_new rfl 26 rfl (.agg #[.int .i64 0, .int .i64 0]) (fun _ => by kernel_rfl) ?_; intro X wX oX hXl hX)
    | (refine wpList_store_blk rfl 26 _ _ rfl X [.int .i64 1, .int .i64 1] rfl rfl hX rfl (by kernel_rfl) h1c ?_; intro wY oY hY; have s2 := s1.add (b := blk X [.int .i64 1, .int .i64 1] 26) (oX.new oY (fun i hi => by simp only [List.mem_singleton] at hi; omega)) hY (fun k hk => by simp [blk] at hk; omega); have ht0 := cell_two0 hY; have ht1 := cell_two1 hY; clear s1 hX oX oY))
  have s3 : Sep w wY (row 36 7 (.slice none 0 0) ([] : List Re).length (fl rc []) :: blk B [.slice none 0 0] 68 :: blk X [.int .i64 1, .int .i64 1] 26 :: []) := s2.sel 3 [1, 2, 0]
  clear s2 hY ht0 ht1
  refine (put_new B [] _ 1 1 none 0 0 none 0 0 _ s3 (by decide) rise_nil rfl).mono ?_
  rintro e w2 ⟨v2, Q, rfl, s4⟩
  have s5 : Sep w w2 (row 36 7 v2 [(⟨1, 1, none, 0, 0, none, 0, 0, some ⟨Q, 0, none⟩, false, 0⟩ : Re)].length (fl rc [⟨1, 1, none, 0, 0, none, 0, 0, some ⟨Q, 0, none⟩, false, 0⟩]) :: blk B [v2] 68 :: blk Q [.slice none 0 0] 74 :: blk X [.int .i64 1, .int .i64 1] 26 :: []) := s4
  have hX2 : w2.heap[X]? = some (.cells #[.int .i64 1, .int .i64 1] 26 (0, 0)) := (s5.sel 4 [3]).head
  have ht0 := cell_two0 hX2
  have ht1 := cell_two1 hX2
  clear s3 s4 hX2
  go_wp2_with fail
  refine (mark_any B _ v2 1 1 4617315517961601024 _ s5 (by simp) (rise_one _)).mono ?_
  rintro e w3 ⟨rfl, s6⟩
  have s7 : Sep w w3 (row 36 7 v2 [(⟨1, 1, none, 0, 0, none, 0, 0, some ⟨Q, 0, none⟩, true, 4617315517961601024⟩ : Re)].length (fl rc [⟨1, 1, none, 0, 0, none, 0, 0, some ⟨Q, 0, none⟩, true, 4617315517961601024⟩]) :: blk B [v2] 68 :: blk Q [.slice none 0 0] 74 :: blk X [.int .i64 1, .int .i64 1] 26 :: []) := s6
  rw [show foundL [(⟨1, 1, none, 0, 0, none, 0, 0, some ⟨Q, 0, none⟩, false, 0⟩ : Re)] 1 1 = true from rfl]
  clear s5 s6 ht0 ht1
  go_wp2_with fail
  refine (drop_any B _ v2 4621256167635550208 4616189618054758400 _ s7 (by simp)).mono ?_
  unfold Dropped
  rw [show rkp 4621256167635550208 4616189618054758400 [(⟨1, 1, none, 0, 0, none, 0, 0, some ⟨Q, 0, none⟩, true, 4617315517961601024⟩ : Re)] = [] by
    have : overV 4621256167635550208 4617315517961601024 4616189618054758400 = true := by kernel_rfl
    simp [rkp, stale, this]]
  rintro e w4 ⟨rfl, v4, s8⟩
  obtain ⟨a4, c4, rfl⟩ := own_slice (show w4.ownsRow 0 36 7 v4 ([] : List Re).length (fl rc []) from s8.head)
  have hB4 : w4.heap[B]? = some (.cells #[.slice a4 0 c4] 68 (0, 0)) := (s8.sel 2 [1]).head
  have o4 := s8.only
  clear s7 s8
  go_wp2_with fail
  refine (len_any B a4 0 c4 _ hB4).mono ?_
  rintro e w5 ⟨rfl, rfl⟩
  go_wp2_with fail
  go_ret
  exact ⟨rfl, o4⟩
end Go.Proofs.Ytdlbkdnpbcpjfaa

/- Idents of layer 16's laws (record); who stands ahead of whom. -/
namespace Go.Proofs.Ytdlbkdnpbcpjfaa
open Go.RowKit Go.Pw Go.Pw.Fl
set_option linter.unusedVariables false

/-- An ident of ours. -/
def Idd (n : Int) (w : World) (e : Ending) (w' : World) : Prop := ∃ A1 A2, e = .returned (.agg #[.slice (some ⟨A1, 0, none⟩) 1 1, .slice (some ⟨A2, 0, none⟩) 1 1]) ∧ Only w w' [] ∧ w.heap.size ≤ A1 ∧ w.heap.size ≤ A2 ∧ A1 ≠ A2 ∧ w'.heap[A1]? = some (.cells #[.int .u8 (n % 3)] 5 (0, 0)) ∧ w'.heap[A2]? = some (.cells #[.int .u8 115] 5 (1, 2))

set_option maxRecDepth 100000 in
set_option maxHeartbeats 1600000 in
theorem ident_any (n : Int) (h0 : 0 ≤ n) (h1 : n < 256) (w : World) : Calls Try.prog 9 #[.int .u8 n] w (Idd n w) := by
  have e1 : n.tmod 3 = n % 3 := Int.tmod_eq_emod_of_nonneg h0
  have e2 : IntKind.u8.wrap (n % 3) = n % 3 := by rw [IntKind.wrap_u8]; omega
  obtain ⟨m, hm⟩ : ∃ m, m = n % 3 := ⟨_, rfl⟩
  unfold Idd
  rw [← hm]
  rw [← hm] at e1 e2
  have kc := Go.Joins.run_convert_bytes_const_at (P := Try.prog) ((w.alloc (.cells #[.slice none 0 0, .slice none 0 0] 30)).alloc (.cells #[.int .u8 m] 5)) 28 5 #[.int .u8 115] 1 1 (w.heap.size + 1 + 1) (by simp) Try.underlying28 Try.underlying5
  clear hm
  go_enter Try.func9, Try.ntmps9
  go_wp2_with fail
  refine bodyPost_ret (v := .agg #[.slice (some ⟨w.heap.size + 1, 0, none⟩) 1 1, .slice (some ⟨w.heap.size + 1 + 1, 0, none⟩) 1 1]) (by simp [results, Try.results9, go_sem]) rfl ?_
  obtain ⟨V, hV⟩ : ∃ V, V = w.alloc (.cells #[.slice (some ⟨w.heap.size + 1, 0, none⟩) 1 1, .slice (some ⟨w.heap.size + 1 + 1, 0, none⟩) 1 1] 30) := ⟨_, rfl⟩
  have hVs : V.heap.size = w.heap.size + 1 := by rw [hV]; simp
  rw [← hV]
  have b1 := heap_alloc_new V (.cells #[.int .u8 m] 5)
  have b2 := heap_alloc_new (V.alloc (.cells #[.int .u8 m] 5)) (.cells #[.int .u8 115] 5 (1, 2))
  have e3 : (V.alloc (.cells #[.int .u8 m] 5)).heap.size = w.heap.size + 1 + 1 := by simp [hVs]
  rw [hVs] at b1
  rw [e3] at b2
  have oV : Only w V [] := by rw [hV]; exact Only.alloc _ _ _
  exact ⟨w.heap.size + 1, w.heap.size + 1 + 1, rfl, (oV.trans (Only.alloc _ _ _)).trans (Only.alloc _ _ _), by omega, by omega, by omega, (Only.alloc _ _ []).at b1 (by simp), b2⟩

theorem cmpW_neg (u d u' d' : Int) : (cmpW u d u' d' < 0) ↔ (u < u' ∨ u = u' ∧ d < d') := by
  simp only [cmpW, orL, cmpI]
  repeat' split
  all_goals simp_all
  all_goals omega
theorem cmpW_zero (u d u' d' : Int) : (cmpW u d u' d' = 0) ↔ (u = u' ∧ d = d') := by
  simp only [cmpW, orL, cmpI]
  repeat' split
  all_goals simp_all
  all_goals omega
theorem cmpW_pos (u d u' d' : Int) : (0 < cmpW u d u' d') ↔ (u' < u ∨ u' = u ∧ d' < d) := by
  simp only [cmpW, orL, cmpI]
  repeat' split
  all_goals simp_all
  all_goals omega

set_option maxRecDepth 100000 in
set_option maxHeartbeats 1600000 in
theorem ahead_l (u1 d1 u2 d2 : Int) (b : Bool) (hb : decide (u1 < u2 ∨ u1 = u2 ∧ d1 < d2) = b) (w : World) : Calls Try.prog 19 #[.agg #[.int .i64 u1, .int .i64 d1], .agg #[.int .i64 u2, .int .i64 d2]] w fun e w' => e = .returned (.bool b) ∧ Only w w' [] := by
  by_cases h1 : u1 < u2
  · have d1 : decide (u1 < u2) = true := by simpa using h1
    have d0 : b = true := by rw [← hb]; simp [h1]
    subst d0
    clear hb
    go_enter Try.func19, Try.ntmps19
    go_wp2_with fail
    go_ret
    exact ⟨rfl, (Only.alloc _ _ _).trans (Only.alloc _ _ _)⟩
  · have dd : decide (u1 < u2) = false := by simpa using h1
    by_cases h2 : u1 = u2
    · subst h2
      have db : b = decide (d1 < d2) := by rw [← hb]; simp
      rw [db]
      clear hb db
      go_enter Try.func19, Try.ntmps19
      go_wp2_with fail
      go_ret
      exact ⟨rfl, (Only.alloc _ _ _).trans (Only.alloc _ _ _)⟩
    · have d0 : b = false := by rw [← hb]; simp [h1, h2]
      subst d0
      have d2 : (u1 == u2) = false := by simpa using h2
      clear hb
      go_enter Try.func19, Try.ntmps19
      go_wp2_with fail
      go_ret
      exact ⟨rfl, (Only.alloc _ _ _).trans (Only.alloc _ _ _)⟩
end Go.Proofs.Ytdlbkdnpbcpjfaa

