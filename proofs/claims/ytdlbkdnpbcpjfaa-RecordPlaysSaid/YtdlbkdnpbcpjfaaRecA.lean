/- The waking of layer 16's laws (record); who stands ahead; idents. -/
import Derived.Test.YtdlbkdnpbcpjfaaBk6
namespace Go.Proofs.Ytdlbkdnpbcpjfaa
open Go.RowKit Go.Pw Go.Pw.Fl
set_option linter.unusedVariables false

theorem rise_nil : Rise [] := fun u d i j hi hj => by simp at hj
theorem rise_one (r : Re) : Rise [r] := fun u d i j hi hj => by simp at hj; omega

set_option maxRecDepth 100000 in
set_option maxHeartbeats 1600000 in
theorem awake_any (w : World) : Calls Try.prog 14 #[] w fun e w' => e = .returned (.bool true) ∧ Only w w' [] := by
  go_enter Try.func14, Try.ntmps14
  go_wp2_with fail
  refine (new_any w).mono ?_
  rintro e w1 ⟨rfl, rfl⟩
  have s1 : Sep w _ (row 36 7 (.slice none 0 0) ([] : List Re).length (fl rc []) :: blk w.heap.size [.slice none 0 0] 68 :: []) := ((Sep.nil w).box [.slice none 0 0] 68).rown _ _
  generalize w.heap.size = B at *
  generalize w.alloc (.cells [Value.slice none 0 0].toArray 68) = w1 at *
  have h1c : ([.int .i64 1, .int .i64 1] : List Value).toArray.all (·.oneCell') = true := by simp [Value.oneCell']
  go_wp2_with (first
    | (refine wpList_alloc_new rfl 26 rfl (.agg #[.int .i64 0, .int .i64 0]) (fun _ => by kernel_rfl) ?_; intro X wX oX hXl hX)
    | (refine wpList_store_blk rfl 26 _ _ rfl X [.int .i64 1, .int .i64 1] rfl rfl hX rfl (by kernel_rfl) h1c ?_; intro wY oY hY; have s2 := s1.add (b := blk X [.int .i64 1, .int .i64 1] 26) (oX.new oY (fun i hi => by simp only [List.mem_singleton] at hi; omega)) hY (fun k hk => by simp [blk] at hk; omega); have ht0 := cell_two0 hY; have ht1 := cell_two1 hY; clear s1 hX oX oY))
  have s3 : Sep w wY (row 36 7 (.slice none 0 0) ([] : List Re).length (fl rc []) :: blk B [.slice none 0 0] 68 :: blk X [.int .i64 1, .int .i64 1] 26 :: []) := s2.sel 3 [1, 2, 0]
  clear s2 hY ht0 ht1
  refine (put_new B [] _ 1 1 none 0 0 none 0 0 _ s3 (by decide) rise_nil rfl).mono ?_
  rintro e w2 ⟨v2, Q, rfl, s4⟩
  have s5 : Sep w w2 (row 36 7 v2 [(⟨1, 1, none, 0, 0, none, 0, 0, some ⟨Q, 0, none⟩, false, 0⟩ : Re)].length (fl rc [⟨1, 1, none, 0, 0, none, 0, 0, some ⟨Q, 0, none⟩, false, 0⟩]) :: blk B [v2] 68 :: blk Q [.slice none 0 0] 74 :: blk X [.int .i64 1, .int .i64 1] 26 :: []) := s4
  have hX2 : w2.heap[X]? = some (.cells #[.int .i64 1, .int .i64 1] 26 (0, 0)) := (s5.sel 4 [3]).head
  have ht0 := cell_two0 hX2
  have ht1 := cell_two1 hX2
  clear s3 s4 hX2
  go_wp2_with fail
  refine (mark_any B _ v2 1 1 4617315517961601024 _ s5 (by simp) (rise_one _)).mono ?_
  rintro e w3 ⟨rfl, s6⟩
  have s7 : Sep w w3 (row 36 7 v2 [(⟨1, 1, none, 0, 0, none, 0, 0, some ⟨Q, 0, none⟩, true, 4617315517961601024⟩ : Re)].length (fl rc [⟨1, 1, none, 0, 0, none, 0, 0, some ⟨Q, 0, none⟩, true, 4617315517961601024⟩]) :: blk B [v2] 68 :: blk Q [.slice none 0 0] 74 :: blk X [.int .i64 1, .int .i64 1] 26 :: []) := s6
  rw [show foundL [(⟨1, 1, none, 0, 0, none, 0, 0, some ⟨Q, 0, none⟩, false, 0⟩ : Re)] 1 1 = true from rfl]
  clear s5 s6 ht0 ht1
  go_wp2_with fail
  refine (drop_any B _ v2 4621256167635550208 4616189618054758400 _ s7 (by simp)).mono ?_
  unfold Dropped
  rw [show rkp 4621256167635550208 4616189618054758400 [(⟨1, 1, none, 0, 0, none, 0, 0, some ⟨Q, 0, none⟩, true, 4617315517961601024⟩ : Re)] = [] by
    have : overV 4621256167635550208 4617315517961601024 4616189618054758400 = true := by kernel_rfl
    simp [rkp, stale, this]]
  rintro e w4 ⟨rfl, v4, s8⟩
  obtain ⟨a4, c4, rfl⟩ := own_slice (show w4.ownsRow 0 36 7 v4 ([] : List Re).length (fl rc []) from s8.head)
  have hB4 : w4.heap[B]? = some (.cells #[.slice a4 0 c4] 68 (0, 0)) := (s8.sel 2 [1]).head
  have o4 := s8.only
  clear s7 s8
  go_wp2_with fail
  refine (len_any B a4 0 c4 _ hB4).mono ?_
  rintro e w5 ⟨rfl, rfl⟩
  go_wp2_with fail
  go_ret
  exact ⟨rfl, o4⟩
end Go.Proofs.Ytdlbkdnpbcpjfaa
