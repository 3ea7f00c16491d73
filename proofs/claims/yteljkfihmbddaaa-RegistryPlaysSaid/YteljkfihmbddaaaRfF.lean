/- The registry's Add, refused (layer 17). Printed by gen_rff.py. -/
import Derived.Test.YteljkfihmbddaaaPd
set_option linter.unusedSimpArgs false
set_option linter.unusedVariables false
namespace Go.Proofs.Yteljkfihmbddaaa
open Go.RowKit Go.Pw
set_option linter.unusedVariables false

set_option maxRecDepth 100000 in
set_option maxHeartbeats 1600000 in
theorem add_err {w0 : World} {rs : List Res} (B : Nat) (l : List Li) (v : Value) (u d : Int) (vb : Value) (bs : List Bu) (w : World) (h : Pw.Sep w0 w (regR B v l (row 40 10 vb bs.length (fl bc bs) :: rs))) (hl : l.length ≤ 900000) (hbl : bs.length ≤ 1000000) (hr : Rise l)
    (er : Int) (her : er = 1 ∨ er = 3) (hn : nextD l u = ((0, 0), er)) :
    Calls Try.prog 12 #[.pointer (some ⟨B, 0, none⟩), wv u d, vb] w fun e w' => e = .returned (.int .i64 er) ∧ Only w w' [] := by
  have hvb : w.ownsRow 0 40 10 vb bs.length (fl bc bs) := (h.sel 4 [3]).head
  obtain ⟨ab, cb, rfl⟩ := own_slice hvb
  clear hvb
  have oA := Only.alloc w (.cells #[.int .i64 u, .int .i64 d] 30) []
  have sB : Pw.Sep w0 _ (row 76 14 v l.length (fl lc l) :: blk B [v] 72 :: many (l.map ow) :: row 40 10 (.slice ab bs.length cb) bs.length (fl bc bs) :: blk w.heap.size [.int .i64 u, .int .i64 d] 30 :: rs) := (h.box [.int .i64 u, .int .i64 d] 30).sel 5 [1, 2, 3, 4, 0]
  clear h
  have Hnext := next_any B l _ u _ sB (by omega) hr
  rw [hn] at Hnext
  simp only [wv] at *
  have h1c : ([.int .i64 0, .int .i64 0] : List Value).toArray.all (·.oneCell') = true := by simp [Value.oneCell']
  go_enter Try.func12, Try.ntmps12
  go_wp2_with fail
  refine Hnext.mono ?_
  rintro e w1 ⟨rfl, o1⟩
  have s1 := sB.quiet o1
  have oB := oA.trans o1
  clear sB o1 Hnext oA
  generalize w.heap.size = A4 at *
  have hA4 : w1.heap[A4]? = some (.cells #[.int .i64 u, .int .i64 d] 30 (0, 0)) := (s1.sel 5 [4]).head
  go_wp2_with (first
    | (refine wpList_alloc_new rfl 30 rfl (.agg #[.int .i64 0, .int .i64 0]) (fun _ => by kernel_rfl) ?_; intro X wX oX hXl hX)
    | (refine wpList_store_blk rfl 30 _ _ rfl X [.int .i64 0, .int .i64 0] rfl rfl hX rfl (by kernel_rfl) h1c ?_; intro wY oY hY; have oF := oX.new oY (fun i hi => by simp only [List.mem_singleton] at hi; omega); have s2 := s1.quiet oF; have hy0 := cell_two0 hY; have hy1 := cell_two1 hY; have hA5 := oF.at hA4 (by simp); have ha0 := cell_two0 hA5; have ha1 := cell_two1 hA5; have oC := oB.trans oF))
  rcases her with rfl | rfl
  all_goals
    go_wp2_with fail
    go_ret
    exact ⟨rfl, oC⟩

set_option maxRecDepth 100000 in
set_option maxHeartbeats 1600000 in
theorem add_next {w0 : World} {rs : List Res} (B : Nat) (l : List Li) (v : Value) (u d : Int) (vb : Value) (bs : List Bu) (w : World) (h : Pw.Sep w0 w (regR B v l (row 40 10 vb bs.length (fl bc bs) :: rs))) (hl : l.length ≤ 900000) (hbl : bs.length ≤ 1000000) (hr : Rise l)
    (m : Int) (hne : m ≠ d) (hn : nextD l u = ((u, m), 0)) :
    Calls Try.prog 12 #[.pointer (some ⟨B, 0, none⟩), wv u d, vb] w fun e w' => e = .returned (.int .i64 1) ∧ Only w w' [] := by
  have hvb : w.ownsRow 0 40 10 vb bs.length (fl bc bs) := (h.sel 4 [3]).head
  obtain ⟨ab, cb, rfl⟩ := own_slice hvb
  clear hvb
  have oA := Only.alloc w (.cells #[.int .i64 u, .int .i64 d] 30) []
  have sB : Pw.Sep w0 _ (row 76 14 v l.length (fl lc l) :: blk B [v] 72 :: many (l.map ow) :: row 40 10 (.slice ab bs.length cb) bs.length (fl bc bs) :: blk w.heap.size [.int .i64 u, .int .i64 d] 30 :: rs) := (h.box [.int .i64 u, .int .i64 d] 30).sel 5 [1, 2, 3, 4, 0]
  clear h
  have Hnext := next_any B l _ u _ sB (by omega) hr
  rw [hn] at Hnext
  simp only [wv] at *
  have h1c : ([.int .i64 u, .int .i64 m] : List Value).toArray.all (·.oneCell') = true := by simp [Value.oneCell']
  go_enter Try.func12, Try.ntmps12
  go_wp2_with fail
  refine Hnext.mono ?_
  rintro e w1 ⟨rfl, o1⟩
  have s1 := sB.quiet o1
  have oB := oA.trans o1
  clear sB o1 Hnext oA
  generalize w.heap.size = A4 at *
  have hA4 : w1.heap[A4]? = some (.cells #[.int .i64 u, .int .i64 d] 30 (0, 0)) := (s1.sel 5 [4]).head
  go_wp2_with (first
    | (refine wpList_alloc_new rfl 30 rfl (.agg #[.int .i64 0, .int .i64 0]) (fun _ => by kernel_rfl) ?_; intro X wX oX hXl hX)
    | (refine wpList_store_blk rfl 30 _ _ rfl X [.int .i64 u, .int .i64 m] rfl rfl hX rfl (by kernel_rfl) h1c ?_; intro wY oY hY; have oF := oX.new oY (fun i hi => by simp only [List.mem_singleton] at hi; omega); have s2 := s1.quiet oF; have hy0 := cell_two0 hY; have hy1 := cell_two1 hY; have hA5 := oF.at hA4 (by simp); have ha0 := cell_two0 hA5; have ha1 := cell_two1 hA5; have oC := oB.trans oF))
  have dm : decide (m = d) = false := by simpa using hne
  go_wp2_with fail
  go_ret
  exact ⟨rfl, oC⟩

set_option maxRecDepth 100000 in
set_option maxHeartbeats 1600000 in
theorem add_some {w0 : World} {rs : List Res} (B : Nat) (l : List Li) (v : Value) (u d : Int) (vb : Value) (bs : List Bu) (w : World) (h : Pw.Sep w0 w (regR B v l (row 40 10 vb bs.length (fl bc bs) :: rs))) (hl : l.length ≤ 900000) (hbl : bs.length ≤ 1000000) (hr : Rise l)
    (hn : nextD l u = ((u, d), 0)) (hs : bs.any (fun x => !x.has) = false) :
    Calls Try.prog 12 #[.pointer (some ⟨B, 0, none⟩), wv u d, vb] w fun e w' => e = .returned (.int .i64 1) ∧ Only w w' [] := by
  have hvb : w.ownsRow 0 40 10 vb bs.length (fl bc bs) := (h.sel 4 [3]).head
  obtain ⟨ab, cb, rfl⟩ := own_slice hvb
  clear hvb
  have oA := Only.alloc w (.cells #[.int .i64 u, .int .i64 d] 30) []
  have sB : Pw.Sep w0 _ (row 76 14 v l.length (fl lc l) :: blk B [v] 72 :: many (l.map ow) :: row 40 10 (.slice ab bs.length cb) bs.length (fl bc bs) :: blk w.heap.size [.int .i64 u, .int .i64 d] 30 :: rs) := (h.box [.int .i64 u, .int .i64 d] 30).sel 5 [1, 2, 3, 4, 0]
  clear h
  have Hnext := next_any B l _ u _ sB (by omega) hr
  rw [hn] at Hnext
  simp only [wv] at *
  have h1c : ([.int .i64 u, .int .i64 d] : List Value).toArray.all (·.oneCell') = true := by simp [Value.oneCell']
  go_enter Try.func12, Try.ntmps12
  go_wp2_with fail
  refine Hnext.mono ?_
  rintro e w1 ⟨rfl, o1⟩
  have s1 := sB.quiet o1
  have oB := oA.trans o1
  clear sB o1 Hnext oA
  generalize w.heap.size = A4 at *
  have hA4 : w1.heap[A4]? = some (.cells #[.int .i64 u, .int .i64 d] 30 (0, 0)) := (s1.sel 5 [4]).head
  go_wp2_with (first
    | (refine wpList_alloc_new rfl 30 rfl (.agg #[.int .i64 0, .int .i64 0]) (fun _ => by kernel_rfl) ?_; intro X wX oX hXl hX)
    | (refine wpList_store_blk rfl 30 _ _ rfl X [.int .i64 u, .int .i64 d] rfl rfl hX rfl (by kernel_rfl) h1c ?_; intro wY oY hY; have oF := oX.new oY (fun i hi => by simp only [List.mem_singleton] at hi; omega); have s2 := s1.quiet oF; have hy0 := cell_two0 hY; have hy1 := cell_two1 hY; have hA5 := oF.at hA4 (by simp); have ha0 := cell_two0 hA5; have ha1 := cell_two1 hA5; have oC := oB.trans oF))
  have hrb : RdB wY (.slice ab bs.length cb) bs := own_src (s2.sel 4 [3]).head
  refine (contains_has (fun x => !x.has) _ bs wY hrb hbl (clos_has wY)).mono ?_
  rw [hs]
  rintro e w3 ⟨rfl, o3⟩
  go_wp2_with fail
  go_ret
  exact ⟨rfl, oC.trans o3⟩

set_option maxRecDepth 100000 in
set_option maxHeartbeats 1600000 in
theorem add_other {w0 : World} {rs : List Res} (B : Nat) (l : List Li) (v : Value) (u d : Int) (vb : Value) (bs : List Bu) (w : World) (h : Pw.Sep w0 w (regR B v l (row 40 10 vb bs.length (fl bc bs) :: rs))) (hl : l.length ≤ 900000) (hbl : bs.length ≤ 1000000) (hr : Rise l)
    (hn : nextD l u = ((u, d), 0)) (hs : bs.any (fun x => !x.has) = true) (hany : bs.any (other u d) = true) :
    Calls Try.prog 12 #[.pointer (some ⟨B, 0, none⟩), wv u d, vb] w fun e w' => e = .returned (.int .i64 1) ∧ Only w w' [] := by
  have hvb : w.ownsRow 0 40 10 vb bs.length (fl bc bs) := (h.sel 4 [3]).head
  obtain ⟨ab, cb, rfl⟩ := own_slice hvb
  clear hvb
  have oA := Only.alloc w (.cells #[.int .i64 u, .int .i64 d] 30) []
  have sB : Pw.Sep w0 _ (row 76 14 v l.length (fl lc l) :: blk B [v] 72 :: many (l.map ow) :: row 40 10 (.slice ab bs.length cb) bs.length (fl bc bs) :: blk w.heap.size [.int .i64 u, .int .i64 d] 30 :: rs) := (h.box [.int .i64 u, .int .i64 d] 30).sel 5 [1, 2, 3, 4, 0]
  clear h
  have Hnext := next_any B l _ u _ sB (by omega) hr
  rw [hn] at Hnext
  simp only [wv] at *
  have h1c : ([.int .i64 u, .int .i64 d] : List Value).toArray.all (·.oneCell') = true := by simp [Value.oneCell']
  go_enter Try.func12, Try.ntmps12
  go_wp2_with fail
  refine Hnext.mono ?_
  rintro e w1 ⟨rfl, o1⟩
  have s1 := sB.quiet o1
  have oB := oA.trans o1
  clear sB o1 Hnext oA
  generalize w.heap.size = A4 at *
  have hA4 : w1.heap[A4]? = some (.cells #[.int .i64 u, .int .i64 d] 30 (0, 0)) := (s1.sel 5 [4]).head
  go_wp2_with (first
    | (refine wpList_alloc_new rfl 30 rfl (.agg #[.int .i64 0, .int .i64 0]) (fun _ => by kernel_rfl) ?_; intro X wX oX hXl hX)
    | (refine wpList_store_blk rfl 30 _ _ rfl X [.int .i64 u, .int .i64 d] rfl rfl hX rfl (by kernel_rfl) h1c ?_; intro wY oY hY; have oF := oX.new oY (fun i hi => by simp only [List.mem_singleton] at hi; omega); have s2 := s1.quiet oF; have hy0 := cell_two0 hY; have hy1 := cell_two1 hY; have hA5 := oF.at hA4 (by simp); have ha0 := cell_two0 hA5; have ha1 := cell_two1 hA5; have oC := oB.trans oF))
  have hrb : RdB wY (.slice ab bs.length cb) bs := own_src (s2.sel 4 [3]).head
  refine (contains_has (fun x => !x.has) _ bs wY hrb hbl (clos_has wY)).mono ?_
  rw [hs]
  rintro e w3 ⟨rfl, o3⟩
  go_wp2_with fail
  refine (contains_o1 A4 (other u d) _ bs w3 (hrb.off o3) hbl (clos_other1 A4 u d w3 (o3.at hA5 (by simp)))).mono ?_
  rw [hany]
  rintro e w4 ⟨rfl, o4⟩
  go_wp2_with fail
  go_ret
  exact ⟨rfl, (oC.trans o3).trans o4⟩
end Go.Proofs.Yteljkfihmbddaaa
