/- The registry's Publish of what isn't the device's own (layer 17). -/
import Derived.Test.YteljkfihmbddaaaPd
set_option linter.unusedSimpArgs false
set_option linter.unusedVariables false
namespace Go.Proofs.Yteljkfihmbddaaa
open Go.RowKit Go.Pw
set_option linter.unusedVariables false

set_option maxRecDepth 100000 in
set_option maxHeartbeats 1600000 in
theorem publish_arg {w0 : World} {rs : List Res} (B : Nat) (l : List Li) (v : Value) (u d : Int) (vb : Value) (bs : List Bu) (k : Nat) (w : World) (h : Pw.Sep w0 w (regR B v l (row 40 10 vb bs.length (fl bc bs) :: rs))) (hl : l.length ≤ 1000000) (hbl : bs.length ≤ 1000000) (hr : Rise l)
    (hf : foundL l u d = true) (hp : placeL l u d = k) (hk : k < l.length) (hon : l[k].on = true) (hany : bs.any (other u d) = true) :
    Calls Try.prog 19 #[.pointer (some ⟨B, 0, none⟩), wv u d, vb] w fun e w' => e = .returned (.int .i64 1) ∧ Only w w' [] := by
  obtain ⟨ao, c, rfl⟩ := own_slice (show w.ownsRow 0 _ 14 v l.length (fl lc l) from h.head)
  obtain ⟨g, rfl, _⟩ := own_some (show w.ownsRow 0 _ 14 (.slice ao l.length c) l.length (fl lc l) from h.head) (by omega)
  have hvb : w.ownsRow 0 40 10 vb bs.length (fl bc bs) := (h.sel 4 [3]).head
  obtain ⟨ab, cb, rfl⟩ := own_slice hvb
  clear hvb
  have oA := Only.alloc w (.cells #[.int .i64 u, .int .i64 d] 30) []
  have sB : Pw.Sep w0 _ (row 76 14 (.slice (some ⟨g, 0, none⟩) l.length c) l.length (fl lc l) :: blk B [.slice (some ⟨g, 0, none⟩) l.length c] 72 :: many (l.map ow) :: row 40 10 (.slice ab bs.length cb) bs.length (fl bc bs) :: blk w.heap.size [.int .i64 u, .int .i64 d] 30 :: rs) := (h.box [.int .i64 u, .int .i64 d] 30).sel 5 [1, 2, 3, 4, 0]
  clear h
  have Hfind := find_any B l _ u d _ sB hl hr
  rw [hf, hp] at Hfind
  simp only [wv] at *
  clear hf hp hr
  go_enter Try.func19, Try.ntmps19
  go_wp2_with fail
  refine Hfind.mono ?_
  rintro e w1 ⟨rfl, o1⟩
  have s1 := sB.quiet o1
  have oB := oA.trans o1
  clear sB o1 Hfind oA
  generalize w.heap.size = A4 at *
  have hc2 := rec_cell lc_len (show w1.ownsRow 0 76 14 (.slice (some ⟨g, 0, none⟩) l.length c) l.length (fl lc l) from s1.head) hk 2 (v := .bool l[k].on) rfl
  rw [hon] at hc2
  have hBc := cell_of_one s1.tail.head
  have hA4 : w1.heap[A4]? = some (.cells #[.int .i64 u, .int .i64 d] 30 (0, 0)) := (s1.sel 5 [4]).head
  have ha0 := cell_two0 hA4
  have ha1 := cell_two1 hA4
  have hkI : (k : Int) < l.length := by omega
  go_wp2_with fail
  refine (contains_o2 A4 (other u d) _ bs w1 (own_src (s1.sel 4 [3]).head) hbl (clos_other2 A4 u d w1 hA4)).mono ?_
  rw [hany]
  rintro e w2 ⟨rfl, o2⟩
  clear s1 hc2 hBc hA4 ha0 ha1 hany
  go_wp2_with fail
  go_ret
  exact ⟨rfl, oB.trans o2⟩
end Go.Proofs.Yteljkfihmbddaaa
