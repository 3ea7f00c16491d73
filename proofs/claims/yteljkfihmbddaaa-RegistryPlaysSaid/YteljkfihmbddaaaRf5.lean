/- The reference's resources and Remove (layer 17). Printed by gen_rf5.py. -/
import Derived.Test.YteljkfihmbddaaaRf4
import Derived.Test.YteljkfihmbddaaaRoO
set_option linter.unusedSimpArgs false
set_option linter.unusedVariables false
namespace Go.Proofs.Yteljkfihmbddaaa
open Go.RowKit Go.Pw
set_option linter.unusedVariables false

theorem fl_put {α : Type} {enc : α → List Value} {k : Nat} (hk : ∀ x, (enc x).length = k) {l : List α} {i : Nat} (hi : i < l.length) {o : Nat} (ho : o < k) {v : Value} {y : α} (hy : enc y = (enc l[i]).set o v) : setL (fl enc l) (i * k + o) [v] = fl enc (l.set i y) := by
  have e1 : fl enc l = fl enc (l.take i) ++ (enc l[i] ++ fl enc (l.drop (i + 1))) := by
    rw [← fl_cons, ← fl_app, List.getElem_cons_drop, List.take_append_drop]
  have e2 : fl enc (l.set i y) = fl enc (l.take i) ++ (enc y ++ fl enc (l.drop (i + 1))) := by
    rw [List.set_eq_take_append_cons_drop, if_pos hi, fl_app, fl_cons]
  have e3 : (fl enc (l.take i)).length = i * k := by rw [fl_len hk, List.length_take, Nat.min_eq_left (by omega)]
  show (fl enc l).set (i * k + o) v = _
  rw [e1, e2, hy, List.set_append_right _ _ (by omega), e3, Nat.add_sub_cancel_left, List.set_append_left _ _ (by rw [hk]; exact ho)]

/-- A line's prekeys for once, as a resource. -/
def oo (x : Rl) : Res := rowO 40 10 x.v x.os.length (fl bc x.os)
/-- The reference's resources. -/
def refR (S : Nat) (v : Value) (ms : List Rl) (rs : List Res) : List Res := row 85 18 v ms.length (fl rlc ms) :: blk S [v, .slice none 0 0] 53 :: many (ms.map oo) :: rs
theorem Sep.rowOn {w0 w : World} {rs : List Res} (h : Pw.Sep w0 w rs) (e size : Nat) : Pw.Sep w0 w (rowO e size (.slice none 0 0) 0 [] :: rs) :=
  h.add (b := rowO e size (.slice none 0 0) 0 []) (Only.refl _ _) (ownO_nil w e size) (fun k hk => by simp [rowO, Value.ownBlock] at hk)
def rg1 (x : Rl) : Rl := ⟨x.u, x.d, false, x.b, x.v, x.os, x.ok⟩
def rg2 (x : Rl) : Rl := ⟨x.u, x.d, false, x.b, .slice none 0 0, [], rfl⟩
theorem ris_at {ms : List Rl} {u d : Int} (h : ris ms u d = true) : ∃ hk : rfp ms u d < ms.length, ms[rfp ms u d].on = true ∧ ms[rfp ms u d].u = u ∧ ms[rfp ms u d].d = d := by
  unfold ris at h
  by_cases hk : rfp ms u d < ms.length
  · rw [List.getElem?_eq_getElem hk] at h
    have h1 := List.findIdx_getElem (w := hk)
    exact ⟨hk, h, of_decide_eq_true h1⟩
  · rw [List.getElem?_eq_none (by omega)] at h
    simp at h

set_option maxRecDepth 100000 in
set_option maxHeartbeats 1600000 in
theorem rrem_none {w0 : World} {rs : List Res} (S : Nat) (ms : List Rl) (v : Value) (u d : Int) (w : World) (h : Pw.Sep w0 w (refR S v ms rs)) (hl : ms.length ≤ 1000) (hI : ris ms u d = false) :
    Calls Try.prog 18 #[.pointer (some ⟨S, 0, none⟩), wv u d] w fun e w' => e = .returned (.int .i64 2) ∧ Only w w' [] := by
  have HI := fun (w' : World) (o : Only w w' []) => ris_any S ms v u d w' (h.quiet o) (by omega)
  rw [hI] at HI
  clear h
  simp only [wv] at *
  go_enter Try.func18, Try.ntmps18
  go_wp2_with (refine wpList_box_new rfl 30 _ rfl (.agg #[.int .i64 u, .int .i64 d]) rfl ?_; intro Z wZ oZ hZl hZ; have z0 := cell_two0 hZ; have z1 := cell_two1 hZ)
  refine (HI _ oZ).mono ?_
  rintro e w1 ⟨rfl, o1⟩
  clear HI z0 z1
  go_wp2_with fail
  go_ret
  exact ⟨rfl, oZ.trans o1⟩

set_option maxRecDepth 100000 in
set_option maxHeartbeats 1600000 in
theorem rrem_ok {w0 : World} {rs : List Res} (S : Nat) (ms : List Rl) (v : Value) (u d : Int) (k : Nat) (w : World) (h : Pw.Sep w0 w (refR S v ms rs)) (hl : ms.length ≤ 1000) (hI : ris ms u d = true) (hk : k < ms.length) (hp : rfp ms u d = k) :
    Calls Try.prog 18 #[.pointer (some ⟨S, 0, none⟩), wv u d] w fun e w' => e = .returned (.int .i64 0) ∧ Pw.Sep w0 w' (refR S v (ms.set k (rg2 ms[k])) rs) := by
  obtain ⟨ao, c, rfl⟩ := own_slice (show w.ownsRow 0 _ 18 v ms.length (fl rlc ms) from h.head)
  obtain ⟨mg, rfl, _⟩ := own_some (show w.ownsRow 0 _ 18 (.slice ao ms.length c) ms.length (fl rlc ms) from h.head) (by omega)
  have HI := fun (w' : World) (o : Only w w' []) => ris_any S ms _ u d w' (h.quiet o) (by omega)
  have HF := fun (w' : World) (o : Only w w' []) => rfind_any S ms _ u d w' (h.quiet o) (by omega)
  rw [hI] at HI
  have hfi : rfi ms u d = (k : Int) := by unfold rfi; rw [hp, if_pos hk]
  rw [hfi] at HF
  clear hI hp hfi
  simp only [wv] at *
  have hkz : (0 : Int) ≤ (k : Int) ∧ (k : Int) < ms.length := by omega
  go_enter Try.func18, Try.ntmps18
  go_wp2_with (refine wpList_box_new rfl 30 _ rfl (.agg #[.int .i64 u, .int .i64 d]) rfl ?_; intro Z wZ oZ hZl hZ; have z0 := cell_two0 hZ; have z1 := cell_two1 hZ)
  refine (HI _ oZ).mono ?_
  rintro e w1 ⟨rfl, o1⟩
  clear z0 z1
  have z0 := cell_two0 (o1.at hZ (by simp))
  have z1 := cell_two1 (o1.at hZ (by simp))
  go_wp2_with fail
  refine (HF _ (oZ.trans o1)).mono ?_
  rintro e w2 ⟨rfl, o2⟩
  have s2 : Pw.Sep w0 w2 (row 85 18 (.slice (some ⟨mg, 0, none⟩) ms.length c) ms.length (fl rlc ms) :: blk S [.slice (some ⟨mg, 0, none⟩) ms.length c, .slice none 0 0] 53 :: many (ms.map oo) :: rs) := h.quiet ((oZ.trans o1).trans o2)
  clear HI HF z0 z1 h oZ o1 o2 hZ
  have hrow2 := (show w2.ownsRow 0 85 18 (.slice (some ⟨mg, 0, none⟩) ms.length c) ms.length (fl rlc (ms)) from s2.head)
  have f2 := hrow2.frozenAt (k * 18 + 2)
  have e2 := rec_cell rlc_len (l := ms) (by exact hrow2) (m := k) (by exact hk) 2 (v := .bool ms[k].on) (by simp [rlc, bc, rg1, rg2])
  have q2 := cell_two0 (show w2.heap[S]? = _ from (s2.sel 2 [1]).head)
  have t2 := s2.puts (k * 18 + 2) [.bool false]
  rw [fl_put rlc_len (l := ms) (by exact hk) (by omega : 2 < 18) (y := (rg1 ms[k])) (by simp [rlc, bc, rg1, rg2])] at t2
  clear s2 hrow2
  go_upto_region 5 with fail
  obtain ⟨w3, hw3⟩ : ∃ z, z = w2.setCell ⟨mg, k * 18 + 2, none⟩ (.bool false) := ⟨_, rfl⟩
  rw [← hw3]
  have s3 : Pw.Sep w0 w3 (row 85 18 (.slice (some ⟨mg, 0, none⟩) ms.length c) ms.length (fl rlc (ms.set k (rg1 ms[k]))) :: blk S [.slice (some ⟨mg, 0, none⟩) ms.length c, .slice none 0 0] 53 :: many (ms.map oo) :: rs) := by rw [hw3]; exact t2
  clear hw3 t2 e2 f2 q2
  have hrow3 := (show w3.ownsRow 0 85 18 (.slice (some ⟨mg, 0, none⟩) ms.length c) ms.length (fl rlc ((ms.set k (rg1 ms[k])))) from s3.head)
  have f3 := hrow3.frozenAt (k * 18 + 13)
  have e3 := rec_cell rlc_len (l := (ms.set k (rg1 ms[k]))) (by rw [List.length_set]; exact hrow3) (m := k) (by rw [List.length_set]; exact hk) 13 (v := ms[k].v) (by simp [rlc, bc, rg1, rg2])
  have q3 := cell_two0 (show w3.heap[S]? = _ from (s3.sel 2 [1]).head)
  have t3 := s3.puts (k * 18 + 13) [.slice none 0 0]
  rw [fl_put rlc_len (l := (ms.set k (rg1 ms[k]))) (by rw [List.length_set]; exact hk) (by omega : 13 < 18) (y := (rg2 ms[k])) (by simp [rlc, bc, rg1, rg2])] at t3
  rw [List.set_set] at t3
  clear s3 hrow3
  go_upto_region 6 with fail
  obtain ⟨w4, hw4⟩ : ∃ z, z = w3.setCell ⟨mg, k * 18 + 13, none⟩ (.slice none 0 0) := ⟨_, rfl⟩
  rw [← hw4]
  have s4 : Pw.Sep w0 w4 (row 85 18 (.slice (some ⟨mg, 0, none⟩) ms.length c) ms.length (fl rlc (ms.set k (rg2 ms[k]))) :: blk S [.slice (some ⟨mg, 0, none⟩) ms.length c, .slice none 0 0] 53 :: many (ms.map oo) :: rs) := by rw [hw4]; exact t3
  clear hw4 t3 e3 f3 q3
  have hrow4 := (show w4.ownsRow 0 85 18 (.slice (some ⟨mg, 0, none⟩) ms.length c) ms.length (fl rlc ((ms.set k (rg2 ms[k])))) from s4.head)
  have f4 := hrow4.frozenAt (k * 18 + 14)
  have e4 := rec_cell rlc_len (l := (ms.set k (rg2 ms[k]))) (by rw [List.length_set]; exact hrow4) (m := k) (by rw [List.length_set]; exact hk) 14 (v := .slice none 0 0) (by simp [rlc, bc, rg1, rg2])
  have q4 := cell_two0 (show w4.heap[S]? = _ from (s4.sel 2 [1]).head)
  have t4 := s4.puts (k * 18 + 14) [.slice none 0 0]
  rw [fl_put rlc_len (l := (ms.set k (rg2 ms[k]))) (by rw [List.length_set]; exact hk) (by omega : 14 < 18) (y := (rg2 ms[k])) (by simp [rlc, bc, rg1, rg2])] at t4
  rw [List.set_set] at t4
  clear s4 hrow4
  go_upto_region 7 with fail
  obtain ⟨w5, hw5⟩ : ∃ z, z = w4.setCell ⟨mg, k * 18 + 14, none⟩ (.slice none 0 0) := ⟨_, rfl⟩
  rw [← hw5]
  have s5 : Pw.Sep w0 w5 (row 85 18 (.slice (some ⟨mg, 0, none⟩) ms.length c) ms.length (fl rlc (ms.set k (rg2 ms[k]))) :: blk S [.slice (some ⟨mg, 0, none⟩) ms.length c, .slice none 0 0] 53 :: many (ms.map oo) :: rs) := by rw [hw5]; exact t4
  clear hw5 t4 e4 f4 q4
  have hrow5 := (show w5.ownsRow 0 85 18 (.slice (some ⟨mg, 0, none⟩) ms.length c) ms.length (fl rlc ((ms.set k (rg2 ms[k])))) from s5.head)
  have f5 := hrow5.frozenAt (k * 18 + 15)
  have e5 := rec_cell rlc_len (l := (ms.set k (rg2 ms[k]))) (by rw [List.length_set]; exact hrow5) (m := k) (by rw [List.length_set]; exact hk) 15 (v := .int .u64 0) (by simp [rlc, bc, rg1, rg2])
  have q5 := cell_two0 (show w5.heap[S]? = _ from (s5.sel 2 [1]).head)
  have t5 := s5.puts (k * 18 + 15) [.int .u64 0]
  rw [fl_put rlc_len (l := (ms.set k (rg2 ms[k]))) (by rw [List.length_set]; exact hk) (by omega : 15 < 18) (y := (rg2 ms[k])) (by simp [rlc, bc, rg1, rg2])] at t5
  rw [List.set_set] at t5
  clear s5 hrow5
  go_wp2_with fail
  go_ret
  refine ⟨rfl, ?_⟩
  have u1 : Pw.Sep w0 _ (many (ms.map oo) :: row 85 18 (.slice (some ⟨mg, 0, none⟩) ms.length c) ms.length (fl rlc (ms.set k (rg2 ms[k]))) :: blk S [.slice (some ⟨mg, 0, none⟩) ms.length c, .slice none 0 0] 53 :: rs) := t5.sel 3 [2, 0, 1]
  have u2 := (u1.pick k (r := oo ms[k]) (by rw [List.getElem?_map, List.getElem?_eq_getElem hk]; rfl)).tail
  have u3 : Pw.Sep w0 _ (oo (rg2 ms[k]) :: many ((ms.map oo).eraseIdx k) :: _) := Sep.rowOn u2 40 10
  have u4 := u3.putk k (by simpa using hk)
  rw [← List.map_set] at u4
  unfold refR
  rw [List.length_set]
  exact u4.sel 3 [1, 2, 0]
end Go.Proofs.Yteljkfihmbddaaa
