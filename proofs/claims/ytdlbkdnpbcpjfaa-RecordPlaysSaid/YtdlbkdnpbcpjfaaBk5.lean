/- Mark, Drop of layer 16 (record). -/
import Derived.Test.YtdlbkdnpbcpjfaaDel
namespace Go.Proofs.Ytdlbkdnpbcpjfaa
open Go.RowKit Go.Pw
set_option linter.unusedVariables false

theorem set_same {xs : List Value} {i : Nat} {v : Value} (h : xs[i]? = some v) : xs.set i v = xs := by
  obtain ⟨hi, rfl⟩ := List.getElem?_eq_some_iff.1 h
  exact List.set_getElem_self hi

/-- What Mark leaves. -/
def markL (l : List Re) (u d : Int) (t : Nat) : List Re := if foundL l u d = true then l.modify (placeL l u d) (fun r => if r.st = true then r else { r with st := true, t := t }) else l

theorem mark_set {l : List Re} {u d : Int} (t : Nat) (hf : foundL l u d = true) (hk : placeL l u d < l.length) : markL l u d t = l.set (placeL l u d) (if l[placeL l u d].st = true then l[placeL l u d] else { l[placeL l u d] with st := true, t := t }) := by
  unfold markL
  rw [if_pos hf]
  apply List.ext_getElem
  · simp
  · intro i h1 h2
    rw [List.getElem_modify, List.getElem_set]
    split
    · rename_i e; subst e; rfl
    · rfl

theorem mark_nil (u d : Int) (t : Nat) (w : World) : Calls Try.prog 11 #[.pointer none, wv u d, .float .f64 t] w fun e w' => e = .returned (.bool false) ∧ Only w w' [] := by
  simp only [wv]
  go_enter Try.func11, Try.ntmps11
  go_wp2_with fail
  refine (find_nil u d _).mono ?_
  rintro e w1 ⟨rfl, o1⟩
  go_wp2_with fail
  go_ret
  exact ⟨rfl, (Only.alloc _ _ _).trans o1⟩

set_option maxRecDepth 100000 in
set_option maxHeartbeats 1600000 in
theorem mark_any {w0 : World} {rs : List Res} (B : Nat) (l : List Re) (v : Value) (u d : Int) (t : Nat) (w : World) (h : Sep w0 w (row 36 7 v l.length (fl rc l) :: blk B [v] 68 :: rs)) (hl : l.length ≤ 1000000) (hr : Rise l) :
    Calls Try.prog 11 #[.pointer (some ⟨B, 0, none⟩), wv u d, .float .f64 t] w fun e w' => e = .returned (.bool (foundL l u d)) ∧ Sep w0 w' (row 36 7 v l.length (fl rc (markL l u d t)) :: blk B [v] 68 :: rs) := by
  simp only [wv]
  obtain ⟨ao, c, rfl⟩ := own_slice (show w.ownsRow 0 _ 7 v l.length (fl rc l) from h.head)
  have sB := h.quiet (Only.alloc w (.cells #[.int .i64 u, .int .i64 d] 26) [])
  clear h
  have Hfind := find_any B l _ u d _ sB hl hr
  cases hf : foundL l u d with
  | true =>
    obtain ⟨hk, _⟩ := found_at hf
    have hmark := mark_set t hf hk
    rw [hf] at Hfind
    generalize placeL l u d = k at *
    obtain ⟨g, rfl, _⟩ := own_some (show (w.alloc (.cells #[.int .i64 u, .int .i64 d] 26)).ownsRow 0 _ 7 (.slice ao l.length c) l.length (fl rc l) from sB.head) (by omega)
    have hE := fun w1 (h1 : Sep w0 w1 (row 36 7 (.slice (some ⟨g, 0, none⟩) l.length c) l.length (fl rc l) :: blk B [.slice (some ⟨g, 0, none⟩) l.length c] 68 :: rs)) => rec_at h1.head hk
    have hset := fl_set (enc := rc) (k := 7) rc_len hk (if l[k].st = true then l[k] else { l[k] with st := true, t := t })
    have hsame : l.set k l[k] = l := List.set_getElem_self hk
    have hat : ∀ j, j < 7 → (fl rc l)[k * 7 + j]? = (rc l[k])[j]? := fun j hj => fl_at (enc := rc) rc_len hk hj
    have hfl : (fl rc l).length = l.length * 7 := fl_len rc_len l
    rw [hmark, ← hset]
    generalize l[k] = x at *
    obtain ⟨xu, xd, a1, n1, c1, a2, n2, c2, q, st, xt⟩ := x
    simp only at hE
    clear hmark
    cases st with
    | true =>
      have hfin : setL (fl rc l) (k * 7) (rc ⟨xu, xd, a1, n1, c1, a2, n2, c2, q, true, xt⟩) = fl rc l := by
        simp only [if_true] at hset
        rw [hset, hsame]
      simp only [if_true]
      rw [hfin]
      clear hset hsame hat hfin
      go_enter Try.func11, Try.ntmps11
      go_wp2_with fail
      refine Hfind.mono ?_
      rintro e w1 ⟨rfl, o1⟩
      have s1 := sB.quiet o1
      clear o1 sB
      obtain ⟨e0, e1, e2, e3, e4, e5, e6⟩ := hE w1 s1
      have hBc := cell_of_one s1.tail.head
      go_wp2_with fail
      go_ret
      exact ⟨rfl, s1⟩
    | false =>
      have hfin : setL (fl rc l) (k * 7) (rc ⟨xu, xd, a1, n1, c1, a2, n2, c2, q, true, t⟩) = setL (setL (fl rc l) (k * 7 + 5) [.bool true]) (k * 7 + 6) [.float .f64 t] := by
        have H0 : (fl rc l)[k * 7]? = some (.int .i64 xu) := hat 0 (by omega)
        have H1 : (fl rc l)[k * 7 + 1]? = some (.int .i64 xd) := hat 1 (by omega)
        have H2 : (fl rc l)[k * 7 + 2]? = some (.slice a1 n1 c1) := hat 2 (by omega)
        have H3 : (fl rc l)[k * 7 + 3]? = some (.slice a2 n2 c2) := hat 3 (by omega)
        have H4 : (fl rc l)[k * 7 + 4]? = some (.pointer q) := hat 4 (by omega)
        show ((((((((fl rc l).set (k * 7) _).set (k * 7 + 1) _).set (k * 7 + 2) _).set (k * 7 + 3) _).set (k * 7 + 4) _).set (k * 7 + 5) _).set (k * 7 + 6) _) = ((fl rc l).set (k * 7 + 5) _).set (k * 7 + 6) _
        rw [set_same H0, set_same H1, set_same H2, set_same H3, set_same H4]
      simp only [Bool.false_eq_true, if_false]
      rw [hfin]
      have e6' : Hid ((setL (fl rc l) (k * 7 + 5) [.bool true])[k * 7 + 6]? = some (.float .f64 xt)) := by
        show _ = _
        have := hat 6 (by omega)
        simp only [setL]
        rw [List.getElem?_set_ne (by omega), this]
        rfl
      clear hset hsame hat hfin
      go_enter Try.func11, Try.ntmps11
      go_wp2_with fail
      refine Hfind.mono ?_
      rintro e w1 ⟨rfl, o1⟩
      have s1 := sB.quiet o1
      clear o1 sB
      obtain ⟨e0, e1, e2, e3, e4, e5, e6⟩ := hE w1 s1
      have hB : w1.heap[B]? = some (.cells #[.slice (some ⟨g, 0, none⟩) l.length c] 68 (0, 0)) := s1.tail.head
      have hBc := cell_of_one hB
      have hBg : B ∉ [g] := by
        have := s1.apart
        rw [List.pairwise_cons] at this
        have h1 := this.1 (blk B [.slice (some ⟨g, 0, none⟩) l.length c] 68) (by simp) g (by simp [row, Value.ownBlock])
        simp only [List.mem_singleton]
        rintro rfl
        exact h1 (by simp [blk])
      go_upto_region 3 with fail
      have sD := s1.quiet (Only.drew w1 [])
      clear s1
      refine wp_region_t (S := fun w' => Only w1.drew w' [g]) 16 (by kernel_rfl) (by kernel_rfl) (Only.refl _ _) (fun hZ hHeld => ?_)
      refine' wpAnyT_take (i := 0) (v := _) hZ (op_at' rfl) (by rfl) (by kernel_rfl) (by kernel_rfl) (by kernel_rfl) (by kernel_rfl) (fun _ _ _ h => h) (Or.inl ⟨by rfl, ?hy1⟩) (by assumption) ?rest1
      case hy1 =>
        intro w' hS
        go_simp
        try with_reducible rfl
      try simp only [Act.put, List.setIfInBounds_toArray, List.set_cons_zero, List.set_cons_succ]
      refine' wpAnyT_take (i := 1) (v := _) hZ (op_at' rfl) (by rfl) (by kernel_rfl) (by kernel_rfl) (by kernel_rfl) (by kernel_rfl) (fun _ _ _ h => h) (Or.inl ⟨by rfl, ?hy2⟩) (by assumption) ?rest2
      case hy2 =>
        intro w' hS
        have hc0 := cell_of_one (hS.at (show w1.drew.heap[B]? = _ from hB) hBg)
        go_simp
        try with_reducible rfl
      try simp only [Act.put, List.setIfInBounds_toArray, List.set_cons_zero, List.set_cons_succ]
      refine' wpAnyT_take (i := 2) (v := _) hZ (op_at' rfl) (by rfl) (by kernel_rfl) (by kernel_rfl) (by kernel_rfl) (by kernel_rfl) (fun _ _ _ h => h) (Or.inl ⟨by rfl, ?hy3⟩) (by assumption) ?rest3
      case hy3 =>
        intro w' hS
        go_simp
        try with_reducible rfl
      try simp only [Act.put, List.setIfInBounds_toArray, List.set_cons_zero, List.set_cons_succ]
      refine' wpAnyT_take (i := 3) (v := _) hZ (op_at' rfl) (by rfl) (by kernel_rfl) (by kernel_rfl) (by kernel_rfl) (by kernel_rfl) (fun _ _ _ h => h) (Or.inl ⟨by rfl, ?hy4⟩) (by assumption) ?rest4
      case hy4 =>
        intro w' hS
        have hc0 := cell_of_one (hS.at (show w1.drew.heap[B]? = _ from hB) hBg)
        go_simp
        try with_reducible rfl
      try simp only [Act.put, List.setIfInBounds_toArray, List.set_cons_zero, List.set_cons_succ]
      refine' wpAnyT_take (i := 4) (v := _) hZ (op_at' rfl) (by rfl) (by kernel_rfl) (by kernel_rfl) (by kernel_rfl) (by kernel_rfl) (fun _ _ _ h => h) (Or.inl ⟨by rfl, ?hy5⟩) (by assumption) ?rest5
      case hy5 =>
        intro w' hS
        go_simp
        try with_reducible rfl
      try simp only [Act.put, List.setIfInBounds_toArray, List.set_cons_zero, List.set_cons_succ]
      refine' wpAnyT_take (i := 5) (v := _) hZ (op_at' rfl) (by rfl) (by kernel_rfl) (by kernel_rfl) (by kernel_rfl) (by kernel_rfl) (fun _ _ _ h => h) (Or.inl ⟨by rfl, ?hy6⟩) (by assumption) ?rest6
      case hy6 =>
        intro w' hS
        go_simp
        try with_reducible rfl
      try simp only [Act.put, List.setIfInBounds_toArray, List.set_cons_zero, List.set_cons_succ]
      refine' wpAnyT_take (i := 6) (v := _) hZ (op_at' rfl) (by rfl) (by kernel_rfl) (by kernel_rfl) (by kernel_rfl) (by kernel_rfl) (fun _ _ _ h => h) (Or.inl ⟨by rfl, ?hy7⟩) (by assumption) ?rest7
      case hy7 =>
        intro w' hS
        have hc0 := cell_of_one (hS.at (show w1.drew.heap[B]? = _ from hB) hBg)
        go_simp
        try with_reducible rfl
      try simp only [Act.put, List.setIfInBounds_toArray, List.set_cons_zero, List.set_cons_succ]
      refine' wpAnyT_take (i := 7) (v := _) hZ (op_at' rfl) (by rfl) (by kernel_rfl) (by kernel_rfl) (by kernel_rfl) (by kernel_rfl) (fun _ _ _ h => h) (Or.inl ⟨by rfl, ?hy8⟩) (by assumption) ?rest8
      case hy8 =>
        intro w' hS
        go_simp
        try with_reducible rfl
      try simp only [Act.put, List.setIfInBounds_toArray, List.set_cons_zero, List.set_cons_succ]
      refine' wpAnyT_take (i := 8) (v := _) hZ (op_at' rfl) (by rfl) (by kernel_rfl) (by kernel_rfl) (by kernel_rfl) (by kernel_rfl) (fun _ _ _ h => h) (Or.inl ⟨by rfl, ?hy9⟩) (by assumption) ?rest9
      case hy9 =>
        intro w' hS
        have hc0 := cell_of_one (hS.at (show w1.drew.heap[B]? = _ from hB) hBg)
        go_simp
        try with_reducible rfl
      try simp only [Act.put, List.setIfInBounds_toArray, List.set_cons_zero, List.set_cons_succ]
      refine' wpAnyT_take (i := 9) (v := _) hZ (op_at' rfl) (by rfl) (by kernel_rfl) (by kernel_rfl) (by kernel_rfl) (by kernel_rfl) (fun _ _ _ h => h) (Or.inl ⟨by rfl, ?hy10⟩) (by assumption) ?rest10
      case hy10 =>
        intro w' hS
        go_simp
        try with_reducible rfl
      try simp only [Act.put, List.setIfInBounds_toArray, List.set_cons_zero, List.set_cons_succ]
      refine' wpAnyT_take (i := 10) (v := _) hZ (op_at' rfl) (by rfl) (by kernel_rfl) (by kernel_rfl) (by kernel_rfl) (by kernel_rfl) (fun _ _ _ h => h) (Or.inl ⟨by rfl, ?hy11⟩) (by assumption) ?rest11
      case hy11 =>
        intro w' hS
        go_simp
        try with_reducible rfl
      try simp only [Act.put, List.setIfInBounds_toArray, List.set_cons_zero, List.set_cons_succ]
      refine' wpAnyT_take (i := 11) (v := _) hZ (op_at' rfl) (by rfl) (by kernel_rfl) (by kernel_rfl) (by kernel_rfl) (by kernel_rfl) (fun _ _ _ h => h) (Or.inl ⟨by rfl, ?hy12⟩) (by assumption) ?rest12
      case hy12 =>
        intro w' hS
        go_simp
        try with_reducible rfl
      try simp only [Act.put, List.setIfInBounds_toArray, List.set_cons_zero, List.set_cons_succ]
      refine' wpAnyT_take (i := 12) (v := _) hZ (op_at' rfl) (by rfl) (by kernel_rfl) (by kernel_rfl) (by kernel_rfl) (by kernel_rfl) (fun _ _ _ h => h) (Or.inl ⟨by rfl, ?hy13⟩) (by assumption) ?rest13
      case hy13 =>
        intro w' hS
        go_simp
        try with_reducible rfl
      try simp only [Act.put, List.setIfInBounds_toArray, List.set_cons_zero, List.set_cons_succ]
      refine wpAnyT_one (i := 13) (by kernel_rfl) (op_at' rfl) (fun K hK => ?_)
      refine step_store_rec (by rfl) 4 _ _ (by rfl) g (k * 7 + 5) (.bool true) [.bool true] (by rfl) 36 7 l.length c _ (by rfl) (by rfl) sD (by simp; omega) (by kernel_rfl) (by simp [Value.oneCell']) (fun w13 o13 s13 => ?_)
      go_wp2_with fail
      refine hK.out _ _ o13 (fun hHeld => ?_)
      clear hK K
      try simp only [Act.put, List.setIfInBounds_toArray, List.set_cons_zero, List.set_cons_succ]
      refine' wpAnyT_take (i := 14) (v := _) hZ (op_at' rfl) (by rfl) (by kernel_rfl) (by kernel_rfl) (by kernel_rfl) (by kernel_rfl) (fun _ _ _ h => h) (Or.inl ⟨by rfl, ?hy14⟩) (by assumption) ?rest14
      case hy14 =>
        intro w' hS
        go_simp
        try with_reducible rfl
      try simp only [Act.put, List.setIfInBounds_toArray, List.set_cons_zero, List.set_cons_succ]
      refine' wpAnyT_take (i := 15) (v := _) hZ (op_at' rfl) (by rfl) (by kernel_rfl) (by kernel_rfl) (by kernel_rfl) (by kernel_rfl) (fun _ _ _ h => h) (Or.inl ⟨by rfl, ?hy15⟩) (by assumption) ?rest15
      case hy15 =>
        intro w' hS
        go_simp
        try with_reducible rfl
      try simp only [Act.put, List.setIfInBounds_toArray, List.set_cons_zero, List.set_cons_succ]
      refine wpAnyT_last (by kernel_rfl) (op_at' rfl) (by kernel_rfl) (fun K hK => ?_)
      refine step_store_rec (by rfl) 22 _ _ (by rfl) g (k * 7 + 6) (.float .f64 t) [.float .f64 t] (by rfl) 36 7 l.length c _ (by rfl) (by rfl) s13 (by simp; omega) (by kernel_rfl) (by simp [Value.oneCell']) (fun w16 o16 s16 => ?_)
      go_wp2_with fail
      refine hK.out _ _ ?_
      clear hK K
      try simp only [Act.put, List.setIfInBounds_toArray, List.set_cons_zero, List.set_cons_succ]
      go_wp2_with fail
      go_ret
      exact ⟨rfl, s16⟩
  | false =>
    have hg : markL l u d t = l := by
      unfold markL
      rw [hf]
      rfl
    rw [hg]
    rw [hf] at Hfind
    clear hg
    go_enter Try.func11, Try.ntmps11
    go_wp2_with fail
    refine Hfind.mono ?_
    rintro e w1 ⟨rfl, o1⟩
    have s1 := sB.quiet o1
    clear o1 sB
    go_wp2_with fail
    go_ret
    exact ⟨rfl, s1⟩
end Go.Proofs.Ytdlbkdnpbcpjfaa
