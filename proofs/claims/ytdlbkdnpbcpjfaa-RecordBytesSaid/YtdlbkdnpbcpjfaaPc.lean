/- Several texts in one: Bk5, Bk6, Bk7. -/
import Derived.Test.YtdlbkdnpbcpjfaaDel
set_option linter.unusedSimpArgs false
set_option linter.unusedVariables false
/- Mark, Drop of layer 16 (record). -/
namespace Go.Proofs.Ytdlbkdnpbcpjfaa
open Go.RowKit Go.Pw
set_option linter.unusedVariables false

theorem set_same {xs : List Value} {i : Nat} {v : Value} (h : xs[i]? = some v) : xs.set i v = xs := by
  obtain ⟨hi, rfl⟩ := List.getElem?_eq_some_iff.1 h
  exact List.set_getElem_self hi

/-- What Mark leaves. -/
def markL (l : List Re) (u d : Int) (t : Nat) : List Re := if foundL l u d = true then l.modify (placeL l u d) (fun r => if r.st = true then r else { r with st := true, t := t }) else l

theorem mark_set {l : List Re} {u d : Int} (t : Nat) (hf : foundL l u d = true) (hk : placeL l u d < l.length) : markL l u d t = l.set (placeL l u d) (if l[placeL l u d].st = true then l[placeL l u d] else { l[placeL l u d] with st := true, t := t }) := by
  unfold markL
  rw [if_pos hf]
  apply List.ext_getElem
  · simp
  · intro i h1 h2
    rw [List.getElem_modify, List.getElem_set]
    split
    · rename_i e; subst e; rfl
    · rfl

theorem mark_nil (u d : Int) (t : Nat) (w : World) : Calls Try.prog 11 #[.pointer none, wv u d, .float .f64 t] w fun e w' => e = .returned (.bool false) ∧ Only w w' [] := by
  simp only [wv]
  go_enter Try.func11, Try.ntmps11
  go_wp2_with fail
  refine (find_nil u d _).mono ?_
  rintro e w1 ⟨rfl, o1⟩
  go_wp2_with fail
  go_ret
  exact ⟨rfl, (Only.alloc _ _ _).trans o1⟩

set_option maxRecDepth 100000 in
set_option maxHeartbeats 1600000 in
theorem mark_any {w0 : World} {rs : List Res} (B : Nat) (l : List Re) (v : Value) (u d : Int) (t : Nat) (w : World) (h : Sep w0 w (row 36 7 v l.length (fl rc l) :: blk B [v] 68 :: rs)) (hl : l.length ≤ 1000000) (hr : Rise l) :
    Calls Try.prog 11 #[.pointer (some ⟨B, 0, none⟩), wv u d, .float .f64 t] w fun e w' => e = .returned (.bool (foundL l u d)) ∧ Sep w0 w' (row 36 7 v l.length (fl rc (markL l u d t)) :: blk B [v] 68 :: rs) := by
  simp only [wv]
  obtain ⟨ao, c, rfl⟩ := own_slice (show w.ownsRow 0 _ 7 v l.length (fl rc l) from h.head)
  have sB := h.quiet (Only.alloc w (.cells #[.int .i64 u, .int .i64 d] 26) [])
  clear h
  have Hfind := find_any B l _ u d _ sB hl hr
  cases hf : foundL l u d with
  | true =>
    obtain ⟨hk, _⟩ := found_at hf
    have hmark := mark_set t hf hk
    rw [hf] at Hfind
    generalize placeL l u d = k at *
    obtain ⟨g, rfl, _⟩ := own_some (show (w.alloc (.cells #[.int .i64 u, .int .i64 d] 26)).ownsRow 0 _ 7 (.slice ao l.length c) l.length (fl rc l) from sB.head) (by omega)
    have hE := fun w1 (h1 : Sep w0 w1 (row 36 7 (.slice (some ⟨g, 0, none⟩) l.length c) l.length (fl rc l) :: blk B [.slice (some ⟨g, 0, none⟩) l.length c] 68 :: rs)) => rec_at h1.head hk
    have hset := fl_set (enc := rc) (k := 7) rc_len hk (if l[k].st = true then l[k] else { l[k] with st := true, t := t })
    have hsame : l.set k l[k] = l := List.set_getElem_self hk
    have hat : ∀ j, j < 7 → (fl rc l)[k * 7 + j]? = (rc l[k])[j]? := fun j hj => fl_at (enc := rc) rc_len hk hj
    have hfl : (fl rc l).length = l.length * 7 := fl_len rc_len l
    rw [hmark, ← hset]
    generalize l[k] = x at *
    obtain ⟨xu, xd, a1, n1, c1, a2, n2, c2, q, st, xt⟩ := x
    simp only at hE
    clear hmark
    cases st with
    | true =>
      have hfin : setL (fl rc l) (k * 7) (rc ⟨xu, xd, a1, n1, c1, a2, n2, c2, q, true, xt⟩) = fl rc l := by
        simp only [if_true] at hset
        rw [hset, hsame]
      simp only [if_true]
      rw [hfin]
      clear hset hsame hat hfin
      go_enter Try.func11, Try.ntmps11
      go_wp2_with fail
      refine Hfind.mono ?_
      rintro e w1 ⟨rfl, o1⟩
      have s1 := sB.quiet o1
      clear o1 sB
      obtain ⟨e0, e1, e2, e3, e4, e5, e6⟩ := hE w1 s1
      have hBc := cell_of_one s1.tail.head
      go_wp2_with fail
      go_ret
      exact ⟨rfl, s1⟩
    | false =>
      have hfin : setL (fl rc l) (k * 7) (rc ⟨xu, xd, a1, n1, c1, a2, n2, c2, q, true, t⟩) = setL (setL (fl rc l) (k * 7 + 5) [.bool true]) (k * 7 + 6) [.float .f64 t] := by
        have H0 : (fl rc l)[k * 7]? = some (.int .i64 xu) := hat 0 (by omega)
        have H1 : (fl rc l)[k * 7 + 1]? = some (.int .i64 xd) := hat 1 (by omega)
        have H2 : (fl rc l)[k * 7 + 2]? = some (.slice a1 n1 c1) := hat 2 (by omega)
        have H3 : (fl rc l)[k * 7 + 3]? = some (.slice a2 n2 c2) := hat 3 (by omega)
        have H4 : (fl rc l)[k * 7 + 4]? = some (.pointer q) := hat 4 (by omega)
        show ((((((((fl rc l).set (k * 7) _).set (k * 7 + 1) _).set (k * 7 + 2) _).set (k * 7 + 3) _).set (k * 7 + 4) _).set (k * 7 + 5) _).set (k * 7 + 6) _) = ((fl rc l).set (k * 7 + 5) _).set (k * 7 + 6) _
        rw [set_same H0, set_same H1, set_same H2, set_same H3, set_same H4]
      simp only [Bool.false_eq_true, if_false]
      rw [hfin]
      have e6' : Hid ((setL (fl rc l) (k * 7 + 5) [.bool true])[k * 7 + 6]? = some (.float .f64 xt)) := by
        show _ = _
        have := hat 6 (by omega)
        simp only [setL]
        rw [List.getElem?_set_ne (by omega), this]
        rfl
      clear hset hsame hat hfin
      go_enter Try.func11, Try.ntmps11
      go_wp2_with fail
      refine Hfind.mono ?_
      rintro e w1 ⟨rfl, o1⟩
      have s1 := sB.quiet o1
      clear o1 sB
      obtain ⟨e0, e1, e2, e3, e4, e5, e6⟩ := hE w1 s1
      have hB : w1.heap[B]? = some (.cells #[.slice (some ⟨g, 0, none⟩) l.length c] 68 (0, 0)) := s1.tail.head
      have hBc := cell_of_one hB
      have hBg : B ∉ [g] := by
        have := s1.apart
        rw [List.pairwise_cons] at this
        have h1 := this.1 (blk B [.slice (some ⟨g, 0, none⟩) l.length c] 68) (by simp) g (by simp [row, Value.ownBlock])
        simp only [List.mem_singleton]
        rintro rfl
        exact h1 (by simp [blk])
      go_upto_region 3 with fail
      have sD := s1.quiet (Only.drew w1 [])
      clear s1
      refine wp_region_t (S := fun w' => Only w1.drew w' [g]) 16 (by kernel_rfl) (by kernel_rfl) (Only.refl _ _) (fun hZ hHeld => ?_)
      refine' wpAnyT_take (i := 0) (v := _) hZ (op_at' rfl) (by rfl) (by kernel_rfl) (by kernel_rfl) (by kernel_rfl) (by kernel_rfl) (fun _ _ _ h => h) (Or.inl ⟨by rfl, ?hy1⟩) (by assumption) ?rest1
      case hy1 =>
        intro w' hS
        go_simp
        try with_reducible rfl
      try simp only [Act.put, List.setIfInBounds_toArray, List.set_cons_zero, List.set_cons_succ]
      refine' wpAnyT_take (i := 1) (v := _) hZ (op_at' rfl) (by rfl) (by kernel_rfl) (by kernel_rfl) (by kernel_rfl) (by kernel_rfl) (fun _ _ _ h => h) (Or.inl ⟨by rfl, ?hy2⟩) (by assumption) ?rest2
      case hy2 =>
        intro w' hS
        have hc0 := cell_of_one (hS.at (show w1.drew.heap[B]? = _ from hB) hBg)
        go_simp
        try with_reducible rfl
      try simp only [Act.put, List.setIfInBounds_toArray, List.set_cons_zero, List.set_cons_succ]
      refine' wpAnyT_take (i := 2) (v := _) hZ (op_at' rfl) (by rfl) (by kernel_rfl) (by kernel_rfl) (by kernel_rfl) (by kernel_rfl) (fun _ _ _ h => h) (Or.inl ⟨by rfl, ?hy3⟩) (by assumption) ?rest3
      case hy3 =>
        intro w' hS
        go_simp
        try with_reducible rfl
      try simp only [Act.put, List.setIfInBounds_toArray, List.set_cons_zero, List.set_cons_succ]
      refine' wpAnyT_take (i := 3) (v := _) hZ (op_at' rfl) (by rfl) (by kernel_rfl) (by kernel_rfl) (by kernel_rfl) (by kernel_rfl) (fun _ _ _ h => h) (Or.inl ⟨by rfl, ?hy4⟩) (by assumption) ?rest4
      case hy4 =>
        intro w' hS
        have hc0 := cell_of_one (hS.at (show w1.drew.heap[B]? = _ from hB) hBg)
        go_simp
        try with_reducible rfl
      try simp only [Act.put, List.setIfInBounds_toArray, List.set_cons_zero, List.set_cons_succ]
      refine' wpAnyT_take (i := 4) (v := _) hZ (op_at' rfl) (by rfl) (by kernel_rfl) (by kernel_rfl) (by kernel_rfl) (by kernel_rfl) (fun _ _ _ h => h) (Or.inl ⟨by rfl, ?hy5⟩) (by assumption) ?rest5
      case hy5 =>
        intro w' hS
        go_simp
        try with_reducible rfl
      try simp only [Act.put, List.setIfInBounds_toArray, List.set_cons_zero, List.set_cons_succ]
      refine' wpAnyT_take (i := 5) (v := _) hZ (op_at' rfl) (by rfl) (by kernel_rfl) (by kernel_rfl) (by kernel_rfl) (by kernel_rfl) (fun _ _ _ h => h) (Or.inl ⟨by rfl, ?hy6⟩) (by assumption) ?rest6
      case hy6 =>
        intro w' hS
        go_simp
        try with_reducible rfl
      try simp only [Act.put, List.setIfInBounds_toArray, List.set_cons_zero, List.set_cons_succ]
      refine' wpAnyT_take (i := 6) (v := _) hZ (op_at' rfl) (by rfl) (by kernel_rfl) (by kernel_rfl) (by kernel_rfl) (by kernel_rfl) (fun _ _ _ h => h) (Or.inl ⟨by rfl, ?hy7⟩) (by assumption) ?rest7
      case hy7 =>
        intro w' hS
        have hc0 := cell_of_one (hS.at (show w1.drew.heap[B]? = _ from hB) hBg)
        go_simp
        try with_reducible rfl
      try simp only [Act.put, List.setIfInBounds_toArray, List.set_cons_zero, List.set_cons_succ]
      refine' wpAnyT_take (i := 7) (v := _) hZ (op_at' rfl) (by rfl) (by kernel_rfl) (by kernel_rfl) (by kernel_rfl) (by kernel_rfl) (fun _ _ _ h => h) (Or.inl ⟨by rfl, ?hy8⟩) (by assumption) ?rest8
      case hy8 =>
        intro w' hS
        go_simp
        try with_reducible rfl
      try simp only [Act.put, List.setIfInBounds_toArray, List.set_cons_zero, List.set_cons_succ]
      refine' wpAnyT_take (i := 8) (v := _) hZ (op_at' rfl) (by rfl) (by kernel_rfl) (by kernel_rfl) (by kernel_rfl) (by kernel_rfl) (fun _ _ _ h => h) (Or.inl ⟨by rfl, ?hy9⟩) (by assumption) ?rest9
      case hy9 =>
        intro w' hS
        have hc0 := cell_of_one (hS.at (show w1.drew.heap[B]? = _ from hB) hBg)
        go_simp
        try with_reducible rfl
      try simp only [Act.put, List.setIfInBounds_toArray, List.set_cons_zero, List.set_cons_succ]
      refine' wpAnyT_take (i := 9) (v := _) hZ (op_at' rfl) (by rfl) (by kernel_rfl) (by kernel_rfl) (by kernel_rfl) (by kernel_rfl) (fun _ _ _ h => h) (Or.inl ⟨by rfl, ?hy10⟩) (by assumption) ?rest10
      case hy10 =>
        intro w' hS
        go_simp
        try with_reducible rfl
      try simp only [Act.put, List.setIfInBounds_toArray, List.set_cons_zero, List.set_cons_succ]
      refine' wpAnyT_take (i := 10) (v := _) hZ (op_at' rfl) (by rfl) (by kernel_rfl) (by kernel_rfl) (by kernel_rfl) (by kernel_rfl) (fun _ _ _ h => h) (Or.inl ⟨by rfl, ?hy11⟩) (by assumption) ?rest11
      case hy11 =>
        intro w' hS
        go_simp
        try with_reducible rfl
      try simp only [Act.put, List.setIfInBounds_toArray, List.set_cons_zero, List.set_cons_succ]
      refine' wpAnyT_take (i := 11) (v := _) hZ (op_at' rfl) (by rfl) (by kernel_rfl) (by kernel_rfl) (by kernel_rfl) (by kernel_rfl) (fun _ _ _ h => h) (Or.inl ⟨by rfl, ?hy12⟩) (by assumption) ?rest12
      case hy12 =>
        intro w' hS
        go_simp
        try with_reducible rfl
      try simp only [Act.put, List.setIfInBounds_toArray, List.set_cons_zero, List.set_cons_succ]
      refine' wpAnyT_take (i := 12) (v := _) hZ (op_at' rfl) (by rfl) (by kernel_rfl) (by kernel_rfl) (by kernel_rfl) (by kernel_rfl) (fun _ _ _ h => h) (Or.inl ⟨by rfl, ?hy13⟩) (by assumption) ?rest13
      case hy13 =>
        intro w' hS
        go_simp
        try with_reducible rfl
      try simp only [Act.put, List.setIfInBounds_toArray, List.set_cons_zero, List.set_cons_succ]
      refine wpAnyT_one (i := 13) (by kernel_rfl) (op_at' rfl) (fun K hK => ?_)
      refine step_store_rec (by rfl) 4 _ _ (by rfl) g (k * 7 + 5) (.bool true) [.bool true] (by rfl) 36 7 l.length c _ (by rfl) (by rfl) sD (by simp; omega) (by kernel_rfl) (by simp [Value.oneCell']) (fun w13 o13 s13 => ?_)
      go_wp2_with fail
      refine hK.out _ _ o13 (fun hHeld => ?_)
      clear hK K
      try simp only [Act.put, List.setIfInBounds_toArray, List.set_cons_zero, List.set_cons_succ]
      refine' wpAnyT_take (i := 14) (v := _) hZ (op_at' rfl) (by rfl) (by kernel_rfl) (by kernel_rfl) (by kernel_rfl) (by kernel_rfl) (fun _ _ _ h => h) (Or.inl ⟨by rfl, ?hy14⟩) (by assumption) ?rest14
      case hy14 =>
        intro w' hS
        go_simp
        try with_reducible rfl
      try simp only [Act.put, List.setIfInBounds_toArray, List.set_cons_zero, List.set_cons_succ]
      refine' wpAnyT_take (i := 15) (v := _) hZ (op_at' rfl) (by rfl) (by kernel_rfl) (by kernel_rfl) (by kernel_rfl) (by kernel_rfl) (fun _ _ _ h => h) (Or.inl ⟨by rfl, ?hy15⟩) (by assumption) ?rest15
      case hy15 =>
        intro w' hS
        go_simp
        try with_reducible rfl
      try simp only [Act.put, List.setIfInBounds_toArray, List.set_cons_zero, List.set_cons_succ]
      refine wpAnyT_last (by kernel_rfl) (op_at' rfl) (by kernel_rfl) (fun K hK => ?_)
      refine step_store_rec (by rfl) 22 _ _ (by rfl) g (k * 7 + 6) (.float .f64 t) [.float .f64 t] (by rfl) 36 7 l.length c _ (by rfl) (by rfl) s13 (by simp; omega) (by kernel_rfl) (by simp [Value.oneCell']) (fun w16 o16 s16 => ?_)
      go_wp2_with fail
      refine hK.out _ _ ?_
      clear hK K
      try simp only [Act.put, List.setIfInBounds_toArray, List.set_cons_zero, List.set_cons_succ]
      go_wp2_with fail
      go_ret
      exact ⟨rfl, s16⟩
  | false =>
    have hg : markL l u d t = l := by
      unfold markL
      rw [hf]
      rfl
    rw [hg]
    rw [hf] at Hfind
    clear hg
    go_enter Try.func11, Try.ntmps11
    go_wp2_with fail
    refine Hfind.mono ?_
    rintro e w1 ⟨rfl, o1⟩
    have s1 := sB.quiet o1
    clear o1 sB
    go_wp2_with fail
    go_ret
    exact ⟨rfl, s1⟩
end Go.Proofs.Ytdlbkdnpbcpjfaa

/- Put (a new record), Drop of layer 16 (record). -/
namespace Go.Proofs.Ytdlbkdnpbcpjfaa
open Go.RowKit Go.Pw Go.Pw.Fl
set_option linter.unusedVariables false

theorem place_le (l : List Re) (u d : Int) : placeL l u d ≤ l.length := List.findIdx_le_length
theorem fl_ins (l : List Re) (k : Nat) (hk : k ≤ l.length) (x : Re) : (fl rc l).take (k * 7) ++ rc x ++ (fl rc l).drop (k * 7) = fl rc (l.take k ++ x :: l.drop k) := by
  rw [fl_take rc_len, fl_drop rc_len, fl_app, fl_cons, List.append_assoc]
theorem rc_one (x : Re) : ∀ u ∈ rc x, u.oneCell' = true := by simp [rc, Value.oneCell']

/-- What Put leaves where nothing of the device is known. -/
def PutNew (w0 w : World) (rs : List Res) (B : Nat) (l : List Re) (u d : Int) (a1 : Option Addr) (n1 c1 : Nat) (a2 : Option Addr) (n2 c2 : Nat) (e : Ending) (w' : World) : Prop :=
  ∃ v' X, e = .returned (.tuple #[]) ∧ Sep w0 w' (row 36 7 v' (l.length + 1) (fl rc (l.take (placeL l u d) ++ ⟨u, d, a1, n1, c1, a2, n2, c2, some ⟨X, 0, none⟩, false, 0⟩ :: l.drop (placeL l u d))) :: blk B [v'] 68 :: blk X [.slice none 0 0] 74 :: rs)

set_option maxRecDepth 100000 in
set_option maxHeartbeats 1600000 in
theorem put_new {w0 : World} {rs : List Res} (B : Nat) (l : List Re) (v : Value) (u d : Int) (a1 : Option Addr) (n1 c1 : Nat) (a2 : Option Addr) (n2 c2 : Nat) (w : World) (h : Sep w0 w (row 36 7 v l.length (fl rc l) :: blk B [v] 68 :: rs)) (hl : l.length ≤ 1000000) (hr : Rise l) (hf : foundL l u d = false) :
    Calls Try.prog 8 #[.pointer (some ⟨B, 0, none⟩), wv u d, .agg #[.slice a1 n1 c1, .slice a2 n2 c2]] w (PutNew w0 w rs B l u d a1 n1 c1 a2 n2 c2) := by
  simp only [wv]
  obtain ⟨ao, c, rfl⟩ := own_slice (show w.ownsRow 0 _ 7 v l.length (fl rc l) from h.head)
  have t1 := (h.box [.int .i64 u, .int .i64 d] 26).box [.slice a1 n1 c1, .slice a2 n2 c2] 30
  have eS : (w.alloc (.cells #[.int .i64 u, .int .i64 d] 26)).heap.size = w.heap.size + 1 := by simp
  rw [eS] at t1
  have sB : Sep w0 _ (row 36 7 (.slice ao l.length c) l.length (fl rc l) :: blk B [.slice ao l.length c] 68 :: blk w.heap.size [.int .i64 u, .int .i64 d] 26 :: blk (w.heap.size + 1) [.slice a1 n1 c1, .slice a2 n2 c2] 30 :: rs) := t1.sel 4 [2, 3, 1, 0]
  clear t1 h
  have Hfind := find_any B l _ u d _ sB hl hr
  rw [hf] at Hfind
  have eP : PutNew w0 w rs B l u d a1 n1 c1 a2 n2 c2 = fun e w' => ∃ v' X, e = .returned (.tuple #[]) ∧ Sep w0 w' (row 36 7 v' (l.length + 1) ((fl rc l).take (placeL l u d * 7) ++ rc ⟨u, d, a1, n1, c1, a2, n2, c2, some ⟨X, 0, none⟩, false, 0⟩ ++ (fl rc l).drop (placeL l u d * 7)) :: blk B [v'] 68 :: blk X [.slice none 0 0] 74 :: rs) := by
    funext e w'
    simp only [fl_ins _ _ (place_le l u d)]
    rfl
  rw [eP]
  clear eP
  have hkl := place_le l u d
  clear hr hf
  generalize placeL l u d = k at *
  obtain ⟨vv, hvv⟩ : ∃ vv : Value, vv = .slice ao l.length c := ⟨_, rfl⟩
  go_enter Try.func8, Try.ntmps8
  go_wp2_with fail
  refine Hfind.mono ?_
  rintro e w1 ⟨rfl, o1⟩
  have s1 := sB.quiet o1
  clear o1 sB Hfind
  go_upto_region 4 with fail
  generalize w.heap.size + 1 = A5 at *
  generalize w.heap.size = A4 at *
  rw [← hvv] at s1
  clear hvv
  have hB : w1.heap[B]? = some (.cells #[vv] 68 (0, 0)) := (s1.sel 2 [1]).head
  have h4 : w1.heap[A4]? = some (.cells #[.int .i64 u, .int .i64 d] 26 (0, 0)) := (s1.sel 3 [2]).head
  have h5 : w1.heap[A5]? = some (.cells #[.slice a1 n1 c1, .slice a2 n2 c2] 30 (0, 0)) := (s1.sel 4 [3]).head
  have hBg : B ∉ vv.ownBlock.toList := fun hk => s1.two_at (i := 0) (j := 1) rfl rfl (by decide) B hk (by simp [blk])
  have h4g : A4 ∉ vv.ownBlock.toList := fun hk => s1.two_at (i := 0) (j := 2) rfl rfl (by decide) A4 hk (by simp [blk])
  have h5g : A5 ∉ vv.ownBlock.toList := fun hk => s1.two_at (i := 0) (j := 3) rfl rfl (by decide) A5 hk (by simp [blk])
  have hnew : vv.ownBlock ≠ some (w1.heap.size + 1) := fun he => by
    have := (row 36 7 vv l.length (fl rc l)).lt w1 s1.head (w1.heap.size + 1) (by simp [row, he])
    omega
  have sD := ((s1.sel 4 [0, 1]).quiet (Only.drew w1 []))
  clear s1
  refine wp_region_t (S := fun w' => Only w1.drew w' vv.ownBlock.toList) 15 (by kernel_rfl) (by kernel_rfl) (Only.refl _ _) (fun hZ hHeld => ?_)
  refine' wpAnyT_take (i := 0) (v := _) hZ (op_at' rfl) (by rfl) (by kernel_rfl) (by kernel_rfl) (by kernel_rfl) (by kernel_rfl) (fun _ _ _ h => h) (Or.inl ⟨by rfl, ?hy1⟩) (by assumption) ?rest1
  case hy1 =>
    intro w' hS
    go_simp
    try with_reducible rfl
  try simp only [Act.put, List.setIfInBounds_toArray, List.set_cons_zero, List.set_cons_succ]
  refine' wpAnyT_take (i := 1) (v := _) hZ (op_at' rfl) (by rfl) (by kernel_rfl) (by kernel_rfl) (by kernel_rfl) (by kernel_rfl) (fun _ _ _ h => h) (Or.inl ⟨by rfl, ?hy2⟩) (by assumption) ?rest2
  case hy2 =>
    intro w' hS
    go_simp
    try with_reducible rfl
  try simp only [Act.put, List.setIfInBounds_toArray, List.set_cons_zero, List.set_cons_succ]
  refine' wpAnyT_take (i := 2) (v := _) hZ (op_at' rfl) (by rfl) (by kernel_rfl) (by kernel_rfl) (by kernel_rfl) (by kernel_rfl) (fun _ _ _ h => h) (Or.inl ⟨by rfl, ?hy3⟩) (by assumption) ?rest3
  case hy3 =>
    intro w' hS
    go_simp
    try with_reducible rfl
  try simp only [Act.put, List.setIfInBounds_toArray, List.set_cons_zero, List.set_cons_succ]
  refine' wpAnyT_take (i := 3) (v := _) hZ (op_at' rfl) (by rfl) (by kernel_rfl) (by kernel_rfl) (by kernel_rfl) (by kernel_rfl) (fun _ _ _ h => h) (Or.inl ⟨by rfl, ?hy4⟩) (by assumption) ?rest4
  case hy4 =>
    intro w' hS
    go_simp
    try with_reducible rfl
  try simp only [Act.put, List.setIfInBounds_toArray, List.set_cons_zero, List.set_cons_succ]
  refine' wpAnyT_take (i := 4) (v := _) hZ (op_at' rfl) (by rfl) (by kernel_rfl) (by kernel_rfl) (by kernel_rfl) (by kernel_rfl) (fun _ _ _ h => h) (Or.inl ⟨by rfl, ?hy5⟩) (by assumption) ?rest5
  case hy5 =>
    intro w' hS
    have hc0 := cell_of_one (hS.at (show w1.drew.heap[B]? = _ from hB) hBg)
    go_simp
    try with_reducible rfl
  try simp only [Act.put, List.setIfInBounds_toArray, List.set_cons_zero, List.set_cons_succ]
  refine' wpAnyT_take (i := 5) (v := _) hZ (op_at' rfl) (by rfl) (by kernel_rfl) (by kernel_rfl) (by kernel_rfl) (by kernel_rfl) (fun _ _ _ h => h) (Or.inl ⟨by rfl, ?hy6⟩) (by assumption) ?rest6
  case hy6 =>
    intro w' hS
    go_simp
    try with_reducible rfl
  try simp only [Act.put, List.setIfInBounds_toArray, List.set_cons_zero, List.set_cons_succ]
  refine' wpAnyT_take (i := 6) (v := _) hZ (op_at' rfl) (by rfl) (by kernel_rfl) (by kernel_rfl) (by kernel_rfl) (by kernel_rfl) (fun _ _ _ h => h) (Or.inl ⟨by rfl, ?hy7⟩) (by assumption) ?rest7
  case hy7 =>
    intro w' hS
    have ht := hS.at (show w1.drew.heap[A4]? = _ from h4) h4g
    have ht0 := cell_two0 ht
    have ht1 := cell_two1 ht
    go_simp
    try with_reducible rfl
  try simp only [Act.put, List.setIfInBounds_toArray, List.set_cons_zero, List.set_cons_succ]
  refine' wpAnyT_take (i := 7) (v := _) hZ (op_at' rfl) (by rfl) (by kernel_rfl) (by kernel_rfl) (by kernel_rfl) (by kernel_rfl) (fun _ _ _ h => h) (Or.inl ⟨by rfl, ?hy8⟩) (by assumption) ?rest8
  case hy8 =>
    intro w' hS
    have ht := hS.at (show w1.drew.heap[A5]? = _ from h5) h5g
    have ht0 := cell_two0 ht
    have ht1 := cell_two1 ht
    go_simp
    try with_reducible rfl
  try simp only [Act.put, List.setIfInBounds_toArray, List.set_cons_zero, List.set_cons_succ]
  refine' wpAnyT_take (i := 8) (v := _) hZ (op_at' rfl) (by rfl) (by kernel_rfl) (by kernel_rfl) (by kernel_rfl) (by kernel_rfl) (fun _ _ _ h => h) (Or.inl ⟨by rfl, ?hy9⟩) (by assumption) ?rest9
  case hy9 =>
    intro w' hS
    go_simp
    try with_reducible rfl
  try simp only [Act.put, List.setIfInBounds_toArray, List.set_cons_zero, List.set_cons_succ]
  refine wpAnyT_one (i := 9) (by kernel_rfl) (op_at' rfl) (fun K hK => ?_)
  go_simp
  go_wp2_with fail
  refine hK.out _ _ (Only.alloc _ _ _) (fun hHeld => ?_)
  clear hK K
  try simp only [Act.put, List.setIfInBounds_toArray, List.set_cons_zero, List.set_cons_succ]
  refine' wpAnyT_take (i := 10) (v := _) hZ (op_at' rfl) (by rfl) (by kernel_rfl) (by kernel_rfl) (by kernel_rfl) (by kernel_rfl) (fun _ _ _ h => h) (Or.inl ⟨by rfl, ?hy10⟩) (by assumption) ?rest10
  case hy10 =>
    intro w' hS
    go_simp
    try with_reducible rfl
  try simp only [Act.put, List.setIfInBounds_toArray, List.set_cons_zero, List.set_cons_succ]
  refine wpAnyT_one (i := 11) (by kernel_rfl) (op_at' rfl) (fun K hK => ?_)
  go_simp
  go_wp2_with fail
  refine hK.out _ _ ((Only.alloc _ _ _).trans (Only.alloc _ _ _)) (fun hHeld => ?_)
  clear hK K
  try simp only [Act.put, List.setIfInBounds_toArray, List.set_cons_zero, List.set_cons_succ]
  refine wpAnyT_one (i := 12) (by kernel_rfl) (op_at' rfl) (fun K hK => ?_)
  go_simp
  have s3 : Sep w0 _ (row 36 7 vv l.length (fl rc l) :: blk B [vv] 68 :: blk w1.heap.size [.slice none 0 0] 74 :: rs) := ((sD.box [.slice none 0 0] 74).quiet (Only.alloc _ (.cells #[.int .i64 u, .int .i64 d, .slice a1 n1 c1, .slice a2 n2 c2, .pointer (some ⟨w1.heap.size, 0, none⟩), .bool false, .float .f64 0] 36) [])).sel 3 [1, 2, 0]
  have hvb := heap_alloc_new (w1.drew.alloc (.cells #[.slice none 0 0] 74)) (.cells #[.int .i64 u, .int .i64 d, .slice a1 n1 c1, .slice a2 n2 c2, .pointer (some ⟨w1.heap.size, 0, none⟩), .bool false, .float .f64 0] 36)
  have eS2 : (w1.drew.alloc (.cells #[.slice none 0 0] 74)).heap.size = w1.heap.size + 1 := by simp
  rw [eS2] at hvb
  refine (ins_any vv l.length k (fl rc l) (rc ⟨u, d, a1, n1, c1, a2, n2, c2, some ⟨w1.heap.size, 0, none⟩, false, 0⟩) (w1.heap.size + 1) _ s3 hl hkl rfl hvb hnew (fl_one rc_one l) (rc_one _)).mono fun e w12 hq => ?_
  obtain ⟨v12, rfl, o12, s12⟩ := hq
  obtain ⟨a12, c12, rfl⟩ := own_slice (show w12.ownsRow 0 36 7 v12 (l.length + 1) _ from s12.head)
  go_wp2_with fail
  refine hK.out _ _ (((Only.alloc _ _ _).trans (Only.alloc _ _ _)).trans o12) (fun hHeld => ?_)
  clear hK K
  try simp only [Act.put, List.setIfInBounds_toArray, List.set_cons_zero, List.set_cons_succ]
  refine' wpAnyT_take (i := 13) (v := _) hZ (op_at' rfl) (by rfl) (by kernel_rfl) (by kernel_rfl) (by kernel_rfl) (by kernel_rfl) (fun _ _ _ h => h) (Or.inl ⟨by rfl, ?hy11⟩) (by assumption) ?rest11
  case hy11 =>
    intro w' hS
    go_simp
    try with_reducible rfl
  try simp only [Act.put, List.setIfInBounds_toArray, List.set_cons_zero, List.set_cons_succ]
  refine' wpAnyT_take (i := 14) (v := _) hZ (op_at' rfl) (by rfl) (by kernel_rfl) (by kernel_rfl) (by kernel_rfl) (by kernel_rfl) (fun _ _ _ h => h) (Or.inl ⟨by rfl, ?hy12⟩) (by assumption) ?rest12
  case hy12 =>
    intro w' hS
    go_simp
    try with_reducible rfl
  try simp only [Act.put, List.setIfInBounds_toArray, List.set_cons_zero, List.set_cons_succ]
  refine wpAnyT_last (by kernel_rfl) (op_at' rfl) (by kernel_rfl) (fun K hK => ?_)
  refine step_store_blk (by rfl) 46 _ _ (by rfl) B 0 (.slice a12 (l.length + 1) c12) [.slice a12 (l.length + 1) c12] [vv] 68 (by rfl) (by rfl) (by rfl) (s12.sel 3 [1, 0, 2]) (by simp) (by kernel_rfl) (by simp [Value.oneCell']) (fun w15 o15 s15 => ?_)
  go_wp2_with fail
  refine hK.out _ _ ?_
  clear hK K
  try simp only [Act.put, List.setIfInBounds_toArray, List.set_cons_zero, List.set_cons_succ]
  go_wp2_with fail
  refine bodyPost_ret (v := .tuple #[]) (by simp [results, Try.results8, go_sem]) rfl ?_
  exact ⟨_, w1.heap.size, rfl, s15.sel 3 [1, 0, 2]⟩

theorem put_nil (u d : Int) (a1 : Option Addr) (n1 c1 : Nat) (a2 : Option Addr) (n2 c2 : Nat) (w : World) :
    Calls Try.prog 8 #[.pointer none, wv u d, .agg #[.slice a1 n1 c1, .slice a2 n2 c2]] w fun e w' => e = .returned (.tuple #[]) ∧ Only w w' [] := by
  simp only [wv]
  go_enter Try.func8, Try.ntmps8
  go_wp2_with fail
  refine bodyPost_ret (v := .tuple #[]) (by simp [results, Try.results8, go_sem]) rfl ?_
  exact ⟨rfl, (Only.alloc _ _ _).trans (Only.alloc _ _ _)⟩
theorem drop_nil (now long : Nat) (w : World) :
    Calls Try.prog 10 #[.pointer none, .float .f64 now, .float .f64 long] w fun e w' => e = .returned (.int .i64 0) ∧ Only w w' [] := by
  go_enter Try.func10, Try.ntmps10
  go_wp2_with fail
  go_ret
  exact ⟨rfl, (Only.alloc _ _ _).trans (Only.alloc _ _ _)⟩
theorem all_nil (w : World) :
    Calls Try.prog 20 #[.pointer none] w fun e w' => e = .returned (.slice none 0 0) ∧ Only w w' [] := by
  go_enter Try.func20, Try.ntmps20
  go_wp2_with fail
  go_ret
  exact ⟨rfl, Only.refl _ _⟩

def Dropped (w0 : World) (rs : List Res) (B : Nat) (l : List Re) (now long : Nat) (e : Ending) (w' : World) : Prop :=
  e = .returned (.int .i64 ((l.length : Int) - (rkp now long l).length)) ∧ ∃ v', Sep w0 w' (row 36 7 v' (rkp now long l).length (fl rc (rkp now long l)) :: blk B [v'] 68 :: rs)

set_option maxHeartbeats 1600000 in
theorem drop_any {w0 : World} {rs : List Res} (B : Nat) (l : List Re) (v : Value) (now long : Nat) (w : World) (h : Sep w0 w (row 36 7 v l.length (fl rc l) :: blk B [v] 68 :: rs)) (hl : l.length ≤ 1000000) :
    Calls Try.prog 10 #[.pointer (some ⟨B, 0, none⟩), .float .f64 now, .float .f64 long] w (Dropped w0 rs B l now long) := by
  obtain ⟨ao, c, rfl⟩ := own_slice (show w.ownsRow 0 _ 7 v l.length (fl rc l) from h.head)
  have t1 := (h.box [.float .f64 now] 22).box [.float .f64 long] 22
  have eS : (w.alloc (.cells [.float .f64 now].toArray 22)).heap.size = w.heap.size + 1 := by simp
  rw [eS] at t1
  have s2 : Sep w0 _ (row 36 7 (.slice ao l.length c) l.length (fl rc l) :: two (blk w.heap.size [.float .f64 now] 22) (blk (w.heap.size + 1) [.float .f64 long] 22) :: blk B [.slice ao l.length c] 68 :: rs) :=
    ((t1.sel 4 [1, 0, 2, 3] : Sep w0 _ (blk w.heap.size [.float .f64 now] 22 :: blk (w.heap.size + 1) [.float .f64 long] 22 :: row 36 7 (.slice ao l.length c) l.length (fl rc l) :: blk B [.slice ao l.length c] 68 :: rs)).join).sel 2 [1, 0]
  have Hd := rdelete_any w.heap.size (w.heap.size + 1) now long _ l _ s2 hl
  have hB : ((w.alloc (.cells [.float .f64 now].toArray 22)).alloc (.cells [.float .f64 long].toArray 22)).heap[B]? = some (.cells #[.slice ao l.length c] 68 (0, 0)) := (s2.sel 3 [2]).head
  have hBc := cell_of_one hB
  clear h t1
  go_enter Try.func10, Try.ntmps10
  go_wp2_with fail
  refine Hd.mono ?_
  rintro e w1 ⟨v1, rfl, s3⟩
  have hle : (rkp now long l).length ≤ l.length := List.length_filter_le _ _
  obtain ⟨a1, c1, rfl⟩ := own_slice (show w1.ownsRow 0 36 7 v1 (rkp now long l).length (fl rc (rkp now long l)) from s3.head)
  have s4 : Sep w0 w1 (blk B [.slice ao l.length c] 68 :: row 36 7 (.slice a1 (rkp now long l).length c1) (rkp now long l).length (fl rc (rkp now long l)) :: rs) := s3.sel 3 [2, 0]
  have hB1 : w1.heap[B]? = some (.cells #[.slice ao l.length c] 68 (0, 0)) := s4.head
  have hBc1 := cell_of_one hB1
  have hBf1 := free_in hB1 0
  have s5 := s4.put 0 (.slice a1 (rkp now long l).length c1)
  have s6 : Sep w0 _ (row 36 7 (.slice a1 (rkp now long l).length c1) (rkp now long l).length (fl rc (rkp now long l)) :: blk B [.slice a1 (rkp now long l).length c1] 68 :: rs) := s5.sel 2 [1, 0]
  clear s2 s3 s4 s5 hB hBc hB1
  go_wp2_with fail
  go_ret
  exact ⟨rfl, _, s6⟩
end Go.Proofs.Ytdlbkdnpbcpjfaa

/- bytes.Equal, agree.Same, Queue.Len of layer 16's book. Ours. -/
namespace Go.Proofs.Ytdlbkdnpbcpjfaa
open Go.RowKit Go.Pw
set_option linter.unusedVariables false

theorem bequal_any (a b : Value) (xs ys : List Int) (w : World) (ha : Pw.Src w a 1 xs.length (xs.map (Value.int .u8))) (hb : Pw.Src w b 1 ys.length (ys.map (Value.int .u8))) (bx : ∀ x ∈ xs, 0 ≤ x ∧ x < 256) (by' : ∀ x ∈ ys, 0 ≤ x ∧ x < 256) :
    Calls Try.prog 60 #[a, b] w fun e w' => e = .returned (.bool (decide (xs = ys))) ∧ w = w' := by
  obtain ⟨ao, c, rfl, _⟩ := id ha
  obtain ⟨bo, c', rfl, _⟩ := id hb
  have hsa := run_str (P := Try.prog) (S := 28) (T := 9) Try.underlying28 Try.underlying5 Try.underlying9 ha rfl
  have hsb := run_str (P := Try.prog) (S := 28) (T := 9) Try.underlying28 Try.underlying5 Try.underlying9 hb rfl
  have he := Lib.hid (str_beq bx by')
  clear ha hb bx by'
  go_enter Try.func60, Try.ntmps60
  go_wp2
  go_ret
  exact ⟨by rw [← he.out]; rfl, rfl⟩

/-- A block that never changes. -/
def cst (A T : Nat) (g : Nat × Nat) (cells : List Value) : Res where
  fp := [A]
  ok w := w.heap[A]? = some (.cells cells.toArray T g)
  loc w w' h k := (h A (by simp)).trans k
  lt w h k hk := by obtain rfl : k = A := by simpa using hk
                    exact (Array.getElem?_eq_some_iff.1 h).1
theorem cst_src {w : World} {A T : Nat} {g : Nat × Nat} {x : Int} (h : (cst A T g [.int .u8 x]).ok w) : Pw.Src w (.slice (some ⟨A, 0, none⟩) 1 1) 1 ([x] : List Int).length (([x] : List Int).map (Value.int .u8)) := by
  refine ⟨some ⟨A, 0, none⟩, 1, rfl, Nat.le_refl _, by unfold maxLen; omega, rfl, by simp, fun ad had i u hu => ?_⟩
  obtain rfl := Option.some.inj had
  cases i with
  | zero =>
    simp at hu
    subst hu
    have h0 : w.heap[A]? = some (.cells #[.int .u8 x] T g) := h
    show World.cell? _ ⟨A, 0 + 0, _⟩ = _
    unfold World.cell?
    rw [h0]
    rfl
  | succ j => simp at hu

set_option maxRecDepth 100000 in
set_option maxHeartbeats 1600000 in
/-- Two idents of ours: are they the same? -/
theorem same_any (A1 A2 C1 C2 : Nat) (x y : Int) (w : World) (h1 : Pw.Src w (.slice (some ⟨A1, 0, none⟩) 1 1) 1 ([x] : List Int).length (([x] : List Int).map (Value.int .u8))) (h2 : Pw.Src w (.slice (some ⟨A2, 0, none⟩) 1 1) 1 ([115] : List Int).length (([115] : List Int).map (Value.int .u8)))
    (h3 : Pw.Src w (.slice (some ⟨C1, 0, none⟩) 1 1) 1 ([y] : List Int).length (([y] : List Int).map (Value.int .u8))) (h4 : Pw.Src w (.slice (some ⟨C2, 0, none⟩) 1 1) 1 ([115] : List Int).length (([115] : List Int).map (Value.int .u8))) (hx : 0 ≤ x ∧ x < 256) (hy : 0 ≤ y ∧ y < 256) (z : Bool) (hz : decide (x = y) = z) :
    Calls Try.prog 29 #[.agg #[.slice (some ⟨A1, 0, none⟩) 1 1, .slice (some ⟨A2, 0, none⟩) 1 1], .agg #[.slice (some ⟨C1, 0, none⟩) 1 1, .slice (some ⟨C2, 0, none⟩) 1 1]] w fun e w' => e = .returned (.bool z) ∧ Only w w' [] := by
  have E1 := fun (w' : World) (o : Only w w' []) => bequal_any _ _ [x] [y] w' (h1.off o (fun _ _ _ => by simp)) (h3.off o (fun _ _ _ => by simp)) (by simpa using hx) (by simpa using hy)
  have E2 := fun (w' : World) (o : Only w w' []) => bequal_any _ _ [115] [115] w' (h2.off o (fun _ _ _ => by simp)) (h4.off o (fun _ _ _ => by simp)) (by simp) (by simp)
  rw [show decide (([x] : List Int) = [y]) = z by rw [← hz]; simp] at E1
  clear h1 h2 h3 h4 hz hx hy
  go_enter Try.func29, Try.ntmps29
  go_wp2_with (first
    | (refine wpList_box_new (op := ⟨some 2, .box 30 _, _, _, _, _⟩) rfl 30 _ rfl (.agg #[.slice (some ⟨A1, 0, none⟩) 1 1, .slice (some ⟨A2, 0, none⟩) 1 1]) rfl ?_; intro X wX oX hXl hX)
    | (refine wpList_box_new (op := ⟨some 3, .box 30 _, _, _, _, _⟩) rfl 30 _ rfl (.agg #[.slice (some ⟨C1, 0, none⟩) 1 1, .slice (some ⟨C2, 0, none⟩) 1 1]) rfl ?_; intro Y wY oY hYl hY; have x0 := cell_two0 (oY.at hX (by simp)); have x1 := cell_two1 (oY.at hX (by simp)); have y0 := cell_two0 hY; have y1 := cell_two1 hY; have o1 := oX.trans oY; clear hX hY oX oY))
  refine (E1 _ o1).mono ?_
  rintro e w1 ⟨rfl, rfl⟩
  cases z with
  | false =>
    go_wp2_with fail
    go_ret
    exact ⟨rfl, o1⟩
  | true =>
    go_wp2_with fail
    refine (E2 _ o1).mono ?_
    rintro e w2 ⟨rfl, rfl⟩
    go_wp2_with fail
    go_ret
    exact ⟨by simp, o1⟩
end Go.Proofs.Ytdlbkdnpbcpjfaa

