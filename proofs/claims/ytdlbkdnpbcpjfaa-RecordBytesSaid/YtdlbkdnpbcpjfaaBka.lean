/- Put of a known device, of layer 16 (record). Printed by gen_bka.py. -/
import Derived.Test.YtdlbkdnpbcpjfaaPd
set_option linter.unusedSimpArgs false
set_option linter.unusedVariables false
namespace Go.Proofs.Ytdlbkdnpbcpjfaa
open Go.RowKit Go.Pw
set_option linter.unusedVariables false

set_option maxRecDepth 100000 in
set_option maxHeartbeats 1600000 in
theorem put_same {w0 : World} {rs : List Res} (B : Nat) (l : List Re) (v : Value) (u d : Int) (A1 A2 C1 C2 : Nat) (q : Option Addr) (st : Bool) (t : Nat) (x y : Int) (w : World) (h : Sep w0 w (row 36 7 v l.length (fl rc l) :: blk B [v] 68 :: rs)) (hl : l.length ≤ 1000000) (hr : Rise l) (hf : foundL l u d = true) (k : Nat) (hp : placeL l u d = k) (hk : k < l.length) (hx : l[k] = ⟨u, d, some ⟨A1, 0, none⟩, 1, 1, some ⟨A2, 0, none⟩, 1, 1, q, st, t⟩)
    (h1 : (Pw.Src w (.slice (some ⟨A1, 0, none⟩) 1 1) 1 ([x] : List Int).length (([x] : List Int).map (Value.int .u8)))) (h2 : (Pw.Src w (.slice (some ⟨A2, 0, none⟩) 1 1) 1 ([115] : List Int).length (([115] : List Int).map (Value.int .u8)))) (h3 : (Pw.Src w (.slice (some ⟨C1, 0, none⟩) 1 1) 1 ([y] : List Int).length (([y] : List Int).map (Value.int .u8)))) (h4 : (Pw.Src w (.slice (some ⟨C2, 0, none⟩) 1 1) 1 ([115] : List Int).length (([115] : List Int).map (Value.int .u8)))) (hx0 : 0 ≤ x ∧ x < 256) (hy0 : 0 ≤ y ∧ y < 256) (hz : decide (x = y) = true) :
    Calls Try.prog 8 #[.pointer (some ⟨B, 0, none⟩), wv u d, .agg #[.slice (some ⟨C1, 0, none⟩) 1 1, .slice (some ⟨C2, 0, none⟩) 1 1]] w (fun e w' => e = .returned (.tuple #[]) ∧ Sep w0 w' (row 36 7 v l.length (fl rc (l.set k ⟨u, d, some ⟨A1, 0, none⟩, 1, 1, some ⟨A2, 0, none⟩, 1, 1, q, false, t⟩)) :: blk B [v] 68 :: rs)) := by
  simp only [wv]
  obtain ⟨ao, c, rfl⟩ := own_slice (show w.ownsRow 0 _ 7 v l.length (fl rc l) from h.head)
  have t1 := (h.box [.int .i64 u, .int .i64 d] 26).box [.slice (some ⟨C1, 0, none⟩) 1 1, .slice (some ⟨C2, 0, none⟩) 1 1] 30
  have oW : Only w _ [] := (Only.alloc w (.cells #[.int .i64 u, .int .i64 d] 26) []).trans (Only.alloc _ (.cells #[.slice (some ⟨C1, 0, none⟩) 1 1, .slice (some ⟨C2, 0, none⟩) 1 1] 30) [])
  have eS : (w.alloc (.cells #[.int .i64 u, .int .i64 d] 26)).heap.size = w.heap.size + 1 := by simp
  rw [eS] at t1
  have sB : Sep w0 _ (row 36 7 (.slice ao l.length c) l.length (fl rc l) :: blk B [.slice ao l.length c] 68 :: blk w.heap.size [.int .i64 u, .int .i64 d] 26 :: blk (w.heap.size + 1) [.slice (some ⟨C1, 0, none⟩) 1 1, .slice (some ⟨C2, 0, none⟩) 1 1] 30 :: rs) := t1.sel 4 [2, 3, 1, 0]
  clear t1 h
  have Hfind := find_any B l _ u d _ sB hl hr
  rw [hf, hp] at Hfind
  have Hsame := fun (w' : World) (o : Only w w' []) => same_any A1 A2 C1 C2 x y w' (h1.off o (fun _ _ _ => by simp)) (h2.off o (fun _ _ _ => by simp)) (h3.off o (fun _ _ _ => by simp)) (h4.off o (fun _ _ _ => by simp)) hx0 hy0 _ hz
  clear h1 h2 h3 h4 hx0 hy0 hz hf hp hr
  obtain ⟨g, rfl, _⟩ := own_some (show World.ownsRow _ 0 _ 7 (.slice ao l.length c) l.length (fl rc l) from sB.head) (by omega)
  have hE := fun (w1 : World) (h1 : w1.ownsRow 0 36 7 (.slice (some ⟨g, 0, none⟩) l.length c) l.length (fl rc l)) => rec_at h1 hk
  have hset := fun y => fl_set (enc := rc) (k := 7) rc_len hk y
  have hat : ∀ j, j < 7 → (fl rc l)[k * 7 + j]? = (rc l[k])[j]? := fun j hj => fl_at (enc := rc) rc_len hk hj
  rw [hx] at hE hat
  simp only at hE
  have hfl : (fl rc l).length = l.length * 7 := fl_len rc_len l
  clear hx
  go_enter Try.func8, Try.ntmps8
  go_wp2_with fail
  refine Hfind.mono ?_
  rintro e w1 ⟨rfl, o1⟩
  have s1 := sB.quiet o1
  have oV := oW.trans o1
  clear o1 sB Hfind oW
  go_upto_region 5 with fail
  generalize w.heap.size + 1 = A5 at *
  generalize w.heap.size = A4 at *
  have sD := s1.quiet (Only.drew w1 [])
  have oD := oV.trans (Only.drew w1 [])
  clear s1 oV
  refine wp_region_held_drew (S := fun w' => Only w1.drew w' []) (by kernel_rfl) (Only.refl _ _) (fun hHeld => ?_)
  refine' wpAnyH_take (i := 0) (v := _) (op_at rfl) (by kernel_rfl) (by kernel_rfl) (by kernel_rfl) (fun _ _ _ h => h) (Or.inl ⟨by rfl, ?hy1⟩) (by assumption) ?rest1
  case hy1 =>
    intro w' hS
    go_simp
    try with_reducible rfl
  try simp only [Act.put, List.setIfInBounds_toArray, List.set_cons_zero, List.set_cons_succ]
  refine' wpAnyH_take (i := 1) (v := _) (op_at rfl) (by kernel_rfl) (by kernel_rfl) (by kernel_rfl) (fun _ _ _ h => h) (Or.inl ⟨by rfl, ?hy2⟩) (by assumption) ?rest2
  case hy2 =>
    intro w' hS
    go_simp
    try with_reducible rfl
  try simp only [Act.put, List.setIfInBounds_toArray, List.set_cons_zero, List.set_cons_succ]
  refine' wpAnyH_take (i := 2) (v := _) (op_at rfl) (by kernel_rfl) (by kernel_rfl) (by kernel_rfl) (fun _ _ _ h => h) (Or.inl ⟨by rfl, ?hy3⟩) (by assumption) ?rest3
  case hy3 =>
    intro w' hS
    go_simp
    try with_reducible rfl
  try simp only [Act.put, List.setIfInBounds_toArray, List.set_cons_zero, List.set_cons_succ]
  refine' wpAnyH_take (i := 3) (v := _) (op_at rfl) (by kernel_rfl) (by kernel_rfl) (by kernel_rfl) (fun _ _ _ h => h) (Or.inl ⟨by rfl, ?hy4⟩) (by assumption) ?rest4
  case hy4 =>
    intro w' hS
    have hc0 := cell_of_one (show w'.heap[B]? = _ from ((sD.quiet hS).sel 2 [1]).head)
    go_simp
    try with_reducible rfl
  try simp only [Act.put, List.setIfInBounds_toArray, List.set_cons_zero, List.set_cons_succ]
  refine' wpAnyH_take (i := 4) (v := _) (op_at rfl) (by kernel_rfl) (by kernel_rfl) (by kernel_rfl) (fun _ _ _ h => h) (Or.inl ⟨by rfl, ?hy5⟩) (by assumption) ?rest5
  case hy5 =>
    intro w' hS
    go_simp
    try with_reducible rfl
  try simp only [Act.put, List.setIfInBounds_toArray, List.set_cons_zero, List.set_cons_succ]
  refine' wpAnyH_take (i := 5) (v := _) (op_at rfl) (by kernel_rfl) (by kernel_rfl) (by kernel_rfl) (fun _ _ _ h => h) (Or.inl ⟨by rfl, ?hy6⟩) (by assumption) ?rest6
  case hy6 =>
    intro w' hS
    go_simp
    try with_reducible rfl
  try simp only [Act.put, List.setIfInBounds_toArray, List.set_cons_zero, List.set_cons_succ]
  refine' wpAnyH_take (i := 6) (v := _) (op_at rfl) (by kernel_rfl) (by kernel_rfl) (by kernel_rfl) (fun _ _ _ h => h) (Or.inl ⟨by rfl, ?hy7⟩) (by assumption) ?rest7
  case hy7 =>
    intro w' hS
    go_simp
    try with_reducible rfl
  try simp only [Act.put, List.setIfInBounds_toArray, List.set_cons_zero, List.set_cons_succ]
  refine' wpAnyH_take (i := 7) (v := _) (op_at rfl) (by kernel_rfl) (by kernel_rfl) (by kernel_rfl) (fun _ _ _ h => h) (Or.inl ⟨by rfl, ?hy8⟩) (by assumption) ?rest8
  case hy8 =>
    intro w' hS
    obtain ⟨e0, e1, e2, e3, e4, e5, e6⟩ := hE w' ((sD.quiet hS).head)
    go_simp
    try with_reducible rfl
  try simp only [Act.put, List.setIfInBounds_toArray, List.set_cons_zero, List.set_cons_succ]
  refine' wpAnyH_take (i := 8) (v := _) (op_at rfl) (by kernel_rfl) (by kernel_rfl) (by kernel_rfl) (fun _ _ _ h => h) (Or.inl ⟨by rfl, ?hy9⟩) (by assumption) ?rest9
  case hy9 =>
    intro w' hS
    have hi_ := show w'.heap[A5]? = _ from ((sD.quiet hS).sel 4 [3]).head
    have hi0 := cell_two0 hi_
    have hi1 := cell_two1 hi_
    go_simp
    try with_reducible rfl
  try simp only [Act.put, List.setIfInBounds_toArray, List.set_cons_zero, List.set_cons_succ]
  refine wpAnyH_ready (rs := [9]) (by kernel_rfl) (by simp) (AllReadyH.cons (op_at rfl) (fun K hK => ?_) AllReadyH.nil)
  go_simp
  refine (Hsame _ oD).mono fun e w2 hq => ?_
  obtain ⟨rfl, o2⟩ := hq
  go_wp2_with fail
  refine hK.out _ _ o2 (fun hHeld => ?_)
  clear hK K
  try simp only [Act.put, List.setIfInBounds_toArray, List.set_cons_zero, List.set_cons_succ]
  refine' wpAnyH_take (i := 10) (v := _) (op_at rfl) (by kernel_rfl) (by kernel_rfl) (by kernel_rfl) (fun _ _ _ h => h) (Or.inl ⟨by rfl, ?hy10⟩) (by assumption) ?rest10
  case hy10 =>
    intro w' hS
    go_simp
    try with_reducible rfl
  try simp only [Act.put, List.setIfInBounds_toArray, List.set_cons_zero, List.set_cons_succ]
  refine wpAnyH_done (by kernel_rfl) ?_ _
  have s2 := sD.quiet o2
  clear sD o2 oD hHeld Hsame
  obtain ⟨e0, e1, e2, e3, e4, e5, e6⟩ := hE w2 s2.head
  have hBc := cell_of_one (show w2.heap[B]? = _ from (s2.sel 2 [1]).head)
  have f5 := (show w2.ownsRow 0 36 7 (.slice (some ⟨g, 0, none⟩) l.length c) l.length (fl rc l) from s2.head).frozenAt (k * 7 + 5)
  have hfin : fl rc (l.set k ⟨u, d, some ⟨A1, 0, none⟩, 1, 1, some ⟨A2, 0, none⟩, 1, 1, q, false, t⟩) = setL (fl rc l) (k * 7 + 5) [.bool false] := by
    rw [← hset]
    have H0 : (fl rc l)[k * 7]? = some (.int .i64 u) := hat 0 (by omega)
    have H1 : (fl rc l)[k * 7 + 1]? = some (.int .i64 d) := hat 1 (by omega)
    have H2 : (fl rc l)[k * 7 + 2]? = some (.slice (some ⟨A1, 0, none⟩) 1 1) := hat 2 (by omega)
    have H3 : (fl rc l)[k * 7 + 3]? = some (.slice (some ⟨A2, 0, none⟩) 1 1) := hat 3 (by omega)
    have H4 : (fl rc l)[k * 7 + 4]? = some (.pointer q) := hat 4 (by omega)
    have H6 : ((fl rc l).set (k * 7 + 5) (.bool false))[k * 7 + 6]? = some (.float .f64 t) := by
      rw [List.getElem?_set_ne (by omega)]
      exact hat 6 (by omega)
    show ((((((((fl rc l).set (k * 7) _).set (k * 7 + 1) _).set (k * 7 + 2) _).set (k * 7 + 3) _).set (k * 7 + 4) _).set (k * 7 + 5) _).set (k * 7 + 6) _) = ((fl rc l).set (k * 7 + 5) _)
    rw [set_same H0, set_same H1, set_same H2, set_same H3, set_same H4, set_same H6]
  have s3 : Sep w0 _ (row 36 7 (.slice (some ⟨g, 0, none⟩) l.length c) l.length (setL (fl rc l) (k * 7 + 5) [.bool false]) :: blk B [.slice (some ⟨g, 0, none⟩) l.length c] 68 :: rs) := Sep.puts (show Sep w0 w2 (row 36 7 (.slice (some ⟨g, 0, none⟩) l.length c) l.length (fl rc l) :: blk B [.slice (some ⟨g, 0, none⟩) l.length c] 68 :: rs) from s2.sel 4 [0, 1]) (k * 7 + 5) [.bool false]
  rw [← hfin] at s3
  clear hset hat hfin hE s2
  go_wp2_with fail
  refine bodyPost_end (v := .tuple #[]) (by simp [results, Try.results8, go_sem]) rfl ?_
  exact ⟨rfl, s3⟩

set_option maxRecDepth 100000 in
set_option maxHeartbeats 1600000 in
theorem put_other {w0 : World} {rs : List Res} (B : Nat) (l : List Re) (v : Value) (u d : Int) (A1 A2 C1 C2 : Nat) (q : Option Addr) (st : Bool) (t : Nat) (x y : Int) (w : World) (h : Sep w0 w (row 36 7 v l.length (fl rc l) :: blk B [v] 68 :: rs)) (hl : l.length ≤ 1000000) (hr : Rise l) (hf : foundL l u d = true) (k : Nat) (hp : placeL l u d = k) (hk : k < l.length) (hx : l[k] = ⟨u, d, some ⟨A1, 0, none⟩, 1, 1, some ⟨A2, 0, none⟩, 1, 1, q, st, t⟩)
    (h1 : (Pw.Src w (.slice (some ⟨A1, 0, none⟩) 1 1) 1 ([x] : List Int).length (([x] : List Int).map (Value.int .u8)))) (h2 : (Pw.Src w (.slice (some ⟨A2, 0, none⟩) 1 1) 1 ([115] : List Int).length (([115] : List Int).map (Value.int .u8)))) (h3 : (Pw.Src w (.slice (some ⟨C1, 0, none⟩) 1 1) 1 ([y] : List Int).length (([y] : List Int).map (Value.int .u8)))) (h4 : (Pw.Src w (.slice (some ⟨C2, 0, none⟩) 1 1) 1 ([115] : List Int).length (([115] : List Int).map (Value.int .u8)))) (hx0 : 0 ≤ x ∧ x < 256) (hy0 : 0 ≤ y ∧ y < 256) (hz : decide (x = y) = false) :
    Calls Try.prog 8 #[.pointer (some ⟨B, 0, none⟩), wv u d, .agg #[.slice (some ⟨C1, 0, none⟩) 1 1, .slice (some ⟨C2, 0, none⟩) 1 1]] w (fun e w' => e = .returned (.tuple #[]) ∧ ∃ X, Sep w0 w' (row 36 7 v l.length (fl rc (l.set k ⟨u, d, some ⟨C1, 0, none⟩, 1, 1, some ⟨C2, 0, none⟩, 1, 1, some ⟨X, 0, none⟩, false, 0⟩)) :: blk B [v] 68 :: blk X [.slice none 0 0] 74 :: rs)) := by
  simp only [wv]
  obtain ⟨ao, c, rfl⟩ := own_slice (show w.ownsRow 0 _ 7 v l.length (fl rc l) from h.head)
  have t1 := (h.box [.int .i64 u, .int .i64 d] 26).box [.slice (some ⟨C1, 0, none⟩) 1 1, .slice (some ⟨C2, 0, none⟩) 1 1] 30
  have oW : Only w _ [] := (Only.alloc w (.cells #[.int .i64 u, .int .i64 d] 26) []).trans (Only.alloc _ (.cells #[.slice (some ⟨C1, 0, none⟩) 1 1, .slice (some ⟨C2, 0, none⟩) 1 1] 30) [])
  have eS : (w.alloc (.cells #[.int .i64 u, .int .i64 d] 26)).heap.size = w.heap.size + 1 := by simp
  rw [eS] at t1
  have sB : Sep w0 _ (row 36 7 (.slice ao l.length c) l.length (fl rc l) :: blk B [.slice ao l.length c] 68 :: blk w.heap.size [.int .i64 u, .int .i64 d] 26 :: blk (w.heap.size + 1) [.slice (some ⟨C1, 0, none⟩) 1 1, .slice (some ⟨C2, 0, none⟩) 1 1] 30 :: rs) := t1.sel 4 [2, 3, 1, 0]
  clear t1 h
  have Hfind := find_any B l _ u d _ sB hl hr
  rw [hf, hp] at Hfind
  have Hsame := fun (w' : World) (o : Only w w' []) => same_any A1 A2 C1 C2 x y w' (h1.off o (fun _ _ _ => by simp)) (h2.off o (fun _ _ _ => by simp)) (h3.off o (fun _ _ _ => by simp)) (h4.off o (fun _ _ _ => by simp)) hx0 hy0 _ hz
  clear h1 h2 h3 h4 hx0 hy0 hz hf hp hr
  obtain ⟨g, rfl, _⟩ := own_some (show World.ownsRow _ 0 _ 7 (.slice ao l.length c) l.length (fl rc l) from sB.head) (by omega)
  have hE := fun (w1 : World) (h1 : w1.ownsRow 0 36 7 (.slice (some ⟨g, 0, none⟩) l.length c) l.length (fl rc l)) => rec_at h1 hk
  have hset := fun y => fl_set (enc := rc) (k := 7) rc_len hk y
  have hat : ∀ j, j < 7 → (fl rc l)[k * 7 + j]? = (rc l[k])[j]? := fun j hj => fl_at (enc := rc) rc_len hk hj
  rw [hx] at hE hat
  simp only at hE
  have hfl : (fl rc l).length = l.length * 7 := fl_len rc_len l
  clear hx
  go_enter Try.func8, Try.ntmps8
  go_wp2_with fail
  refine Hfind.mono ?_
  rintro e w1 ⟨rfl, o1⟩
  have s1 := sB.quiet o1
  have oV := oW.trans o1
  clear o1 sB Hfind oW
  go_upto_region 5 with fail
  generalize w.heap.size + 1 = A5 at *
  generalize w.heap.size = A4 at *
  have sD := s1.quiet (Only.drew w1 [])
  have oD := oV.trans (Only.drew w1 [])
  clear s1 oV
  refine wp_region_held_drew (S := fun w' => Only w1.drew w' []) (by kernel_rfl) (Only.refl _ _) (fun hHeld => ?_)
  refine' wpAnyH_take (i := 0) (v := _) (op_at rfl) (by kernel_rfl) (by kernel_rfl) (by kernel_rfl) (fun _ _ _ h => h) (Or.inl ⟨by rfl, ?hy11⟩) (by assumption) ?rest11
  case hy11 =>
    intro w' hS
    go_simp
    try with_reducible rfl
  try simp only [Act.put, List.setIfInBounds_toArray, List.set_cons_zero, List.set_cons_succ]
  refine' wpAnyH_take (i := 1) (v := _) (op_at rfl) (by kernel_rfl) (by kernel_rfl) (by kernel_rfl) (fun _ _ _ h => h) (Or.inl ⟨by rfl, ?hy12⟩) (by assumption) ?rest12
  case hy12 =>
    intro w' hS
    go_simp
    try with_reducible rfl
  try simp only [Act.put, List.setIfInBounds_toArray, List.set_cons_zero, List.set_cons_succ]
  refine' wpAnyH_take (i := 2) (v := _) (op_at rfl) (by kernel_rfl) (by kernel_rfl) (by kernel_rfl) (fun _ _ _ h => h) (Or.inl ⟨by rfl, ?hy13⟩) (by assumption) ?rest13
  case hy13 =>
    intro w' hS
    go_simp
    try with_reducible rfl
  try simp only [Act.put, List.setIfInBounds_toArray, List.set_cons_zero, List.set_cons_succ]
  refine' wpAnyH_take (i := 3) (v := _) (op_at rfl) (by kernel_rfl) (by kernel_rfl) (by kernel_rfl) (fun _ _ _ h => h) (Or.inl ⟨by rfl, ?hy14⟩) (by assumption) ?rest14
  case hy14 =>
    intro w' hS
    have hc0 := cell_of_one (show w'.heap[B]? = _ from ((sD.quiet hS).sel 2 [1]).head)
    go_simp
    try with_reducible rfl
  try simp only [Act.put, List.setIfInBounds_toArray, List.set_cons_zero, List.set_cons_succ]
  refine' wpAnyH_take (i := 4) (v := _) (op_at rfl) (by kernel_rfl) (by kernel_rfl) (by kernel_rfl) (fun _ _ _ h => h) (Or.inl ⟨by rfl, ?hy15⟩) (by assumption) ?rest15
  case hy15 =>
    intro w' hS
    go_simp
    try with_reducible rfl
  try simp only [Act.put, List.setIfInBounds_toArray, List.set_cons_zero, List.set_cons_succ]
  refine' wpAnyH_take (i := 5) (v := _) (op_at rfl) (by kernel_rfl) (by kernel_rfl) (by kernel_rfl) (fun _ _ _ h => h) (Or.inl ⟨by rfl, ?hy16⟩) (by assumption) ?rest16
  case hy16 =>
    intro w' hS
    go_simp
    try with_reducible rfl
  try simp only [Act.put, List.setIfInBounds_toArray, List.set_cons_zero, List.set_cons_succ]
  refine' wpAnyH_take (i := 6) (v := _) (op_at rfl) (by kernel_rfl) (by kernel_rfl) (by kernel_rfl) (fun _ _ _ h => h) (Or.inl ⟨by rfl, ?hy17⟩) (by assumption) ?rest17
  case hy17 =>
    intro w' hS
    go_simp
    try with_reducible rfl
  try simp only [Act.put, List.setIfInBounds_toArray, List.set_cons_zero, List.set_cons_succ]
  refine' wpAnyH_take (i := 7) (v := _) (op_at rfl) (by kernel_rfl) (by kernel_rfl) (by kernel_rfl) (fun _ _ _ h => h) (Or.inl ⟨by rfl, ?hy18⟩) (by assumption) ?rest18
  case hy18 =>
    intro w' hS
    obtain ⟨e0, e1, e2, e3, e4, e5, e6⟩ := hE w' ((sD.quiet hS).head)
    go_simp
    try with_reducible rfl
  try simp only [Act.put, List.setIfInBounds_toArray, List.set_cons_zero, List.set_cons_succ]
  refine' wpAnyH_take (i := 8) (v := _) (op_at rfl) (by kernel_rfl) (by kernel_rfl) (by kernel_rfl) (fun _ _ _ h => h) (Or.inl ⟨by rfl, ?hy19⟩) (by assumption) ?rest19
  case hy19 =>
    intro w' hS
    have hi_ := show w'.heap[A5]? = _ from ((sD.quiet hS).sel 4 [3]).head
    have hi0 := cell_two0 hi_
    have hi1 := cell_two1 hi_
    go_simp
    try with_reducible rfl
  try simp only [Act.put, List.setIfInBounds_toArray, List.set_cons_zero, List.set_cons_succ]
  refine wpAnyH_ready (rs := [9]) (by kernel_rfl) (by simp) (AllReadyH.cons (op_at rfl) (fun K hK => ?_) AllReadyH.nil)
  go_simp
  refine (Hsame _ oD).mono fun e w2 hq => ?_
  obtain ⟨rfl, o2⟩ := hq
  go_wp2_with fail
  refine hK.out _ _ o2 (fun hHeld => ?_)
  clear hK K
  try simp only [Act.put, List.setIfInBounds_toArray, List.set_cons_zero, List.set_cons_succ]
  refine' wpAnyH_take (i := 10) (v := _) (op_at rfl) (by kernel_rfl) (by kernel_rfl) (by kernel_rfl) (fun _ _ _ h => h) (Or.inl ⟨by rfl, ?hy20⟩) (by assumption) ?rest20
  case hy20 =>
    intro w' hS
    go_simp
    try with_reducible rfl
  try simp only [Act.put, List.setIfInBounds_toArray, List.set_cons_zero, List.set_cons_succ]
  refine wpAnyH_done (by kernel_rfl) ?_ _
  have s2 := sD.quiet o2
  clear sD o2 oD hHeld Hsame hE hat
  go_upto_region 6 with fail
  have sE := s2.quiet (Only.drew w2 [])
  clear s2
  refine wp_region_t (S := fun w' => Only w2.drew w' []) 11 (by kernel_rfl) (by kernel_rfl) (Only.refl _ _) (fun hZ hHeld => ?_)
  refine' wpAnyT_take (i := 0) (v := _) hZ (op_at' rfl) (by rfl) (by kernel_rfl) (by kernel_rfl) (by kernel_rfl) (by kernel_rfl) (fun _ _ _ h => h) (Or.inl ⟨by rfl, ?hy21⟩) (by assumption) ?rest21
  case hy21 =>
    intro w' hS
    go_simp
    try with_reducible rfl
  try simp only [Act.put, List.setIfInBounds_toArray, List.set_cons_zero, List.set_cons_succ]
  refine' wpAnyT_take (i := 1) (v := _) hZ (op_at' rfl) (by rfl) (by kernel_rfl) (by kernel_rfl) (by kernel_rfl) (by kernel_rfl) (fun _ _ _ h => h) (Or.inl ⟨by rfl, ?hy22⟩) (by assumption) ?rest22
  case hy22 =>
    intro w' hS
    go_simp
    try with_reducible rfl
  try simp only [Act.put, List.setIfInBounds_toArray, List.set_cons_zero, List.set_cons_succ]
  refine' wpAnyT_take (i := 2) (v := _) hZ (op_at' rfl) (by rfl) (by kernel_rfl) (by kernel_rfl) (by kernel_rfl) (by kernel_rfl) (fun _ _ _ h => h) (Or.inl ⟨by rfl, ?hy23⟩) (by assumption) ?rest23
  case hy23 =>
    intro w' hS
    go_simp
    try with_reducible rfl
  try simp only [Act.put, List.setIfInBounds_toArray, List.set_cons_zero, List.set_cons_succ]
  refine' wpAnyT_take (i := 3) (v := _) hZ (op_at' rfl) (by rfl) (by kernel_rfl) (by kernel_rfl) (by kernel_rfl) (by kernel_rfl) (fun _ _ _ h => h) (Or.inl ⟨by rfl, ?hy24⟩) (by assumption) ?rest24
  case hy24 =>
    intro w' hS
    have hc0 := cell_of_one (show w'.heap[B]? = _ from ((sE.quiet hS).sel 2 [1]).head)
    go_simp
    try with_reducible rfl
  try simp only [Act.put, List.setIfInBounds_toArray, List.set_cons_zero, List.set_cons_succ]
  refine' wpAnyT_take (i := 4) (v := _) hZ (op_at' rfl) (by rfl) (by kernel_rfl) (by kernel_rfl) (by kernel_rfl) (by kernel_rfl) (fun _ _ _ h => h) (Or.inl ⟨by rfl, ?hy25⟩) (by assumption) ?rest25
  case hy25 =>
    intro w' hS
    go_simp
    try with_reducible rfl
  try simp only [Act.put, List.setIfInBounds_toArray, List.set_cons_zero, List.set_cons_succ]
  refine' wpAnyT_take (i := 5) (v := _) hZ (op_at' rfl) (by rfl) (by kernel_rfl) (by kernel_rfl) (by kernel_rfl) (by kernel_rfl) (fun _ _ _ h => h) (Or.inl ⟨by rfl, ?hy26⟩) (by assumption) ?rest26
  case hy26 =>
    intro w' hS
    have ht := show w'.heap[A4]? = _ from ((sE.quiet hS).sel 3 [2]).head
    have ht0 := cell_two0 ht
    have ht1 := cell_two1 ht
    go_simp
    try with_reducible rfl
  try simp only [Act.put, List.setIfInBounds_toArray, List.set_cons_zero, List.set_cons_succ]
  refine' wpAnyT_take (i := 6) (v := _) hZ (op_at' rfl) (by rfl) (by kernel_rfl) (by kernel_rfl) (by kernel_rfl) (by kernel_rfl) (fun _ _ _ h => h) (Or.inl ⟨by rfl, ?hy27⟩) (by assumption) ?rest27
  case hy27 =>
    intro w' hS
    have ht := show w'.heap[A5]? = _ from ((sE.quiet hS).sel 4 [3]).head
    have ht0 := cell_two0 ht
    have ht1 := cell_two1 ht
    go_simp
    try with_reducible rfl
  try simp only [Act.put, List.setIfInBounds_toArray, List.set_cons_zero, List.set_cons_succ]
  refine' wpAnyT_take (i := 7) (v := _) hZ (op_at' rfl) (by rfl) (by kernel_rfl) (by kernel_rfl) (by kernel_rfl) (by kernel_rfl) (fun _ _ _ h => h) (Or.inl ⟨by rfl, ?hy28⟩) (by assumption) ?rest28
  case hy28 =>
    intro w' hS
    go_simp
    try with_reducible rfl
  try simp only [Act.put, List.setIfInBounds_toArray, List.set_cons_zero, List.set_cons_succ]
  refine wpAnyT_one (i := 8) (by kernel_rfl) (op_at' rfl) (fun K hK => ?_)
  go_simp
  go_wp2_with fail
  refine hK.out _ _ (Only.alloc _ _ _) (fun hHeld => ?_)
  clear hK K
  try simp only [Act.put, List.setIfInBounds_toArray, List.set_cons_zero, List.set_cons_succ]
  refine' wpAnyT_take (i := 9) (v := _) hZ (op_at' rfl) (by rfl) (by kernel_rfl) (by kernel_rfl) (by kernel_rfl) (by kernel_rfl) (fun _ _ _ h => h) (Or.inl ⟨by rfl, ?hy29⟩) (by assumption) ?rest29
  case hy29 =>
    intro w' hS
    go_simp
    try with_reducible rfl
  try simp only [Act.put, List.setIfInBounds_toArray, List.set_cons_zero, List.set_cons_succ]
  refine' wpAnyT_take (i := 10) (v := _) hZ (op_at' rfl) (by rfl) (by kernel_rfl) (by kernel_rfl) (by kernel_rfl) (by kernel_rfl) (fun _ _ _ h => h) (Or.inl ⟨by rfl, ?hy30⟩) (by assumption) ?rest30
  case hy30 =>
    intro w' hS
    go_simp
    try with_reducible rfl
  try simp only [Act.put, List.setIfInBounds_toArray, List.set_cons_zero, List.set_cons_succ]
  refine wpAnyT_last (by kernel_rfl) (op_at' rfl) (by kernel_rfl) (fun K hK => ?_)
  have s9 : Sep w0 _ (row 36 7 (.slice (some ⟨g, 0, none⟩) l.length c) l.length (fl rc l) :: blk B [.slice (some ⟨g, 0, none⟩) l.length c] 68 :: blk w2.heap.size [.slice none 0 0] 74 :: rs) := (sE.box [.slice none 0 0] 74).sel 5 [1, 2, 0]
  refine step_store_rec (by rfl) 36 _ _ (by rfl) g (k * 7) (.agg (rc ⟨u, d, some ⟨C1, 0, none⟩, 1, 1, some ⟨C2, 0, none⟩, 1, 1, some ⟨w2.heap.size, 0, none⟩, false, 0⟩).toArray) (rc ⟨u, d, some ⟨C1, 0, none⟩, 1, 1, some ⟨C2, 0, none⟩, 1, 1, some ⟨w2.heap.size, 0, none⟩, false, 0⟩) (by rfl) 36 7 l.length c _ (by rfl) (by rfl) s9 (by rw [rc_len]; omega) (by kernel_rfl) (rc_one _) (fun w11 o11 s11 => ?_)
  go_wp2_with fail
  refine hK.out _ _ ?_
  clear hK K
  try simp only [Act.put, List.setIfInBounds_toArray, List.set_cons_zero, List.set_cons_succ]
  rw [hset] at s11
  obtain ⟨X, hX⟩ : ∃ X, X = w2.heap.size := ⟨_, rfl⟩
  rw [← hX] at s11
  clear hX sE hset
  have hE2 := fun (w1 : World) (h1 : w1.ownsRow 0 36 7 (.slice (some ⟨g, 0, none⟩) l.length c) l.length (fl rc (l.set k ⟨u, d, some ⟨C1, 0, none⟩, 1, 1, some ⟨C2, 0, none⟩, 1, 1, some ⟨X, 0, none⟩, false, 0⟩))) => rec_at (l := l.set k ⟨u, d, some ⟨C1, 0, none⟩, 1, 1, some ⟨C2, 0, none⟩, 1, 1, some ⟨X, 0, none⟩, false, 0⟩) (by simpa using h1) (k := k) (by simpa using hk)
  obtain ⟨e0, e1, e2, e3, e4, e5, e6⟩ := hE2 w11 s11.head
  simp only [List.getElem_set_self] at e0 e1 e2 e3 e4 e5 e6
  have hBc := cell_of_one (show w11.heap[B]? = _ from (s11.sel 2 [1]).head)
  have f5 := (show w11.ownsRow 0 36 7 (.slice (some ⟨g, 0, none⟩) l.length c) l.length (fl rc (l.set k ⟨u, d, some ⟨C1, 0, none⟩, 1, 1, some ⟨C2, 0, none⟩, 1, 1, some ⟨X, 0, none⟩, false, 0⟩)) from s11.head).frozenAt (k * 7 + 5)
  have h5 : (fl rc (l.set k ⟨u, d, some ⟨C1, 0, none⟩, 1, 1, some ⟨C2, 0, none⟩, 1, 1, some ⟨X, 0, none⟩, false, 0⟩))[k * 7 + 5]? = some (.bool false) := by
    rw [fl_at (enc := rc) rc_len (by simpa using hk) (by omega : 5 < 7)]
    simp [rc]
  have s3 := s11.puts (k * 7 + 5) [.bool false]
  rw [show setL (fl rc (l.set k ⟨u, d, some ⟨C1, 0, none⟩, 1, 1, some ⟨C2, 0, none⟩, 1, 1, some ⟨X, 0, none⟩, false, 0⟩)) (k * 7 + 5) [.bool false] = fl rc (l.set k ⟨u, d, some ⟨C1, 0, none⟩, 1, 1, some ⟨C2, 0, none⟩, 1, 1, some ⟨X, 0, none⟩, false, 0⟩) from set_same h5] at s3
  clear s11 hE2 h5
  go_wp2_with fail
  refine bodyPost_end (v := .tuple #[]) (by simp [results, Try.results8, go_sem]) rfl ?_
  exact ⟨rfl, X, s3⟩
end Go.Proofs.Ytdlbkdnpbcpjfaa
