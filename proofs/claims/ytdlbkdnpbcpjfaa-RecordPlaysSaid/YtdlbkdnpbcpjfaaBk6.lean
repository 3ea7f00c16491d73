/- Put (a new record), Drop of layer 16 (record). -/
import Derived.Test.YtdlbkdnpbcpjfaaBk5
namespace Go.Proofs.Ytdlbkdnpbcpjfaa
open Go.RowKit Go.Pw Go.Pw.Fl
set_option linter.unusedVariables false

theorem place_le (l : List Re) (u d : Int) : placeL l u d ≤ l.length := List.findIdx_le_length
theorem fl_ins (l : List Re) (k : Nat) (hk : k ≤ l.length) (x : Re) : (fl rc l).take (k * 7) ++ rc x ++ (fl rc l).drop (k * 7) = fl rc (l.take k ++ x :: l.drop k) := by
  rw [fl_take rc_len, fl_drop rc_len, fl_app, fl_cons, List.append_assoc]
theorem rc_one (x : Re) : ∀ u ∈ rc x, u.oneCell' = true := by simp [rc, Value.oneCell']

/-- What Put leaves where nothing of the device is known. -/
def PutNew (w0 w : World) (rs : List Res) (B : Nat) (l : List Re) (u d : Int) (a1 : Option Addr) (n1 c1 : Nat) (a2 : Option Addr) (n2 c2 : Nat) (e : Ending) (w' : World) : Prop :=
  ∃ v' X, e = .returned (.tuple #[]) ∧ Sep w0 w' (row 36 7 v' (l.length + 1) (fl rc (l.take (placeL l u d) ++ ⟨u, d, a1, n1, c1, a2, n2, c2, some ⟨X, 0, none⟩, false, 0⟩ :: l.drop (placeL l u d))) :: blk B [v'] 68 :: blk X [.slice none 0 0] 74 :: rs)

set_option maxRecDepth 100000 in
set_option maxHeartbeats 1600000 in
theorem put_new {w0 : World} {rs : List Res} (B : Nat) (l : List Re) (v : Value) (u d : Int) (a1 : Option Addr) (n1 c1 : Nat) (a2 : Option Addr) (n2 c2 : Nat) (w : World) (h : Sep w0 w (row 36 7 v l.length (fl rc l) :: blk B [v] 68 :: rs)) (hl : l.length ≤ 1000000) (hr : Rise l) (hf : foundL l u d = false) :
    Calls Try.prog 8 #[.pointer (some ⟨B, 0, none⟩), wv u d, .agg #[.slice a1 n1 c1, .slice a2 n2 c2]] w (PutNew w0 w rs B l u d a1 n1 c1 a2 n2 c2) := by
  simp only [wv]
  obtain ⟨ao, c, rfl⟩ := own_slice (show w.ownsRow 0 _ 7 v l.length (fl rc l) from h.head)
  have t1 := (h.box [.int .i64 u, .int .i64 d] 26).box [.slice a1 n1 c1, .slice a2 n2 c2] 30
  have eS : (w.alloc (.cells #[.int .i64 u, .int .i64 d] 26)).heap.size = w.heap.size + 1 := by simp
  rw [eS] at t1
  have sB : Sep w0 _ (row 36 7 (.slice ao l.length c) l.length (fl rc l) :: blk B [.slice ao l.length c] 68 :: blk w.heap.size [.int .i64 u, .int .i64 d] 26 :: blk (w.heap.size + 1) [.slice a1 n1 c1, .slice a2 n2 c2] 30 :: rs) := t1.sel 4 [2, 3, 1, 0]
  clear t1 h
  have Hfind := find_any B l _ u d _ sB hl hr
  rw [hf] at Hfind
  have eP : PutNew w0 w rs B l u d a1 n1 c1 a2 n2 c2 = fun e w' => ∃ v' X, e = .returned (.tuple #[]) ∧ Sep w0 w' (row 36 7 v' (l.length + 1) ((fl rc l).take (placeL l u d * 7) ++ rc ⟨u, d, a1, n1, c1, a2, n2, c2, some ⟨X, 0, none⟩, false, 0⟩ ++ (fl rc l).drop (placeL l u d * 7)) :: blk B [v'] 68 :: blk X [.slice none 0 0] 74 :: rs) := by
    funext e w'
    simp only [fl_ins _ _ (place_le l u d)]
    rfl
  rw [eP]
  clear eP
  have hkl := place_le l u d
  clear hr hf
  generalize placeL l u d = k at *
  obtain ⟨vv, hvv⟩ : ∃ vv : Value, vv = .slice ao l.length c := ⟨_, rfl⟩
  go_enter Try.func8, Try.ntmps8
  go_wp2_with fail
  refine Hfind.mono ?_
  rintro e w1 ⟨rfl, o1⟩
  have s1 := sB.quiet o1
  clear o1 sB Hfind
  go_upto_region 4 with fail
  generalize w.heap.size + 1 = A5 at *
  generalize w.heap.size = A4 at *
  rw [← hvv] at s1
  clear hvv
  have hB : w1.heap[B]? = some (.cells #[vv] 68 (0, 0)) := (s1.sel 2 [1]).head
  have h4 : w1.heap[A4]? = some (.cells #[.int .i64 u, .int .i64 d] 26 (0, 0)) := (s1.sel 3 [2]).head
  have h5 : w1.heap[A5]? = some (.cells #[.slice a1 n1 c1, .slice a2 n2 c2] 30 (0, 0)) := (s1.sel 4 [3]).head
  have hBg : B ∉ vv.ownBlock.toList := fun hk => s1.two_at (i := 0) (j := 1) rfl rfl (by decide) B hk (by simp [blk])
  have h4g : A4 ∉ vv.ownBlock.toList := fun hk => s1.two_at (i := 0) (j := 2) rfl rfl (by decide) A4 hk (by simp [blk])
  have h5g : A5 ∉ vv.ownBlock.toList := fun hk => s1.two_at (i := 0) (j := 3) rfl rfl (by decide) A5 hk (by simp [blk])
  have hnew : vv.ownBlock ≠ some (w1.heap.size + 1) := fun he => by
    have := (row 36 7 vv l.length (fl rc l)).lt w1 s1.head (w1.heap.size + 1) (by simp [row, he])
    omega
  have sD := ((s1.sel 4 [0, 1]).quiet (Only.drew w1 []))
  clear s1
  refine wp_region_t (S := fun w' => Only w1.drew w' vv.ownBlock.toList) 15 (by kernel_rfl) (by kernel_rfl) (Only.refl _ _) (fun hZ hHeld => ?_)
  refine' wpAnyT_take (i := 0) (v := _) hZ (op_at' rfl) (by rfl) (by kernel_rfl) (by kernel_rfl) (by kernel_rfl) (by kernel_rfl) (fun _ _ _ h => h) (Or.inl ⟨by rfl, ?hy1⟩) (by assumption) ?rest1
  case hy1 =>
    intro w' hS
    go_simp
    try with_reducible rfl
  try simp only [Act.put, List.setIfInBounds_toArray, List.set_cons_zero, List.set_cons_succ]
  refine' wpAnyT_take (i := 1) (v := _) hZ (op_at' rfl) (by rfl) (by kernel_rfl) (by kernel_rfl) (by kernel_rfl) (by kernel_rfl) (fun _ _ _ h => h) (Or.inl ⟨by rfl, ?hy2⟩) (by assumption) ?rest2
  case hy2 =>
    intro w' hS
    go_simp
    try with_reducible rfl
  try simp only [Act.put, List.setIfInBounds_toArray, List.set_cons_zero, List.set_cons_succ]
  refine' wpAnyT_take (i := 2) (v := _) hZ (op_at' rfl) (by rfl) (by kernel_rfl) (by kernel_rfl) (by kernel_rfl) (by kernel_rfl) (fun _ _ _ h => h) (Or.inl ⟨by rfl, ?hy3⟩) (by assumption) ?rest3
  case hy3 =>
    intro w' hS
    go_simp
    try with_reducible rfl
  try simp only [Act.put, List.setIfInBounds_toArray, List.set_cons_zero, List.set_cons_succ]
  refine' wpAnyT_take (i := 3) (v := _) hZ (op_at' rfl) (by rfl) (by kernel_rfl) (by kernel_rfl) (by kernel_rfl) (by kernel_rfl) (fun _ _ _ h => h) (Or.inl ⟨by rfl, ?hy4⟩) (by assumption) ?rest4
  case hy4 =>
    intro w' hS
    go_simp
    try with_reducible rfl
  try simp only [Act.put, List.setIfInBounds_toArray, List.set_cons_zero, List.set_cons_succ]
  refine' wpAnyT_take (i := 4) (v := _) hZ (op_at' rfl) (by rfl) (by kernel_rfl) (by kernel_rfl) (by kernel_rfl) (by kernel_rfl) (fun _ _ _ h => h) (Or.inl ⟨by rfl, ?hy5⟩) (by assumption) ?rest5
  case hy5 =>
    intro w' hS
    have hc0 := cell_of_one (hS.at (show w1.drew.heap[B]? = _ from hB) hBg)
    go_simp
    try with_reducible rfl
  try simp only [Act.put, List.setIfInBounds_toArray, List.set_cons_zero, List.set_cons_succ]
  refine' wpAnyT_take (i := 5) (v := _) hZ (op_at' rfl) (by rfl) (by kernel_rfl) (by kernel_rfl) (by kernel_rfl) (by kernel_rfl) (fun _ _ _ h => h) (Or.inl ⟨by rfl, ?hy6⟩) (by assumption) ?rest6
  case hy6 =>
    intro w' hS
    go_simp
    try with_reducible rfl
  try simp only [Act.put, List.setIfInBounds_toArray, List.set_cons_zero, List.set_cons_succ]
  refine' wpAnyT_take (i := 6) (v := _) hZ (op_at' rfl) (by rfl) (by kernel_rfl) (by kernel_rfl) (by kernel_rfl) (by kernel_rfl) (fun _ _ _ h => h) (Or.inl ⟨by rfl, ?hy7⟩) (by assumption) ?rest7
  case hy7 =>
    intro w' hS
    have ht := hS.at (show w1.drew.heap[A4]? = _ from h4) h4g
    have ht0 := cell_two0 ht
    have ht1 := cell_two1 ht
    go_simp
    try with_reducible rfl
  try simp only [Act.put, List.setIfInBounds_toArray, List.set_cons_zero, List.set_cons_succ]
  refine' wpAnyT_take (i := 7) (v := _) hZ (op_at' rfl) (by rfl) (by kernel_rfl) (by kernel_rfl) (by kernel_rfl) (by kernel_rfl) (fun _ _ _ h => h) (Or.inl ⟨by rfl, ?hy8⟩) (by assumption) ?rest8
  case hy8 =>
    intro w' hS
    have ht := hS.at (show w1.drew.heap[A5]? = _ from h5) h5g
    have ht0 := cell_two0 ht
    have ht1 := cell_two1 ht
    go_simp
    try with_reducible rfl
  try simp only [Act.put, List.setIfInBounds_toArray, List.set_cons_zero, List.set_cons_succ]
  refine' wpAnyT_take (i := 8) (v := _) hZ (op_at' rfl) (by rfl) (by kernel_rfl) (by kernel_rfl) (by kernel_rfl) (by kernel_rfl) (fun _ _ _ h => h) (Or.inl ⟨by rfl, ?hy9⟩) (by assumption) ?rest9
  case hy9 =>
    intro w' hS
    go_simp
    try with_reducible rfl
  try simp only [Act.put, List.setIfInBounds_toArray, List.set_cons_zero, List.set_cons_succ]
  refine wpAnyT_one (i := 9) (by kernel_rfl) (op_at' rfl) (fun K hK => ?_)
  go_simp
  go_wp2_with fail
  refine hK.out _ _ (Only.alloc _ _ _) (fun hHeld => ?_)
  clear hK K
  try simp only [Act.put, List.setIfInBounds_toArray, List.set_cons_zero, List.set_cons_succ]
  refine' wpAnyT_take (i := 10) (v := _) hZ (op_at' rfl) (by rfl) (by kernel_rfl) (by kernel_rfl) (by kernel_rfl) (by kernel_rfl) (fun _ _ _ h => h) (Or.inl ⟨by rfl, ?hy10⟩) (by assumption) ?rest10
  case hy10 =>
    intro w' hS
    go_simp
    try with_reducible rfl
  try simp only [Act.put, List.setIfInBounds_toArray, List.set_cons_zero, List.set_cons_succ]
  refine wpAnyT_one (i := 11) (by kernel_rfl) (op_at' rfl) (fun K hK => ?_)
  go_simp
  go_wp2_with fail
  refine hK.out _ _ ((Only.alloc _ _ _).trans (Only.alloc _ _ _)) (fun hHeld => ?_)
  clear hK K
  try simp only [Act.put, List.setIfInBounds_toArray, List.set_cons_zero, List.set_cons_succ]
  refine wpAnyT_one (i := 12) (by kernel_rfl) (op_at' rfl) (fun K hK => ?_)
  go_simp
  have s3 : Sep w0 _ (row 36 7 vv l.length (fl rc l) :: blk B [vv] 68 :: blk w1.heap.size [.slice none 0 0] 74 :: rs) := ((sD.box [.slice none 0 0] 74).quiet (Only.alloc _ (.cells #[.int .i64 u, .int .i64 d, .slice a1 n1 c1, .slice a2 n2 c2, .pointer (some ⟨w1.heap.size, 0, none⟩), .bool false, .float .f64 0] 36) [])).sel 3 [1, 2, 0]
  have hvb := heap_alloc_new (w1.drew.alloc (.cells #[.slice none 0 0] 74)) (.cells #[.int .i64 u, .int .i64 d, .slice a1 n1 c1, .slice a2 n2 c2, .pointer (some ⟨w1.heap.size, 0, none⟩), .bool false, .float .f64 0] 36)
  have eS2 : (w1.drew.alloc (.cells #[.slice none 0 0] 74)).heap.size = w1.heap.size + 1 := by simp
  rw [eS2] at hvb
  refine (ins_any vv l.length k (fl rc l) (rc ⟨u, d, a1, n1, c1, a2, n2, c2, some ⟨w1.heap.size, 0, none⟩, false, 0⟩) (w1.heap.size + 1) _ s3 hl hkl rfl hvb hnew (fl_one rc_one l) (rc_one _)).mono fun e w12 hq => ?_
  obtain ⟨v12, rfl, o12, s12⟩ := hq
  obtain ⟨a12, c12, rfl⟩ := own_slice (show w12.ownsRow 0 36 7 v12 (l.length + 1) _ from s12.head)
  go_wp2_with fail
  refine hK.out _ _ (((Only.alloc _ _ _).trans (Only.alloc _ _ _)).trans o12) (fun hHeld => ?_)
  clear hK K
  try simp only [Act.put, List.setIfInBounds_toArray, List.set_cons_zero, List.set_cons_succ]
  refine' wpAnyT_take (i := 13) (v := _) hZ (op_at' rfl) (by rfl) (by kernel_rfl) (by kernel_rfl) (by kernel_rfl) (by kernel_rfl) (fun _ _ _ h => h) (Or.inl ⟨by rfl, ?hy11⟩) (by assumption) ?rest11
  case hy11 =>
    intro w' hS
    go_simp
    try with_reducible rfl
  try simp only [Act.put, List.setIfInBounds_toArray, List.set_cons_zero, List.set_cons_succ]
  refine' wpAnyT_take (i := 14) (v := _) hZ (op_at' rfl) (by rfl) (by kernel_rfl) (by kernel_rfl) (by kernel_rfl) (by kernel_rfl) (fun _ _ _ h => h) (Or.inl ⟨by rfl, ?hy12⟩) (by assumption) ?rest12
  case hy12 =>
    intro w' hS
    go_simp
    try with_reducible rfl
  try simp only [Act.put, List.setIfInBounds_toArray, List.set_cons_zero, List.set_cons_succ]
  refine wpAnyT_last (by kernel_rfl) (op_at' rfl) (by kernel_rfl) (fun K hK => ?_)
  refine step_store_blk (by rfl) 46 _ _ (by rfl) B 0 (.slice a12 (l.length + 1) c12) [.slice a12 (l.length + 1) c12] [vv] 68 (by rfl) (by rfl) (by rfl) (s12.sel 3 [1, 0, 2]) (by simp) (by kernel_rfl) (by simp [Value.oneCell']) (fun w15 o15 s15 => ?_)
  go_wp2_with fail
  refine hK.out _ _ ?_
  clear hK K
  try simp only [Act.put, List.setIfInBounds_toArray, List.set_cons_zero, List.set_cons_succ]
  go_wp2_with fail
  refine bodyPost_ret (v := .tuple #[]) (by simp [results, Try.results8, go_sem]) rfl ?_
  exact ⟨_, w1.heap.size, rfl, s15.sel 3 [1, 0, 2]⟩

theorem put_nil (u d : Int) (a1 : Option Addr) (n1 c1 : Nat) (a2 : Option Addr) (n2 c2 : Nat) (w : World) :
    Calls Try.prog 8 #[.pointer none, wv u d, .agg #[.slice a1 n1 c1, .slice a2 n2 c2]] w fun e w' => e = .returned (.tuple #[]) ∧ Only w w' [] := by
  simp only [wv]
  go_enter Try.func8, Try.ntmps8
  go_wp2_with fail
  refine bodyPost_ret (v := .tuple #[]) (by simp [results, Try.results8, go_sem]) rfl ?_
  exact ⟨rfl, (Only.alloc _ _ _).trans (Only.alloc _ _ _)⟩
theorem drop_nil (now long : Nat) (w : World) :
    Calls Try.prog 10 #[.pointer none, .float .f64 now, .float .f64 long] w fun e w' => e = .returned (.int .i64 0) ∧ Only w w' [] := by
  go_enter Try.func10, Try.ntmps10
  go_wp2_with fail
  go_ret
  exact ⟨rfl, (Only.alloc _ _ _).trans (Only.alloc _ _ _)⟩
theorem all_nil (w : World) :
    Calls Try.prog 20 #[.pointer none] w fun e w' => e = .returned (.slice none 0 0) ∧ Only w w' [] := by
  go_enter Try.func20, Try.ntmps20
  go_wp2_with fail
  go_ret
  exact ⟨rfl, Only.refl _ _⟩

def Dropped (w0 : World) (rs : List Res) (B : Nat) (l : List Re) (now long : Nat) (e : Ending) (w' : World) : Prop :=
  e = .returned (.int .i64 ((l.length : Int) - (rkp now long l).length)) ∧ ∃ v', Sep w0 w' (row 36 7 v' (rkp now long l).length (fl rc (rkp now long l)) :: blk B [v'] 68 :: rs)

set_option maxHeartbeats 1600000 in
theorem drop_any {w0 : World} {rs : List Res} (B : Nat) (l : List Re) (v : Value) (now long : Nat) (w : World) (h : Sep w0 w (row 36 7 v l.length (fl rc l) :: blk B [v] 68 :: rs)) (hl : l.length ≤ 1000000) :
    Calls Try.prog 10 #[.pointer (some ⟨B, 0, none⟩), .float .f64 now, .float .f64 long] w (Dropped w0 rs B l now long) := by
  obtain ⟨ao, c, rfl⟩ := own_slice (show w.ownsRow 0 _ 7 v l.length (fl rc l) from h.head)
  have t1 := (h.box [.float .f64 now] 22).box [.float .f64 long] 22
  have eS : (w.alloc (.cells [.float .f64 now].toArray 22)).heap.size = w.heap.size + 1 := by simp
  rw [eS] at t1
  have s2 : Sep w0 _ (row 36 7 (.slice ao l.length c) l.length (fl rc l) :: two (blk w.heap.size [.float .f64 now] 22) (blk (w.heap.size + 1) [.float .f64 long] 22) :: blk B [.slice ao l.length c] 68 :: rs) :=
    ((t1.sel 4 [1, 0, 2, 3] : Sep w0 _ (blk w.heap.size [.float .f64 now] 22 :: blk (w.heap.size + 1) [.float .f64 long] 22 :: row 36 7 (.slice ao l.length c) l.length (fl rc l) :: blk B [.slice ao l.length c] 68 :: rs)).join).sel 2 [1, 0]
  have Hd := rdelete_any w.heap.size (w.heap.size + 1) now long _ l _ s2 hl
  have hB : ((w.alloc (.cells [.float .f64 now].toArray 22)).alloc (.cells [.float .f64 long].toArray 22)).heap[B]? = some (.cells #[.slice ao l.length c] 68 (0, 0)) := (s2.sel 3 [2]).head
  have hBc := cell_of_one hB
  clear h t1
  go_enter Try.func10, Try.ntmps10
  go_wp2_with fail
  refine Hd.mono ?_
  rintro e w1 ⟨v1, rfl, s3⟩
  have hle : (rkp now long l).length ≤ l.length := List.length_filter_le _ _
  obtain ⟨a1, c1, rfl⟩ := own_slice (show w1.ownsRow 0 36 7 v1 (rkp now long l).length (fl rc (rkp now long l)) from s3.head)
  have s4 : Sep w0 w1 (blk B [.slice ao l.length c] 68 :: row 36 7 (.slice a1 (rkp now long l).length c1) (rkp now long l).length (fl rc (rkp now long l)) :: rs) := s3.sel 3 [2, 0]
  have hB1 : w1.heap[B]? = some (.cells #[.slice ao l.length c] 68 (0, 0)) := s4.head
  have hBc1 := cell_of_one hB1
  have hBf1 := free_in hB1 0
  have s5 := s4.put 0 (.slice a1 (rkp now long l).length c1)
  have s6 : Sep w0 _ (row 36 7 (.slice a1 (rkp now long l).length c1) (rkp now long l).length (fl rc (rkp now long l)) :: blk B [.slice a1 (rkp now long l).length c1] 68 :: rs) := s5.sel 2 [1, 0]
  clear s2 s3 s4 s5 hB hBc hB1
  go_wp2_with fail
  go_ret
  exact ⟨rfl, _, s6⟩
end Go.Proofs.Ytdlbkdnpbcpjfaa
