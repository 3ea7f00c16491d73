/- post of layer 19 (server): what is taken already, what was given up. Printed by gen_sv6.py. -/
import Derived.Test.YticojdepepkdlaaSv5
set_option linter.unusedSimpArgs false
set_option linter.unusedVariables false
namespace Go.Proofs.Yticojdepepkdlaa
open Go.RowKit Go.Pw
set_option linter.unusedVariables false

/-- A Reply that has nothing yet; one with an error. -/
def rp0 (k u d n tr : Int) : List Value := [.int .u8 k, .int .i64 u, .int .i64 d, .int .u32 n, .int .u32 tr, .int .i64 0, .slice none 0 0, .slice none 0 0, .slice none 0 0]
def rpE (k u d n tr e : Int) : List Value := [.int .u8 k, .int .i64 u, .int .i64 d, .int .u32 n, .int .u32 tr, .int .i64 e, .slice none 0 0, .slice none 0 0, .slice none 0 0]
theorem rp_set (k u d n tr e : Int) : setL (rp0 k u d n tr) 5 [.int .i64 e] = rpE k u d n tr e := rfl

set_option maxRecDepth 100000 in
set_option maxHeartbeats 2000000 in
theorem post_same {w0 : World} {rs : List Res} (SB RB BM LM RX : Nat) (v : Value) (l : List Li) (bm lm : List ((Int × Int) × Value)) (lv : Value) (logs : List Sn) (k u d n tr to : Int) (ev : Value) (up : Int) (vb : Value)  (w : World) (h : Sep w0 w (srvR SB RB BM LM v l bm lm lv logs (blk RX (rp0 k u d n tr) 49 :: rs))) (hlast : (getM lm (u, d)).getD (.agg #[.int .u32 0, .bool false]) = .agg #[.int .u32 n, .bool true]) :
    Calls Try.prog 21 #[.pointer (some ⟨SB, 0, none⟩), .agg (ac k u d n tr to ev up vb).toArray, .pointer (some ⟨RX, 0, none⟩)] w (fun e w' => e = .returned (.tuple #[]) ∧ Sep w0 w' (srvR SB RB BM LM v l bm lm lv logs (blk RX (rp0 k u d n tr) 49 :: rs))) := by
  skip
  have hlk := fun (w' : World) (o : Only w w' []) => run_lookupW 67 101 (.agg #[.int .u32 0, .bool false]) LM lm (u, d) ((h.quiet o).sel 6 [5]) Try.underlying67 (fun _ => by kernel_rfl)
  rw [hlast] at hlk
  have g1 : (ac k u d n tr to ev up vb).toArray[1]? = some (.int .i64 u) := rfl
  have g2 : (ac k u d n tr to ev up vb).toArray[2]? = some (.int .i64 d) := rfl
  have g3 : (ac k u d n tr to ev up vb).toArray[3]? = some (.int .u32 n) := rfl
  have g5 : (ac k u d n tr to ev up vb).toArray[5]? = some (.int .i64 to) := rfl
  have g6 : (ac k u d n tr to ev up vb).toArray[6]? = some ev := rfl
  have hal := ac_len k u d n tr to ev up vb
  obtain ⟨cs, hcs⟩ : ∃ cs, cs = ac k u d n tr to ev up vb := ⟨_, rfl⟩
  have Hcs := Lib.hid hcs
  rw [← hcs] at g1 g2 g3 g5 g6 hal ⊢
  clear hlast hcs
  go_enter Try.func21, Try.ntmps21
  go_upto_region 1 with (first
    | (refine wpList_box_new rfl 24 _ rfl (.pointer (some ⟨SB, 0, none⟩)) rfl ?_; intro A wA oA hAl hA)
    | (refine wpList_box_new rfl 45 _ rfl (.agg cs.toArray) rfl ?_; intro Z wZ oZ hZl hZb))
  have sA : Sep w0 wA (blk A [.pointer (some ⟨SB, 0, none⟩)] 24 :: srvR SB RB BM LM v l bm lm lv logs (blk RX (rp0 k u d n tr) 49 :: rs)) := h.add oA hA (fun k hk => by simp [blk] at hk; omega)
  have sZ : Sep w0 wZ (blk Z cs 45 :: blk A [.pointer (some ⟨SB, 0, none⟩)] 24 :: srvR SB RB BM LM v l bm lm lv logs (blk RX (rp0 k u d n tr) 49 :: rs)) := sA.add oZ hZb (fun k hk => by simp [blk] at hk; omega)
  have sD := sZ.quiet (Only.drew wZ [])
  have oAZ := oA.trans oZ
  clear h sZ sA oA oZ hA hZb hAl hZl
  refine wp_region_t (S := fun w' => Only wZ.drew w' []) 8 (by kernel_rfl) (by kernel_rfl) (Only.refl _ _) (fun hZ hHeld => ?_)
  refine' wpAnyT_take (i := 0) (v := _) hZ (op_at' rfl) (by rfl) (by kernel_rfl) (by kernel_rfl) (by kernel_rfl) (by kernel_rfl) (fun _ _ _ h => h) (Or.inl ⟨by rfl, ?hy1⟩) (by assumption) ?rest1
  case hy1 =>
    intro w' hS
    have hc0 := cell_of_one (show w'.heap[A]? = _ from ((sD.quiet hS).sel 2 [1]).head)
    go_simp
    try with_reducible rfl
  try simp only [Act.put, List.setIfInBounds_toArray, List.set_cons_zero, List.set_cons_succ]
  refine' wpAnyT_take (i := 1) (v := _) hZ (op_at' rfl) (by rfl) (by kernel_rfl) (by kernel_rfl) (by kernel_rfl) (by kernel_rfl) (fun _ _ _ h => h) (Or.inl ⟨by rfl, ?hy2⟩) (by assumption) ?rest2
  case hy2 =>
    intro w' hS
    go_simp
    try with_reducible rfl
  try simp only [Act.put, List.setIfInBounds_toArray, List.set_cons_zero, List.set_cons_succ]
  refine' wpAnyT_take (i := 2) (v := _) hZ (op_at' rfl) (by rfl) (by kernel_rfl) (by kernel_rfl) (by kernel_rfl) (by kernel_rfl) (fun _ _ _ h => h) (Or.inl ⟨by rfl, ?hy3⟩) (by assumption) ?rest3
  case hy3 =>
    intro w' hS
    go_simp
    try with_reducible rfl
  try simp only [Act.put, List.setIfInBounds_toArray, List.set_cons_zero, List.set_cons_succ]
  refine' wpAnyT_take (i := 3) (v := _) hZ (op_at' rfl) (by rfl) (by kernel_rfl) (by kernel_rfl) (by kernel_rfl) (by kernel_rfl) (fun _ _ _ h => h) (Or.inl ⟨by rfl, ?hy4⟩) (by assumption) ?rest4
  case hy4 =>
    intro w' hS
    obtain ⟨c0, c1, c2, c3⟩ := sb_at ((sD.quiet hS).sel 6 [5]).head
    go_simp
    try with_reducible rfl
  try simp only [Act.put, List.setIfInBounds_toArray, List.set_cons_zero, List.set_cons_succ]
  refine' wpAnyT_take (i := 4) (v := _) hZ (op_at' rfl) (by rfl) (by kernel_rfl) (by kernel_rfl) (by kernel_rfl) (by kernel_rfl) (fun _ _ _ h => h) (Or.inl ⟨by rfl, ?hy5⟩) (by assumption) ?rest5
  case hy5 =>
    intro w' hS
    go_simp
    try with_reducible rfl
  try simp only [Act.put, List.setIfInBounds_toArray, List.set_cons_zero, List.set_cons_succ]
  refine' wpAnyT_take (i := 5) (v := _) hZ (op_at' rfl) (by rfl) (by kernel_rfl) (by kernel_rfl) (by kernel_rfl) (by kernel_rfl) (fun _ _ _ h => h) (Or.inl ⟨by rfl, ?hy6⟩) (by assumption) ?rest6
  case hy6 =>
    intro w' hS
    have hz_ := show w'.heap[Z]? = _ from (sD.quiet hS).head
    have z1 := (cell_in hz_ 1).trans g1
    have z2 := (cell_in hz_ 2).trans g2
    go_simp
    try with_reducible rfl
  try simp only [Act.put, List.setIfInBounds_toArray, List.set_cons_zero, List.set_cons_succ]
  refine' wpAnyT_take (i := 6) (v := _) hZ (op_at' rfl) (by rfl) (by kernel_rfl) (by kernel_rfl) (by kernel_rfl) (by kernel_rfl) (fun _ _ _ h => h) (Or.inl ⟨by rfl, ?hy7⟩) (by assumption) ?rest7
  case hy7 =>
    intro w' hS
    have hl_ : (Instr.lookup 67 (.map (some LM)) (.agg #[.int .i64 u, .int .i64 d]) false).run Try.prog w' = .ok (.agg #[.int .u32 n, .bool true]) w' := hlk w' (oAZ.trans ((Only.drew wZ []).trans hS))
    go_simp
    try with_reducible rfl
  try simp only [Act.put, List.setIfInBounds_toArray, List.set_cons_zero, List.set_cons_succ]
  refine wpAnyT_one (i := 7) (by kernel_rfl) (op_at' rfl) (fun K hK => ?_)
  refine step_alloc_new (by rfl) 101 (by rfl) (.agg #[.int .u32 0, .bool false]) (fun _ => by kernel_rfl) (fun T5 w7 o7 l7 h7 => ?_)
  go_wp2_with fail
  refine hK.out _ _ o7 (fun hHeld => ?_)
  clear hK K
  try simp only [Act.put, List.setIfInBounds_toArray, List.set_cons_zero, List.set_cons_succ]
  refine wpAnyT_last (by kernel_rfl) (op_at' rfl) (by kernel_rfl) (fun K hK => ?_)
  refine step_store_blk (by rfl) 101 _ _ (by rfl) T5 0 (.agg #[.int .u32 n, .bool true]) [.int .u32 n, .bool true] [.int .u32 0, .bool false] 101 (by rfl) (by rfl) (by rfl) (sD.add (b := blk T5 [.int .u32 0, .bool false] 101) o7 h7 (fun k hk => by simp [blk] at hk; omega)) (by simp) (by kernel_rfl) (by simp [Value.oneCell']) (fun w8 o8 s8 => ?_)
  go_wp2_with fail
  refine hK.out _ _ ?_
  clear hK K
  try simp only [Act.put, List.setIfInBounds_toArray, List.set_cons_zero, List.set_cons_succ]
  have s9 : Sep w0 w8 (blk A [.pointer (some ⟨SB, 0, none⟩)] 24 :: blk Z cs 45 :: srvR SB RB BM LM v l bm lm lv logs (blk RX (rp0 k u d n tr) 49 :: rs)) := s8.sel 3 [2, 1]
  have hT8 : w8.heap[T5]? = some (.cells #[.int .u32 n, .bool true] 101 (0, 0)) := s8.head
  have hZ7 : w8.heap[Z]? = some (.cells cs.toArray 45 (0, 0)) := (s9.sel 2 [1]).head
  have z3 := (cell_in hZ7 3).trans g3
  have t0 := cell_two0 hT8
  have t1 := cell_two1 hT8
  clear hT8 sD hlk hZ hHeld s8
  go_wp2_with fail
  refine bodyPost_ret (v := .tuple #[]) (by simp [results, Try.results21, go_sem]) rfl ⟨rfl, s9.sel 2 []⟩

set_option maxRecDepth 100000 in
set_option maxHeartbeats 2000000 in
theorem post_used {w0 : World} {rs : List Res} (SB RB BM LM RX : Nat) (v : Value) (l : List Li) (bm lm : List ((Int × Int) × Value)) (lv : Value) (logs : List Sn) (k u d n tr to : Int) (ev : Value) (up : Int) (vb : Value)  (w : World) (h : Sep w0 w (srvR SB RB BM LM v l bm lm lv logs (blk RX (rp0 k u d n tr) 49 :: rs))) (hlast : (getM lm (u, d)).getD (.agg #[.int .u32 0, .bool false]) = .agg #[.int .u32 n, .bool false]) :
    Calls Try.prog 21 #[.pointer (some ⟨SB, 0, none⟩), .agg (ac k u d n tr to ev up vb).toArray, .pointer (some ⟨RX, 0, none⟩)] w (fun e w' => e = .returned (.tuple #[]) ∧ Sep w0 w' (srvR SB RB BM LM v l bm lm lv logs (blk RX (rpE k u d n tr 8) 49 :: rs))) := by
  skip
  have hlk := fun (w' : World) (o : Only w w' []) => run_lookupW 67 101 (.agg #[.int .u32 0, .bool false]) LM lm (u, d) ((h.quiet o).sel 6 [5]) Try.underlying67 (fun _ => by kernel_rfl)
  rw [hlast] at hlk
  have g1 : (ac k u d n tr to ev up vb).toArray[1]? = some (.int .i64 u) := rfl
  have g2 : (ac k u d n tr to ev up vb).toArray[2]? = some (.int .i64 d) := rfl
  have g3 : (ac k u d n tr to ev up vb).toArray[3]? = some (.int .u32 n) := rfl
  have g5 : (ac k u d n tr to ev up vb).toArray[5]? = some (.int .i64 to) := rfl
  have g6 : (ac k u d n tr to ev up vb).toArray[6]? = some ev := rfl
  have hal := ac_len k u d n tr to ev up vb
  obtain ⟨cs, hcs⟩ : ∃ cs, cs = ac k u d n tr to ev up vb := ⟨_, rfl⟩
  have Hcs := Lib.hid hcs
  rw [← hcs] at g1 g2 g3 g5 g6 hal ⊢
  clear hlast hcs
  go_enter Try.func21, Try.ntmps21
  go_upto_region 1 with (first
    | (refine wpList_box_new rfl 24 _ rfl (.pointer (some ⟨SB, 0, none⟩)) rfl ?_; intro A wA oA hAl hA)
    | (refine wpList_box_new rfl 45 _ rfl (.agg cs.toArray) rfl ?_; intro Z wZ oZ hZl hZb))
  have sA : Sep w0 wA (blk A [.pointer (some ⟨SB, 0, none⟩)] 24 :: srvR SB RB BM LM v l bm lm lv logs (blk RX (rp0 k u d n tr) 49 :: rs)) := h.add oA hA (fun k hk => by simp [blk] at hk; omega)
  have sZ : Sep w0 wZ (blk Z cs 45 :: blk A [.pointer (some ⟨SB, 0, none⟩)] 24 :: srvR SB RB BM LM v l bm lm lv logs (blk RX (rp0 k u d n tr) 49 :: rs)) := sA.add oZ hZb (fun k hk => by simp [blk] at hk; omega)
  have sD := sZ.quiet (Only.drew wZ [])
  have oAZ := oA.trans oZ
  clear h sZ sA oA oZ hA hZb hAl hZl
  refine wp_region_t (S := fun w' => Only wZ.drew w' []) 8 (by kernel_rfl) (by kernel_rfl) (Only.refl _ _) (fun hZ hHeld => ?_)
  refine' wpAnyT_take (i := 0) (v := _) hZ (op_at' rfl) (by rfl) (by kernel_rfl) (by kernel_rfl) (by kernel_rfl) (by kernel_rfl) (fun _ _ _ h => h) (Or.inl ⟨by rfl, ?hy8⟩) (by assumption) ?rest8
  case hy8 =>
    intro w' hS
    have hc0 := cell_of_one (show w'.heap[A]? = _ from ((sD.quiet hS).sel 2 [1]).head)
    go_simp
    try with_reducible rfl
  try simp only [Act.put, List.setIfInBounds_toArray, List.set_cons_zero, List.set_cons_succ]
  refine' wpAnyT_take (i := 1) (v := _) hZ (op_at' rfl) (by rfl) (by kernel_rfl) (by kernel_rfl) (by kernel_rfl) (by kernel_rfl) (fun _ _ _ h => h) (Or.inl ⟨by rfl, ?hy9⟩) (by assumption) ?rest9
  case hy9 =>
    intro w' hS
    go_simp
    try with_reducible rfl
  try simp only [Act.put, List.setIfInBounds_toArray, List.set_cons_zero, List.set_cons_succ]
  refine' wpAnyT_take (i := 2) (v := _) hZ (op_at' rfl) (by rfl) (by kernel_rfl) (by kernel_rfl) (by kernel_rfl) (by kernel_rfl) (fun _ _ _ h => h) (Or.inl ⟨by rfl, ?hy10⟩) (by assumption) ?rest10
  case hy10 =>
    intro w' hS
    go_simp
    try with_reducible rfl
  try simp only [Act.put, List.setIfInBounds_toArray, List.set_cons_zero, List.set_cons_succ]
  refine' wpAnyT_take (i := 3) (v := _) hZ (op_at' rfl) (by rfl) (by kernel_rfl) (by kernel_rfl) (by kernel_rfl) (by kernel_rfl) (fun _ _ _ h => h) (Or.inl ⟨by rfl, ?hy11⟩) (by assumption) ?rest11
  case hy11 =>
    intro w' hS
    obtain ⟨c0, c1, c2, c3⟩ := sb_at ((sD.quiet hS).sel 6 [5]).head
    go_simp
    try with_reducible rfl
  try simp only [Act.put, List.setIfInBounds_toArray, List.set_cons_zero, List.set_cons_succ]
  refine' wpAnyT_take (i := 4) (v := _) hZ (op_at' rfl) (by rfl) (by kernel_rfl) (by kernel_rfl) (by kernel_rfl) (by kernel_rfl) (fun _ _ _ h => h) (Or.inl ⟨by rfl, ?hy12⟩) (by assumption) ?rest12
  case hy12 =>
    intro w' hS
    go_simp
    try with_reducible rfl
  try simp only [Act.put, List.setIfInBounds_toArray, List.set_cons_zero, List.set_cons_succ]
  refine' wpAnyT_take (i := 5) (v := _) hZ (op_at' rfl) (by rfl) (by kernel_rfl) (by kernel_rfl) (by kernel_rfl) (by kernel_rfl) (fun _ _ _ h => h) (Or.inl ⟨by rfl, ?hy13⟩) (by assumption) ?rest13
  case hy13 =>
    intro w' hS
    have hz_ := show w'.heap[Z]? = _ from (sD.quiet hS).head
    have z1 := (cell_in hz_ 1).trans g1
    have z2 := (cell_in hz_ 2).trans g2
    go_simp
    try with_reducible rfl
  try simp only [Act.put, List.setIfInBounds_toArray, List.set_cons_zero, List.set_cons_succ]
  refine' wpAnyT_take (i := 6) (v := _) hZ (op_at' rfl) (by rfl) (by kernel_rfl) (by kernel_rfl) (by kernel_rfl) (by kernel_rfl) (fun _ _ _ h => h) (Or.inl ⟨by rfl, ?hy14⟩) (by assumption) ?rest14
  case hy14 =>
    intro w' hS
    have hl_ : (Instr.lookup 67 (.map (some LM)) (.agg #[.int .i64 u, .int .i64 d]) false).run Try.prog w' = .ok (.agg #[.int .u32 n, .bool false]) w' := hlk w' (oAZ.trans ((Only.drew wZ []).trans hS))
    go_simp
    try with_reducible rfl
  try simp only [Act.put, List.setIfInBounds_toArray, List.set_cons_zero, List.set_cons_succ]
  refine wpAnyT_one (i := 7) (by kernel_rfl) (op_at' rfl) (fun K hK => ?_)
  refine step_alloc_new (by rfl) 101 (by rfl) (.agg #[.int .u32 0, .bool false]) (fun _ => by kernel_rfl) (fun T5 w7 o7 l7 h7 => ?_)
  go_wp2_with fail
  refine hK.out _ _ o7 (fun hHeld => ?_)
  clear hK K
  try simp only [Act.put, List.setIfInBounds_toArray, List.set_cons_zero, List.set_cons_succ]
  refine wpAnyT_last (by kernel_rfl) (op_at' rfl) (by kernel_rfl) (fun K hK => ?_)
  refine step_store_blk (by rfl) 101 _ _ (by rfl) T5 0 (.agg #[.int .u32 n, .bool false]) [.int .u32 n, .bool false] [.int .u32 0, .bool false] 101 (by rfl) (by rfl) (by rfl) (sD.add (b := blk T5 [.int .u32 0, .bool false] 101) o7 h7 (fun k hk => by simp [blk] at hk; omega)) (by simp) (by kernel_rfl) (by simp [Value.oneCell']) (fun w8 o8 s8 => ?_)
  go_wp2_with fail
  refine hK.out _ _ ?_
  clear hK K
  try simp only [Act.put, List.setIfInBounds_toArray, List.set_cons_zero, List.set_cons_succ]
  have s9 : Sep w0 w8 (blk A [.pointer (some ⟨SB, 0, none⟩)] 24 :: blk Z cs 45 :: srvR SB RB BM LM v l bm lm lv logs (blk RX (rp0 k u d n tr) 49 :: rs)) := s8.sel 3 [2, 1]
  have hT8 : w8.heap[T5]? = some (.cells #[.int .u32 n, .bool false] 101 (0, 0)) := s8.head
  have hZ7 : w8.heap[Z]? = some (.cells cs.toArray 45 (0, 0)) := (s9.sel 2 [1]).head
  have z3 := (cell_in hZ7 3).trans g3
  have t0 := cell_two0 hT8
  have t1 := cell_two1 hT8
  clear hT8 sD hlk hZ hHeld s8
  have d1 : decide (n ≤ n) = true := by simp
  have hRX := (s9.sel 10 [9, 0, 1, 2, 3, 4, 5, 6, 7, 8])
  have hR5 := (cell_in (show w8.heap[RX]? = _ from hRX.head) 5)
  have hRf := free_in (show w8.heap[RX]? = some (.cells (rp0 k u d n tr).toArray 49 (0, 0)) from hRX.head) 5
  have hR5' : w8.cell? ⟨RX, 5, none⟩ = some (.int .i64 0) := hR5
  have hP := hRX.put 5 (.int .i64 8)
  clear hR5 s9 hRX
  go_wp2_with fail
  refine bodyPost_ret (v := .tuple #[]) (by simp [results, Try.results21, go_sem]) rfl ⟨rfl, (show Sep w0 _ _ from hP).sel 10 [3, 4, 5, 6, 7, 8, 9, 0]⟩
end Go.Proofs.Yticojdepepkdlaa
