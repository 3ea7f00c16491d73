/- Handle of layer 19 (server): Ack. Printed by gen_svb.py. -/
import Derived.Test.YticojdepepkdlaaSva
set_option linter.unusedSimpArgs false
set_option linter.unusedVariables false
namespace Go.Proofs.Yticojdepepkdlaa
open Go.RowKit Go.Pw
set_option linter.unusedVariables false

set_option maxRecDepth 100000 in
set_option maxHeartbeats 2000000 in
theorem handle_ack {w0 : World} {rs : List Res} (SB RB BM LM : Nat) (v : Value) (l : List Li) (bm lm : List ((Int × Int) × Value)) (lv : Value) (logs : List Sn) (u d n tr to : Int) (ev : Value) (up : Int) (vb : Value) (X : Nat) (wx : Value) (lx : List It) (la : Int) (w : World) (h : Sep w0 w (srvR SB RB BM LM v l bm lm lv logs (box X wx lx la :: rs))) (hl : l.length ≤ 1000000) (hr : Rise l) (his : isL l u d = true) (hg : getM bm (u, d) = some (.pointer (some ⟨X, 0, none⟩))) (hlx : lx.length ≤ 1000000000) :
    Calls Try.prog 10 #[.pointer (some ⟨SB, 0, none⟩), .agg (ac 3 u d n tr to ev up vb).toArray] w (fun e w' => e = .returned (.agg (rpE 3 u d n tr 0).toArray) ∧ ∃ wx' : Value, Sep w0 w' (srvR SB RB BM LM v l bm lm lv logs (box X wx' (kp up lx) la :: rs))) := by
  have g0 : (ac 3 u d n tr to ev up vb).toArray[0]? = some (.int .u8 3) := rfl
  have g1 : (ac 3 u d n tr to ev up vb).toArray[1]? = some (.int .i64 u) := rfl
  have g2 : (ac 3 u d n tr to ev up vb).toArray[2]? = some (.int .i64 d) := rfl
  have g3 : (ac 3 u d n tr to ev up vb).toArray[3]? = some (.int .u32 n) := rfl
  have g4 : (ac 3 u d n tr to ev up vb).toArray[4]? = some (.int .u32 tr) := rfl
  have g7 : (ac 3 u d n tr to ev up vb).toArray[7]? = some (.int .u64 up) := rfl
  have hal := ac_len 3 u d n tr to ev up vb
  obtain ⟨cs, hcs⟩ : ∃ cs, cs = ac 3 u d n tr to ev up vb := ⟨_, rfl⟩
  have Hcs := Lib.hid hcs
  rw [← hcs] at g0 g1 g2 g3 g4 g7 hal ⊢
  have hrp : ([.int .u8 3, .int .i64 u, .int .i64 d, .int .u32 n, .int .u32 tr, .int .i64 0, .slice none 0 0, .slice none 0 0, .slice none 0 0] : List Value).toArray.all (·.oneCell') = true := by simp [Value.oneCell']
  clear hcs
  go_enter Try.func10, Try.ntmps10
  go_upto_region 1 with (first
    | (refine wpList_box_new (op := ⟨some 3, .box 45 _, _, _, _, _⟩) rfl 45 _ rfl (.agg cs.toArray) rfl ?_; intro Z wZ oZ hZl hZb)
    | (refine wpList_alloc_new (op := ⟨some 4, .alloc 49, _, _, _, _⟩) rfl 49 rfl (.agg #[.int .u8 0, .int .i64 0, .int .i64 0, .int .u32 0, .int .u32 0, .int .i64 0, .slice none 0 0, .slice none 0 0, .slice none 0 0]) (fun _ => by kernel_rfl) ?_; intro T4 w4 o4 hT4l hT4; have hZ4 := o4.at hZb (by simp); have z0 := (cell_in hZ4 0).trans g0; have z1 := (cell_in hZ4 1).trans g1; have z2 := (cell_in hZ4 2).trans g2; have z3 := (cell_in hZ4 3).trans g3; have z4 := (cell_in hZ4 4).trans g4))
  go_upto_region 3 with (first
    | (refine wpList_alloc_new (op := ⟨some 5, .alloc 49, _, _, _, _⟩) rfl 49 rfl (.agg #[.int .u8 0, .int .i64 0, .int .i64 0, .int .u32 0, .int .u32 0, .int .i64 0, .slice none 0 0, .slice none 0 0, .slice none 0 0]) (fun _ => by kernel_rfl) ?_; intro RX w5 o5 hRXl hRX)
    | (refine wpList_store_blk (op := ⟨none, .store 49 _ _, _, _, _, _⟩) rfl 49 _ _ rfl RX [.int .u8 3, .int .i64 u, .int .i64 d, .int .u32 n, .int .u32 tr, .int .i64 0, .slice none 0 0, .slice none 0 0, .slice none 0 0] rfl rfl hRX rfl (by kernel_rfl) hrp ?_; intro w6 o6 hR6; have oRX := o5.new o6 (fun i hi => by simp only [List.mem_singleton] at hi; omega); clear z0 z1 z2 z3 z4))
  have sZ : Sep w0 wZ (blk Z cs 45 :: srvR SB RB BM LM v l bm lm lv logs (box X wx lx la :: rs)) := h.add oZ hZb (fun k hk => by simp [blk] at hk; omega)
  have s4 : Sep w0 w4 (blk T4 [.int .u8 0, .int .i64 0, .int .i64 0, .int .u32 0, .int .u32 0, .int .i64 0, .slice none 0 0, .slice none 0 0, .slice none 0 0] 49 :: blk Z cs 45 :: srvR SB RB BM LM v l bm lm lv logs (box X wx lx la :: rs)) := sZ.add o4 hT4 (fun k hk => by simp [blk] at hk; omega)
  have s6 : Sep w0 w6 (blk RX (rp0 3 u d n tr) 49 :: blk T4 [.int .u8 0, .int .i64 0, .int .i64 0, .int .u32 0, .int .u32 0, .int .i64 0, .slice none 0 0, .slice none 0 0, .slice none 0 0] 49 :: blk Z cs 45 :: srvR SB RB BM LM v l bm lm lv logs (box X wx lx la :: rs)) := s4.add oRX hR6 (fun k hk => by simp [blk] at hk; omega)
  have oW := (oZ.trans o4).trans oRX
  clear h sZ s4 oZ o4 oRX o5 o6 hZb hT4 hRX hR6 hZ4 hZl hT4l hRXl
  go_upto_region 5 with fail
  have sD := s6.quiet (Only.drew w6 [])
  clear s6
  refine wp_region_held_drew (S := fun w' => Only w6.drew w' []) (by kernel_rfl) (Only.refl _ _) (fun hHeld => ?_)
  refine' wpAnyH_take (i := 0) (v := _) (op_at rfl) (by kernel_rfl) (by kernel_rfl) (by kernel_rfl) (fun _ _ _ h => h) (Or.inl ⟨by rfl, ?hy57⟩) (by assumption) ?rest57
  case hy57 =>
    intro w' hS
    go_simp
    try with_reducible rfl
  try simp only [Act.put, List.setIfInBounds_toArray, List.set_cons_zero, List.set_cons_succ]
  refine' wpAnyH_take (i := 1) (v := _) (op_at rfl) (by kernel_rfl) (by kernel_rfl) (by kernel_rfl) (fun _ _ _ h => h) (Or.inl ⟨by rfl, ?hy58⟩) (by assumption) ?rest58
  case hy58 =>
    intro w' hS
    go_simp
    try with_reducible rfl
  try simp only [Act.put, List.setIfInBounds_toArray, List.set_cons_zero, List.set_cons_succ]
  refine' wpAnyH_take (i := 2) (v := _) (op_at rfl) (by kernel_rfl) (by kernel_rfl) (by kernel_rfl) (fun _ _ _ h => h) (Or.inl ⟨by rfl, ?hy59⟩) (by assumption) ?rest59
  case hy59 =>
    intro w' hS
    go_simp
    try with_reducible rfl
  try simp only [Act.put, List.setIfInBounds_toArray, List.set_cons_zero, List.set_cons_succ]
  refine' wpAnyH_take (i := 3) (v := _) (op_at rfl) (by kernel_rfl) (by kernel_rfl) (by kernel_rfl) (fun _ _ _ h => h) (Or.inl ⟨by rfl, ?hy60⟩) (by assumption) ?rest60
  case hy60 =>
    intro w' hS
    obtain ⟨c0, c1, c2, c3⟩ := sb_at ((sD.quiet hS).sel 7 [6]).head
    go_simp
    try with_reducible rfl
  try simp only [Act.put, List.setIfInBounds_toArray, List.set_cons_zero, List.set_cons_succ]
  refine' wpAnyH_take (i := 4) (v := _) (op_at rfl) (by kernel_rfl) (by kernel_rfl) (by kernel_rfl) (fun _ _ _ h => h) (Or.inl ⟨by rfl, ?hy61⟩) (by assumption) ?rest61
  case hy61 =>
    intro w' hS
    go_simp
    try with_reducible rfl
  try simp only [Act.put, List.setIfInBounds_toArray, List.set_cons_zero, List.set_cons_succ]
  refine' wpAnyH_take (i := 5) (v := _) (op_at rfl) (by kernel_rfl) (by kernel_rfl) (by kernel_rfl) (fun _ _ _ h => h) (Or.inl ⟨by rfl, ?hy62⟩) (by assumption) ?rest62
  case hy62 =>
    intro w' hS
    have hz_ := show w'.heap[Z]? = _ from ((sD.quiet hS).sel 3 [2]).head
    have z1 := (cell_in hz_ 1).trans g1
    have z2 := (cell_in hz_ 2).trans g2
    go_simp
    try with_reducible rfl
  try simp only [Act.put, List.setIfInBounds_toArray, List.set_cons_zero, List.set_cons_succ]
  refine wpAnyH_ready (rs := [6]) (by kernel_rfl) (by simp) (AllReadyH.cons (op_at rfl) (fun K hK => ?_) AllReadyH.nil)
  go_simp
  refine (is_any RB l v u d _ (sD.sel 5 [3, 4]) hl hr).mono fun e w9 hq => ?_
  obtain ⟨rfl, o9_⟩ := hq
  rw [his]
  go_wp2_with fail
  refine hK.out _ _ o9_ (fun hHeld => ?_)
  clear hK K
  try simp only [Act.put, List.setIfInBounds_toArray, List.set_cons_zero, List.set_cons_succ]
  refine' wpAnyH_take (i := 7) (v := _) (op_at rfl) (by kernel_rfl) (by kernel_rfl) (by kernel_rfl) (fun _ _ _ h => h) (Or.inl ⟨by rfl, ?hy63⟩) (by assumption) ?rest63
  case hy63 =>
    intro w' hS
    go_simp
    try with_reducible rfl
  try simp only [Act.put, List.setIfInBounds_toArray, List.set_cons_zero, List.set_cons_succ]
  refine' wpAnyH_take (i := 8) (v := _) (op_at rfl) (by kernel_rfl) (by kernel_rfl) (by kernel_rfl) (fun _ _ _ h => h) (Or.inl ⟨by rfl, ?hy64⟩) (by assumption) ?rest64
  case hy64 =>
    intro w' hS
    go_simp
    try with_reducible rfl
  try simp only [Act.put, List.setIfInBounds_toArray, List.set_cons_zero, List.set_cons_succ]
  refine wpAnyH_done (by kernel_rfl) ?_ _
  have s7 := sD.quiet hHeld
  have oV := oW.trans ((Only.drew w6 []).trans hHeld)
  generalize hwd : w6.drew = w7 at *
  have s7' := s7
  clear sD hHeld oW hwd o9_ s7
  have hZ9 : w9.heap[Z]? = some (.cells cs.toArray 45 (0, 0)) := (s7'.sel 3 [2]).head
  have z0 := (cell_in hZ9 0).trans g0
  go_upto_region 12 with fail
  have sD := s7'.quiet (Only.drew w9 [])
  clear s7' z0 hZ9
  refine wp_region_t (S := fun w' => Only w9.drew w' []) 9 (by kernel_rfl) (by kernel_rfl) (Only.refl _ _) (fun hZ hHeld => ?_)
  refine' wpAnyT_take (i := 0) (v := _) hZ (op_at' rfl) (by rfl) (by kernel_rfl) (by kernel_rfl) (by kernel_rfl) (by kernel_rfl) (fun _ _ _ h => h) (Or.inl ⟨by rfl, ?hy65⟩) (by assumption) ?rest65
  case hy65 =>
    intro w' hS
    go_simp
    try with_reducible rfl
  try simp only [Act.put, List.setIfInBounds_toArray, List.set_cons_zero, List.set_cons_succ]
  refine' wpAnyT_take (i := 1) (v := _) hZ (op_at' rfl) (by rfl) (by kernel_rfl) (by kernel_rfl) (by kernel_rfl) (by kernel_rfl) (fun _ _ _ h => h) (Or.inl ⟨by rfl, ?hy66⟩) (by assumption) ?rest66
  case hy66 =>
    intro w' hS
    go_simp
    try with_reducible rfl
  try simp only [Act.put, List.setIfInBounds_toArray, List.set_cons_zero, List.set_cons_succ]
  refine' wpAnyT_take (i := 2) (v := _) hZ (op_at' rfl) (by rfl) (by kernel_rfl) (by kernel_rfl) (by kernel_rfl) (by kernel_rfl) (fun _ _ _ h => h) (Or.inl ⟨by rfl, ?hy67⟩) (by assumption) ?rest67
  case hy67 =>
    intro w' hS
    go_simp
    try with_reducible rfl
  try simp only [Act.put, List.setIfInBounds_toArray, List.set_cons_zero, List.set_cons_succ]
  refine' wpAnyT_take (i := 3) (v := _) hZ (op_at' rfl) (by rfl) (by kernel_rfl) (by kernel_rfl) (by kernel_rfl) (by kernel_rfl) (fun _ _ _ h => h) (Or.inl ⟨by rfl, ?hy68⟩) (by assumption) ?rest68
  case hy68 =>
    intro w' hS
    obtain ⟨c0, c1, c2, c3⟩ := sb_at ((sD.quiet hS).sel 7 [6]).head
    go_simp
    try with_reducible rfl
  try simp only [Act.put, List.setIfInBounds_toArray, List.set_cons_zero, List.set_cons_succ]
  refine' wpAnyT_take (i := 4) (v := _) hZ (op_at' rfl) (by rfl) (by kernel_rfl) (by kernel_rfl) (by kernel_rfl) (by kernel_rfl) (fun _ _ _ h => h) (Or.inl ⟨by rfl, ?hy69⟩) (by assumption) ?rest69
  case hy69 =>
    intro w' hS
    go_simp
    try with_reducible rfl
  try simp only [Act.put, List.setIfInBounds_toArray, List.set_cons_zero, List.set_cons_succ]
  refine' wpAnyT_take (i := 5) (v := _) hZ (op_at' rfl) (by rfl) (by kernel_rfl) (by kernel_rfl) (by kernel_rfl) (by kernel_rfl) (fun _ _ _ h => h) (Or.inl ⟨by rfl, ?hy70⟩) (by assumption) ?rest70
  case hy70 =>
    intro w' hS
    have hz_ := show w'.heap[Z]? = _ from ((sD.quiet hS).sel 3 [2]).head
    have z1 := (cell_in hz_ 1).trans g1
    have z2 := (cell_in hz_ 2).trans g2
    go_simp
    try with_reducible rfl
  try simp only [Act.put, List.setIfInBounds_toArray, List.set_cons_zero, List.set_cons_succ]
  refine' wpAnyT_take (i := 6) (v := _) hZ (op_at' rfl) (by rfl) (by kernel_rfl) (by kernel_rfl) (by kernel_rfl) (by kernel_rfl) (fun _ _ _ h => h) (Or.inl ⟨by rfl, ?hy71⟩) (by assumption) ?rest71
  case hy71 =>
    intro w' hS
    have hl_ : (Instr.lookup 66 (.map (some BM)) (.agg #[.int .i64 u, .int .i64 d]) false).run Try.prog w' = .ok (.pointer (some ⟨X, 0, none⟩)) w' := by
      have := run_lookupW 66 51 (.pointer none) BM bm (u, d) ((sD.quiet hS).sel 8 [7]) Try.underlying66 (fun _ => by kernel_rfl)
      rw [hg] at this
      exact this
    go_simp
    try with_reducible rfl
  try simp only [Act.put, List.setIfInBounds_toArray, List.set_cons_zero, List.set_cons_succ]
  refine' wpAnyT_take (i := 7) (v := _) hZ (op_at' rfl) (by rfl) (by kernel_rfl) (by kernel_rfl) (by kernel_rfl) (by kernel_rfl) (fun _ _ _ h => h) (Or.inl ⟨by rfl, ?hy72⟩) (by assumption) ?rest72
  case hy72 =>
    intro w' hS
    go_simp
    try with_reducible rfl
  try simp only [Act.put, List.setIfInBounds_toArray, List.set_cons_zero, List.set_cons_succ]
  refine' wpAnyT_take (i := 8) (v := _) hZ (op_at' rfl) (by rfl) (by kernel_rfl) (by kernel_rfl) (by kernel_rfl) (by kernel_rfl) (fun _ _ _ h => h) (Or.inl ⟨by rfl, ?hy73⟩) (by assumption) ?rest73
  case hy73 =>
    intro w' hS
    have hz_ := show w'.heap[Z]? = _ from ((sD.quiet hS).sel 3 [2]).head
    have z7 := (cell_in hz_ 7).trans g7
    go_simp
    try with_reducible rfl
  try simp only [Act.put, List.setIfInBounds_toArray, List.set_cons_zero, List.set_cons_succ]
  refine wpAnyT_last (by kernel_rfl) (op_at' rfl) (by kernel_rfl) (fun K hK => ?_)
  go_simp
  refine (ack_any X wx lx la up _ (sD.sel 11 [10, 0, 1, 2, 3, 4, 5, 6, 7, 8, 9]) hlx).mono fun e wE hq => ?_
  obtain ⟨rfl, wx', sE⟩ := hq
  go_wp2_with fail
  refine hK.out _ _ ?_
  clear hK K
  try simp only [Act.put, List.setIfInBounds_toArray, List.set_cons_zero, List.set_cons_succ]
  clear sD hZ hHeld
  have hRXe : wE.heap[RX]? = some (.cells ([.int .u8 3, .int .i64 u, .int .i64 d, .int .u32 n, .int .u32 tr, .int .i64 0, .slice none 0 0, .slice none 0 0, .slice none 0 0] : List Value).toArray 49 (0, 0)) := (sE.sel 11 [1]).head
  have hT4e : wE.heap[T4]? = some (.cells ([.int .u8 0, .int .i64 0, .int .i64 0, .int .u32 0, .int .u32 0, .int .i64 0, .slice none 0 0, .slice none 0 0, .slice none 0 0] : List Value).toArray 49 (0, 0)) := (sE.sel 11 [2]).head
  have hre : ([.int .u8 3, .int .i64 u, .int .i64 d, .int .u32 n, .int .u32 tr, .int .i64 0, .slice none 0 0, .slice none 0 0, .slice none 0 0] : List Value).toArray.all (·.oneCell') = true := by simp [Value.oneCell']
  go_wp2_with (first
    | (refine wpList_load_blk (op := ⟨some 88, .load 49 _, _, _, _, _⟩) rfl 49 _ rfl RX rfl [.int .u8 3, .int .i64 u, .int .i64 d, .int .u32 n, .int .u32 tr, .int .i64 0, .slice none 0 0, .slice none 0 0, .slice none 0 0] _ hRXe Try.underlying49 (by rfl) (by kernel_rfl) ?_)
    | (refine wpList_store_blk (op := ⟨none, .store 49 _ _, _, _, _, _⟩) rfl 49 _ _ rfl T4 [.int .u8 3, .int .i64 u, .int .i64 d, .int .u32 n, .int .u32 tr, .int .i64 0, .slice none 0 0, .slice none 0 0, .slice none 0 0] rfl rfl hT4e rfl (by kernel_rfl) hre ?_; intro wF oF hTF))
  have d0 : wF.cell? ⟨T4, 0, none⟩ = some (.int .u8 3) := cell_in hTF 0
  have d1 : wF.cell? ⟨T4, 1, none⟩ = some (.int .i64 u) := cell_in hTF 1
  have d2 : wF.cell? ⟨T4, 2, none⟩ = some (.int .i64 d) := cell_in hTF 2
  have d3 : wF.cell? ⟨T4, 3, none⟩ = some (.int .u32 n) := cell_in hTF 3
  have d4 : wF.cell? ⟨T4, 4, none⟩ = some (.int .u32 tr) := cell_in hTF 4
  have d5 : wF.cell? ⟨T4, 5, none⟩ = some (.int .i64 0) := cell_in hTF 5
  have d6 : wF.cell? ⟨T4, 6, none⟩ = some (.slice none 0 0) := cell_in hTF 6
  have d7 : wF.cell? ⟨T4, 7, none⟩ = some (.slice none 0 0) := cell_in hTF 7
  have d8 : wF.cell? ⟨T4, 8, none⟩ = some (.slice none 0 0) := cell_in hTF 8
  have sF := (sE.sel 11 [2, 0, 1, 3, 4, 5, 6, 7, 8, 9, 10]).step (b := blk T4 [.int .u8 3, .int .i64 u, .int .i64 d, .int .u32 n, .int .u32 tr, .int .i64 0, .slice none 0 0, .slice none 0 0, .slice none 0 0] 49) oF (fun k hk => .inl (by simpa [blk] using hk)) hTF (fun k hk => .inl hk)
  clear hRXe hT4e sE oF hTF
  refine bodyPost_ret (v := .agg #[.int .u8 3, .int .i64 u, .int .i64 d, .int .u32 n, .int .u32 tr, .int .i64 0, .slice none 0 0, .slice none 0 0, .slice none 0 0]) (by simp [results, Try.results10, go_sem, d0, d1, d2, d3, d4, d5, d6, d7, d8]) rfl ?_
  exact ⟨rfl, wx', sF.sel 11 [4, 5, 6, 7, 8, 9, 10, 1]⟩
end Go.Proofs.Yticojdepepkdlaa
