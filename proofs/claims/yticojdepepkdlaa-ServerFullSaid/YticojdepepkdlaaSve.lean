/- Handle of layer 19 (server): no room. Printed by gen_svb.py. -/
import Derived.Test.YticojdepepkdlaaSva
set_option linter.unusedSimpArgs false
set_option linter.unusedVariables false
namespace Go.Proofs.Yticojdepepkdlaa
open Go.RowKit Go.Pw
set_option linter.unusedVariables false

set_option maxRecDepth 100000 in
set_option maxHeartbeats 2000000 in
theorem handle_full {w0 : World} {rs : List Res} (SB RB BM LM : Nat) (v : Value) (l : List Li) (bm lm : List ((Int × Int) × Value)) (lv : Value) (logs : List Sn) (u d n tr to : Int) (ev : Value) (up : Int) (vb : Value) (qs : List (Value × (Int × Int))) (w : World) (h : Sep w0 w (srvR SB RB BM LM v l bm lm lv logs (rs))) (hl : l.length ≤ 1000000) (hr : Rise l) (his : isL l u d = true) (hlast : (getM lm (u, d)).getD (.agg #[.int .u32 0, .bool false]) = .agg #[.int .u32 0, .bool false]) (hn : 0 < n ∧ n < 4294967296) (hu : W32 u) (hd : W32 d)
    (tos all : List (Int × Int)) (htl : tos.length ≤ 100) (hnd : tos.Nodup) (hqs : qs.map (·.2) = tos) (hall : audL l u d to = all) (hall1 : all.length ≤ 1000) (hall0 : 0 < all.length) (hlst : (listL l to).length ≠ 0)
    (hin1 : ∀ p ∈ all, hasW tos p.1 p.2 = true) (hin2 : ∀ p ∈ tos, hasW all p.1 p.2 = true) (rm : Int × Int → Int) (Hrooms : Rooms bm rm all w) (hany : all.any (fun p => decide (rm p < 1)) = true) (henv : Envs u d ev qs w) :
    Calls Try.prog 10 #[.pointer (some ⟨SB, 0, none⟩), .agg (ac 1 u d n tr to ev up vb).toArray] w (fun e w' => e = .returned (.agg (rpE 1 u d n tr 3).toArray) ∧ Sep w0 w' (srvR SB RB BM LM v l bm lm lv logs rs)) := by
  have g0 : (ac 1 u d n tr to ev up vb).toArray[0]? = some (.int .u8 1) := rfl
  have g1 : (ac 1 u d n tr to ev up vb).toArray[1]? = some (.int .i64 u) := rfl
  have g2 : (ac 1 u d n tr to ev up vb).toArray[2]? = some (.int .i64 d) := rfl
  have g3 : (ac 1 u d n tr to ev up vb).toArray[3]? = some (.int .u32 n) := rfl
  have g4 : (ac 1 u d n tr to ev up vb).toArray[4]? = some (.int .u32 tr) := rfl
  have g7 : (ac 1 u d n tr to ev up vb).toArray[7]? = some (.int .u64 up) := rfl
  have hal := ac_len 1 u d n tr to ev up vb
  obtain ⟨cs, hcs⟩ : ∃ cs, cs = ac 1 u d n tr to ev up vb := ⟨_, rfl⟩
  have Hcs := Lib.hid hcs
  rw [← hcs] at g0 g1 g2 g3 g4 g7 hal ⊢
  have hrp : ([.int .u8 1, .int .i64 u, .int .i64 d, .int .u32 n, .int .u32 tr, .int .i64 0, .slice none 0 0, .slice none 0 0, .slice none 0 0] : List Value).toArray.all (·.oneCell') = true := by simp [Value.oneCell']
  clear hcs
  go_enter Try.func10, Try.ntmps10
  go_upto_region 1 with (first
    | (refine wpList_box_new (op := ⟨some 3, .box 45 _, _, _, _, _⟩) rfl 45 _ rfl (.agg cs.toArray) rfl ?_; intro Z wZ oZ hZl hZb)
    | (refine wpList_alloc_new (op := ⟨some 4, .alloc 49, _, _, _, _⟩) rfl 49 rfl (.agg #[.int .u8 0, .int .i64 0, .int .i64 0, .int .u32 0, .int .u32 0, .int .i64 0, .slice none 0 0, .slice none 0 0, .slice none 0 0]) (fun _ => by kernel_rfl) ?_; intro T4 w4 o4 hT4l hT4; have hZ4 := o4.at hZb (by simp); have z0 := (cell_in hZ4 0).trans g0; have z1 := (cell_in hZ4 1).trans g1; have z2 := (cell_in hZ4 2).trans g2; have z3 := (cell_in hZ4 3).trans g3; have z4 := (cell_in hZ4 4).trans g4))
  go_upto_region 3 with (first
    | (refine wpList_alloc_new (op := ⟨some 5, .alloc 49, _, _, _, _⟩) rfl 49 rfl (.agg #[.int .u8 0, .int .i64 0, .int .i64 0, .int .u32 0, .int .u32 0, .int .i64 0, .slice none 0 0, .slice none 0 0, .slice none 0 0]) (fun _ => by kernel_rfl) ?_; intro RX w5 o5 hRXl hRX)
    | (refine wpList_store_blk (op := ⟨none, .store 49 _ _, _, _, _, _⟩) rfl 49 _ _ rfl RX [.int .u8 1, .int .i64 u, .int .i64 d, .int .u32 n, .int .u32 tr, .int .i64 0, .slice none 0 0, .slice none 0 0, .slice none 0 0] rfl rfl hRX rfl (by kernel_rfl) hrp ?_; intro w6 o6 hR6; have oRX := o5.new o6 (fun i hi => by simp only [List.mem_singleton] at hi; omega); clear z0 z1 z2 z3 z4))
  have sZ : Sep w0 wZ (blk Z cs 45 :: srvR SB RB BM LM v l bm lm lv logs (rs)) := h.add oZ hZb (fun k hk => by simp [blk] at hk; omega)
  have s4 : Sep w0 w4 (blk T4 [.int .u8 0, .int .i64 0, .int .i64 0, .int .u32 0, .int .u32 0, .int .i64 0, .slice none 0 0, .slice none 0 0, .slice none 0 0] 49 :: blk Z cs 45 :: srvR SB RB BM LM v l bm lm lv logs (rs)) := sZ.add o4 hT4 (fun k hk => by simp [blk] at hk; omega)
  have s6 : Sep w0 w6 (blk RX (rp0 1 u d n tr) 49 :: blk T4 [.int .u8 0, .int .i64 0, .int .i64 0, .int .u32 0, .int .u32 0, .int .i64 0, .slice none 0 0, .slice none 0 0, .slice none 0 0] 49 :: blk Z cs 45 :: srvR SB RB BM LM v l bm lm lv logs (rs)) := s4.add oRX hR6 (fun k hk => by simp [blk] at hk; omega)
  have oW := (oZ.trans o4).trans oRX
  clear h sZ s4 oZ o4 oRX o5 o6 hZb hT4 hRX hR6 hZ4 hZl hT4l hRXl
  go_upto_region 5 with fail
  have sD := s6.quiet (Only.drew w6 [])
  clear s6
  refine wp_region_held_drew (S := fun w' => Only w6.drew w' []) (by kernel_rfl) (Only.refl _ _) (fun hHeld => ?_)
  refine' wpAnyH_take (i := 0) (v := _) (op_at rfl) (by kernel_rfl) (by kernel_rfl) (by kernel_rfl) (fun _ _ _ h => h) (Or.inl ⟨by rfl, ?hy49⟩) (by assumption) ?rest49
  case hy49 =>
    intro w' hS
    go_simp
    try with_reducible rfl
  try simp only [Act.put, List.setIfInBounds_toArray, List.set_cons_zero, List.set_cons_succ]
  refine' wpAnyH_take (i := 1) (v := _) (op_at rfl) (by kernel_rfl) (by kernel_rfl) (by kernel_rfl) (fun _ _ _ h => h) (Or.inl ⟨by rfl, ?hy50⟩) (by assumption) ?rest50
  case hy50 =>
    intro w' hS
    go_simp
    try with_reducible rfl
  try simp only [Act.put, List.setIfInBounds_toArray, List.set_cons_zero, List.set_cons_succ]
  refine' wpAnyH_take (i := 2) (v := _) (op_at rfl) (by kernel_rfl) (by kernel_rfl) (by kernel_rfl) (fun _ _ _ h => h) (Or.inl ⟨by rfl, ?hy51⟩) (by assumption) ?rest51
  case hy51 =>
    intro w' hS
    go_simp
    try with_reducible rfl
  try simp only [Act.put, List.setIfInBounds_toArray, List.set_cons_zero, List.set_cons_succ]
  refine' wpAnyH_take (i := 3) (v := _) (op_at rfl) (by kernel_rfl) (by kernel_rfl) (by kernel_rfl) (fun _ _ _ h => h) (Or.inl ⟨by rfl, ?hy52⟩) (by assumption) ?rest52
  case hy52 =>
    intro w' hS
    obtain ⟨c0, c1, c2, c3⟩ := sb_at ((sD.quiet hS).sel 7 [6]).head
    go_simp
    try with_reducible rfl
  try simp only [Act.put, List.setIfInBounds_toArray, List.set_cons_zero, List.set_cons_succ]
  refine' wpAnyH_take (i := 4) (v := _) (op_at rfl) (by kernel_rfl) (by kernel_rfl) (by kernel_rfl) (fun _ _ _ h => h) (Or.inl ⟨by rfl, ?hy53⟩) (by assumption) ?rest53
  case hy53 =>
    intro w' hS
    go_simp
    try with_reducible rfl
  try simp only [Act.put, List.setIfInBounds_toArray, List.set_cons_zero, List.set_cons_succ]
  refine' wpAnyH_take (i := 5) (v := _) (op_at rfl) (by kernel_rfl) (by kernel_rfl) (by kernel_rfl) (fun _ _ _ h => h) (Or.inl ⟨by rfl, ?hy54⟩) (by assumption) ?rest54
  case hy54 =>
    intro w' hS
    have hz_ := show w'.heap[Z]? = _ from ((sD.quiet hS).sel 3 [2]).head
    have z1 := (cell_in hz_ 1).trans g1
    have z2 := (cell_in hz_ 2).trans g2
    go_simp
    try with_reducible rfl
  try simp only [Act.put, List.setIfInBounds_toArray, List.set_cons_zero, List.set_cons_succ]
  refine wpAnyH_ready (rs := [6]) (by kernel_rfl) (by simp) (AllReadyH.cons (op_at rfl) (fun K hK => ?_) AllReadyH.nil)
  go_simp
  refine (is_any RB l v u d _ (sD.sel 5 [3, 4]) hl hr).mono fun e w9 hq => ?_
  obtain ⟨rfl, o9_⟩ := hq
  rw [his]
  go_wp2_with fail
  refine hK.out _ _ o9_ (fun hHeld => ?_)
  clear hK K
  try simp only [Act.put, List.setIfInBounds_toArray, List.set_cons_zero, List.set_cons_succ]
  refine' wpAnyH_take (i := 7) (v := _) (op_at rfl) (by kernel_rfl) (by kernel_rfl) (by kernel_rfl) (fun _ _ _ h => h) (Or.inl ⟨by rfl, ?hy55⟩) (by assumption) ?rest55
  case hy55 =>
    intro w' hS
    go_simp
    try with_reducible rfl
  try simp only [Act.put, List.setIfInBounds_toArray, List.set_cons_zero, List.set_cons_succ]
  refine' wpAnyH_take (i := 8) (v := _) (op_at rfl) (by kernel_rfl) (by kernel_rfl) (by kernel_rfl) (fun _ _ _ h => h) (Or.inl ⟨by rfl, ?hy56⟩) (by assumption) ?rest56
  case hy56 =>
    intro w' hS
    go_simp
    try with_reducible rfl
  try simp only [Act.put, List.setIfInBounds_toArray, List.set_cons_zero, List.set_cons_succ]
  refine wpAnyH_done (by kernel_rfl) ?_ _
  have s7 := sD.quiet hHeld
  have oV := oW.trans ((Only.drew w6 []).trans hHeld)
  generalize hwd : w6.drew = w7 at *
  have s7' := s7
  clear sD hHeld oW hwd o9_ s7
  have hZ9 : w9.heap[Z]? = some (.cells cs.toArray 45 (0, 0)) := (s7'.sel 3 [2]).head
  have z0 := (cell_in hZ9 0).trans g0
  have sP := s7'.sel 10 [3, 4, 5, 6, 7, 8, 9, 0, 1, 2]
  have Hp := post_full SB RB BM LM RX v l bm lm lv logs 1 u d n tr to ev up vb qs w9 sP hlast hn hu hd hl hr tos all htl hnd hqs hall hall1 hall0 hlst hin1 hin2 rm (fun p hp => by obtain ⟨X, h1, h2⟩ := Hrooms p hp; exact ⟨X, h1, fun w' o => h2 w' (oV.trans o)⟩) hany (henv.new oV)
  rw [← Hcs.out] at Hp
  clear s7' hqs hall Hrooms hany henv
  go_wp2_with (refine wpList_load_blk (op := ⟨some 35, .load 45 _, _, _, _, _⟩) rfl 45 _ rfl Z rfl cs _ hZ9 Try.underlying45 (by rfl) (by rw [hal]; kernel_rfl) ?_)
  refine Hp.mono ?_
  rintro e wE ⟨rfl, sE⟩
  clear sP Hp z0 hZ9
  have hRXe : wE.heap[RX]? = some (.cells ([.int .u8 1, .int .i64 u, .int .i64 d, .int .u32 n, .int .u32 tr, .int .i64 3, .slice none 0 0, .slice none 0 0, .slice none 0 0] : List Value).toArray 49 (0, 0)) := (sE.sel 10 [7]).head
  have hT4e : wE.heap[T4]? = some (.cells ([.int .u8 0, .int .i64 0, .int .i64 0, .int .u32 0, .int .u32 0, .int .i64 0, .slice none 0 0, .slice none 0 0, .slice none 0 0] : List Value).toArray 49 (0, 0)) := (sE.sel 10 [8]).head
  have hre : ([.int .u8 1, .int .i64 u, .int .i64 d, .int .u32 n, .int .u32 tr, .int .i64 3, .slice none 0 0, .slice none 0 0, .slice none 0 0] : List Value).toArray.all (·.oneCell') = true := by simp [Value.oneCell']
  go_wp2_with (first
    | (refine wpList_load_blk (op := ⟨some 88, .load 49 _, _, _, _, _⟩) rfl 49 _ rfl RX rfl [.int .u8 1, .int .i64 u, .int .i64 d, .int .u32 n, .int .u32 tr, .int .i64 3, .slice none 0 0, .slice none 0 0, .slice none 0 0] _ hRXe Try.underlying49 (by rfl) (by kernel_rfl) ?_)
    | (refine wpList_store_blk (op := ⟨none, .store 49 _ _, _, _, _, _⟩) rfl 49 _ _ rfl T4 [.int .u8 1, .int .i64 u, .int .i64 d, .int .u32 n, .int .u32 tr, .int .i64 3, .slice none 0 0, .slice none 0 0, .slice none 0 0] rfl rfl hT4e rfl (by kernel_rfl) hre ?_; intro wF oF hTF))
  have d0 : wF.cell? ⟨T4, 0, none⟩ = some (.int .u8 1) := cell_in hTF 0
  have d1 : wF.cell? ⟨T4, 1, none⟩ = some (.int .i64 u) := cell_in hTF 1
  have d2 : wF.cell? ⟨T4, 2, none⟩ = some (.int .i64 d) := cell_in hTF 2
  have d3 : wF.cell? ⟨T4, 3, none⟩ = some (.int .u32 n) := cell_in hTF 3
  have d4 : wF.cell? ⟨T4, 4, none⟩ = some (.int .u32 tr) := cell_in hTF 4
  have d5 : wF.cell? ⟨T4, 5, none⟩ = some (.int .i64 3) := cell_in hTF 5
  have d6 : wF.cell? ⟨T4, 6, none⟩ = some (.slice none 0 0) := cell_in hTF 6
  have d7 : wF.cell? ⟨T4, 7, none⟩ = some (.slice none 0 0) := cell_in hTF 7
  have d8 : wF.cell? ⟨T4, 8, none⟩ = some (.slice none 0 0) := cell_in hTF 8
  have sF := (sE.sel 10 [8, 0, 1, 2, 3, 4, 5, 6, 7, 9]).step (b := blk T4 [.int .u8 1, .int .i64 u, .int .i64 d, .int .u32 n, .int .u32 tr, .int .i64 3, .slice none 0 0, .slice none 0 0, .slice none 0 0] 49) oF (fun k hk => .inl (by simpa [blk] using hk)) hTF (fun k hk => .inl hk)
  clear hRXe hT4e sE oF hTF
  refine bodyPost_ret (v := .agg #[.int .u8 1, .int .i64 u, .int .i64 d, .int .u32 n, .int .u32 tr, .int .i64 3, .slice none 0 0, .slice none 0 0, .slice none 0 0]) (by simp [results, Try.results10, go_sem, d0, d1, d2, d3, d4, d5, d6, d7, d8]) rfl ?_
  exact ⟨rfl, sF.sel 10 [1, 2, 3, 4, 5, 6, 7]⟩
end Go.Proofs.Yticojdepepkdlaa
