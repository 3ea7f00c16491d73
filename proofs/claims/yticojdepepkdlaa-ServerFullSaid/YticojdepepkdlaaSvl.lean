/- post of layer 19 (server): no envelope, one device. Printed by gen_svl.py. -/
import Derived.Test.YticojdepepkdlaaSv6
set_option linter.unusedSimpArgs false
set_option linter.unusedVariables false
namespace Go.Proofs.Yticojdepepkdlaa
open Go.RowKit Go.Pw
set_option linter.unusedVariables false

/-- What post answers. -/
def Listed (w0 : World) (rs : List Res) (RX T4 : Nat) (tz : List Value) (k u d n tr bu bd : Int) (e : Ending) (w' : World) : Prop :=
  e = .returned (.tuple #[]) ∧ ∃ (g c : Nat) (b : Bu), b.u = bu ∧ b.d = bd ∧ Sep w0 w' (blk RX [.int .u8 k, .int .i64 u, .int .i64 d, .int .u32 n, .int .u32 tr, .int .i64 12, .slice (some ⟨g, 0, none⟩) 1 c, .slice none 0 0, .slice none 0 0] 49 :: row 63 10 (.slice (some ⟨g, 0, none⟩) 1 c) 1 (fl bc [b]) :: blk T4 tz 49 :: rs)

set_option maxRecDepth 100000 in
set_option maxHeartbeats 2000000 in
theorem post_list {w0 : World} {rs : List Res} (SB RB BM LM RX : Nat) (v : Value) (l : List Li) (bm lm : List ((Int × Int) × Value)) (lv : Value) (logs : List Sn) (k u d n tr to : Int) (ev : Value) (up : Int) (vb : Value) (T4 : Nat) (tz : List Value) (w : World) (h : Sep w0 w (srvR SB RB BM LM v l bm lm lv logs (blk RX (rp0 k u d n tr) 49 :: blk T4 tz 49 :: rs))) (hlast : (getM lm (u, d)).getD (.agg #[.int .u32 0, .bool false]) = .agg #[.int .u32 0, .bool false]) (hn : 0 < n ∧ n < 4294967296) (hu : W32 u) (hd : W32 d) (hl : l.length ≤ 1000000) (hr : Rise l)
    (bu bd : Int) (hall : audL l u d to = [(bu, bd)]) (hlst : (listL l to).length ≠ 0) (kx : Nat) (x : Li) (hf : foundL l bu bd = true) (hp : placeL l bu bd = kx) (hk : kx < l.length) (hx : l[kx] = x) (hon : x.on = true) (b : Bu) (os : List Bu) (hos : x.os = b :: os) (hol : os.length ≤ 900) (hbu : b.u = bu) (hbd : b.d = bd) (hev : ev = .slice none 0 0) :
    Calls Try.prog 21 #[.pointer (some ⟨SB, 0, none⟩), .agg (ac k u d n tr to ev up vb).toArray, .pointer (some ⟨RX, 0, none⟩)] w (Listed w0 rs RX T4 tz k u d n tr bu bd) := by
  have Henv : Envs u d ev [] w := ⟨by subst hev; exact ⟨none, 0, rfl, Nat.le_refl _, Nat.zero_le _, rfl, fun _ => ⟨rfl, rfl⟩, by simp⟩, by simp⟩
  have Haddr := fun (w' : World) (o : Only w w' []) => addressed_any k u d n tr to ev up vb [] w' (Henv.new o) hu hd (by simp) (by simp)
  have Haud := fun (w' : World) (o : Only w w' []) => audience_any RB l v u d to w' ((h.quiet o).sel 2 [0, 1]) hl hr
  rw [hall] at Haud
  have Hlist := fun (w' : World) (o : Only w w' []) => list_any RB l v to w' ((h.quiet o).sel 2 [0, 1]) hl hr
  obtain ⟨nl, hnl⟩ : ∃ nl, nl = (listL l to).length := ⟨_, rfl⟩
  unfold Whos at Hlist
  rw [← hnl] at Hlist hlst
  have dnl : ((nl : Int) == 0) = false := by simp; omega
  unfold Whos2 at Haddr
  unfold Whos at Haud
  simp only [List.map_nil, List.length_nil, List.length_singleton] at Haddr Haud
  obtain ⟨i1, ji, jz0, jz1, jz2⟩ := info_parts bun_info
  have HT := Lib.hid (And.intro hf (And.intro hp (And.intro hx (And.intro hon hos))))
  clear hnl hlst hall hev Henv hf hp hx hon hos
  have hlk := fun (w' : World) (o : Only w w' []) => run_lookupW 67 101 (.agg #[.int .u32 0, .bool false]) LM lm (u, d) ((h.quiet o).sel 6 [5]) Try.underlying67 (fun _ => by kernel_rfl)
  rw [hlast] at hlk
  have g1 : (ac k u d n tr to ev up vb).toArray[1]? = some (.int .i64 u) := rfl
  have g2 : (ac k u d n tr to ev up vb).toArray[2]? = some (.int .i64 d) := rfl
  have g3 : (ac k u d n tr to ev up vb).toArray[3]? = some (.int .u32 n) := rfl
  have g5 : (ac k u d n tr to ev up vb).toArray[5]? = some (.int .i64 to) := rfl
  have g6 : (ac k u d n tr to ev up vb).toArray[6]? = some ev := rfl
  have hal := ac_len k u d n tr to ev up vb
  obtain ⟨cs, hcs⟩ : ∃ cs, cs = ac k u d n tr to ev up vb := ⟨_, rfl⟩
  have Hcs := Lib.hid hcs
  rw [← hcs] at g1 g2 g3 g5 g6 hal ⊢
  clear hlast hcs
  go_enter Try.func21, Try.ntmps21
  go_upto_region 1 with (first
    | (refine wpList_box_new rfl 24 _ rfl (.pointer (some ⟨SB, 0, none⟩)) rfl ?_; intro A wA oA hAl hA)
    | (refine wpList_box_new rfl 45 _ rfl (.agg cs.toArray) rfl ?_; intro Z wZ oZ hZl hZb))
  have sA : Sep w0 wA (blk A [.pointer (some ⟨SB, 0, none⟩)] 24 :: srvR SB RB BM LM v l bm lm lv logs (blk RX (rp0 k u d n tr) 49 :: blk T4 tz 49 :: rs)) := h.add oA hA (fun k hk => by simp [blk] at hk; omega)
  have sZ : Sep w0 wZ (blk Z cs 45 :: blk A [.pointer (some ⟨SB, 0, none⟩)] 24 :: srvR SB RB BM LM v l bm lm lv logs (blk RX (rp0 k u d n tr) 49 :: blk T4 tz 49 :: rs)) := sA.add oZ hZb (fun k hk => by simp [blk] at hk; omega)
  have sD := sZ.quiet (Only.drew wZ [])
  have oAZ := oA.trans oZ
  clear h sZ sA oA oZ hA hZb hAl hZl
  refine wp_region_t (S := fun w' => Only wZ.drew w' []) 8 (by kernel_rfl) (by kernel_rfl) (Only.refl _ _) (fun hZ hHeld => ?_)
  refine' wpAnyT_take (i := 0) (v := _) hZ (op_at' rfl) (by rfl) (by kernel_rfl) (by kernel_rfl) (by kernel_rfl) (by kernel_rfl) (fun _ _ _ h => h) (Or.inl ⟨by rfl, ?hy1⟩) (by assumption) ?rest1
  case hy1 =>
    intro w' hS
    have hc0 := cell_of_one (show w'.heap[A]? = _ from ((sD.quiet hS).sel 2 [1]).head)
    go_simp
    try with_reducible rfl
  try simp only [Act.put, List.setIfInBounds_toArray, List.set_cons_zero, List.set_cons_succ]
  refine' wpAnyT_take (i := 1) (v := _) hZ (op_at' rfl) (by rfl) (by kernel_rfl) (by kernel_rfl) (by kernel_rfl) (by kernel_rfl) (fun _ _ _ h => h) (Or.inl ⟨by rfl, ?hy2⟩) (by assumption) ?rest2
  case hy2 =>
    intro w' hS
    go_simp
    try with_reducible rfl
  try simp only [Act.put, List.setIfInBounds_toArray, List.set_cons_zero, List.set_cons_succ]
  refine' wpAnyT_take (i := 2) (v := _) hZ (op_at' rfl) (by rfl) (by kernel_rfl) (by kernel_rfl) (by kernel_rfl) (by kernel_rfl) (fun _ _ _ h => h) (Or.inl ⟨by rfl, ?hy3⟩) (by assumption) ?rest3
  case hy3 =>
    intro w' hS
    go_simp
    try with_reducible rfl
  try simp only [Act.put, List.setIfInBounds_toArray, List.set_cons_zero, List.set_cons_succ]
  refine' wpAnyT_take (i := 3) (v := _) hZ (op_at' rfl) (by rfl) (by kernel_rfl) (by kernel_rfl) (by kernel_rfl) (by kernel_rfl) (fun _ _ _ h => h) (Or.inl ⟨by rfl, ?hy4⟩) (by assumption) ?rest4
  case hy4 =>
    intro w' hS
    obtain ⟨c0, c1, c2, c3⟩ := sb_at ((sD.quiet hS).sel 6 [5]).head
    go_simp
    try with_reducible rfl
  try simp only [Act.put, List.setIfInBounds_toArray, List.set_cons_zero, List.set_cons_succ]
  refine' wpAnyT_take (i := 4) (v := _) hZ (op_at' rfl) (by rfl) (by kernel_rfl) (by kernel_rfl) (by kernel_rfl) (by kernel_rfl) (fun _ _ _ h => h) (Or.inl ⟨by rfl, ?hy5⟩) (by assumption) ?rest5
  case hy5 =>
    intro w' hS
    go_simp
    try with_reducible rfl
  try simp only [Act.put, List.setIfInBounds_toArray, List.set_cons_zero, List.set_cons_succ]
  refine' wpAnyT_take (i := 5) (v := _) hZ (op_at' rfl) (by rfl) (by kernel_rfl) (by kernel_rfl) (by kernel_rfl) (by kernel_rfl) (fun _ _ _ h => h) (Or.inl ⟨by rfl, ?hy6⟩) (by assumption) ?rest6
  case hy6 =>
    intro w' hS
    have hz_ := show w'.heap[Z]? = _ from (sD.quiet hS).head
    have z1 := (cell_in hz_ 1).trans g1
    have z2 := (cell_in hz_ 2).trans g2
    go_simp
    try with_reducible rfl
  try simp only [Act.put, List.setIfInBounds_toArray, List.set_cons_zero, List.set_cons_succ]
  refine' wpAnyT_take (i := 6) (v := _) hZ (op_at' rfl) (by rfl) (by kernel_rfl) (by kernel_rfl) (by kernel_rfl) (by kernel_rfl) (fun _ _ _ h => h) (Or.inl ⟨by rfl, ?hy7⟩) (by assumption) ?rest7
  case hy7 =>
    intro w' hS
    have hl_ : (Instr.lookup 67 (.map (some LM)) (.agg #[.int .i64 u, .int .i64 d]) false).run Try.prog w' = .ok (.agg #[.int .u32 0, .bool false]) w' := hlk w' (oAZ.trans ((Only.drew wZ []).trans hS))
    go_simp
    try with_reducible rfl
  try simp only [Act.put, List.setIfInBounds_toArray, List.set_cons_zero, List.set_cons_succ]
  refine wpAnyT_one (i := 7) (by kernel_rfl) (op_at' rfl) (fun K hK => ?_)
  refine step_alloc_new (by rfl) 101 (by rfl) (.agg #[.int .u32 0, .bool false]) (fun _ => by kernel_rfl) (fun T5 w7 o7 l7 h7 => ?_)
  go_wp2_with fail
  refine hK.out _ _ o7 (fun hHeld => ?_)
  clear hK K
  try simp only [Act.put, List.setIfInBounds_toArray, List.set_cons_zero, List.set_cons_succ]
  refine wpAnyT_last (by kernel_rfl) (op_at' rfl) (by kernel_rfl) (fun K hK => ?_)
  refine step_store_blk (by rfl) 101 _ _ (by rfl) T5 0 (.agg #[.int .u32 0, .bool false]) [.int .u32 0, .bool false] [.int .u32 0, .bool false] 101 (by rfl) (by rfl) (by rfl) (sD.add (b := blk T5 [.int .u32 0, .bool false] 101) o7 h7 (fun k hk => by simp [blk] at hk; omega)) (by simp) (by kernel_rfl) (by simp [Value.oneCell']) (fun w8 o8 s8 => ?_)
  go_wp2_with fail
  refine hK.out _ _ ?_
  clear hK K
  try simp only [Act.put, List.setIfInBounds_toArray, List.set_cons_zero, List.set_cons_succ]
  have s9 : Sep w0 w8 (blk A [.pointer (some ⟨SB, 0, none⟩)] 24 :: blk Z cs 45 :: srvR SB RB BM LM v l bm lm lv logs (blk RX (rp0 k u d n tr) 49 :: blk T4 tz 49 :: rs)) := s8.sel 3 [2, 1]
  have o8d : Only wZ.drew w8 [] := o7.new o8 (fun i hi => by simp only [List.mem_singleton] at hi; omega)
  have hT8 : w8.heap[T5]? = some (.cells #[.int .u32 0, .bool false] 101 (0, 0)) := s8.head
  have hZ7 : w8.heap[Z]? = some (.cells cs.toArray 45 (0, 0)) := (s9.sel 2 [1]).head
  have z3 := (cell_in hZ7 3).trans g3
  have t0 := cell_two0 hT8
  have t1 := cell_two1 hT8
  clear hT8 sD hlk hZ hHeld s8
  have d1 : (n == 0) = false := by simp; omega
  have d2 : decide (n ≤ 0) = false := by simp; omega
  rw [← Hcs.out] at Haddr
  go_wp2_with (refine wpList_load_blk rfl 45 _ rfl Z rfl cs _ hZ7 Try.underlying45 (by rfl) (by rw [hal]; kernel_rfl) ?_)
  have o8w : Only w w8 [] := (oAZ.trans (Only.drew wZ [])).trans o8d
  refine (Haddr _ o8w).mono ?_
  rintro e w10 ⟨at_, ct, rfl, sT⟩
  have s10 := (s9.plus sT)
  have oB := o8w.trans sT.only
  clear z3 t0 t1 Haddr sT s9 hZ7
  go_upto_region 8 with fail
  refine wp_region_held_drew (S := fun w' => Only w10.drew w' []) (by kernel_rfl) (Only.refl _ _) (fun hHeld => ?_)
  refine' wpAnyH_take (i := 0) (v := _) (op_at rfl) (by kernel_rfl) (by kernel_rfl) (by kernel_rfl) (fun _ _ _ h => h) (Or.inl ⟨by rfl, ?hy8⟩) (by assumption) ?rest8
  case hy8 =>
    intro w' hS
    have hc0 := cell_of_one (show w'.heap[A]? = _ from (((s10.quiet (Only.drew w10 [])).quiet hS).sel 2 [1]).head)
    go_simp
    try with_reducible rfl
  try simp only [Act.put, List.setIfInBounds_toArray, List.set_cons_zero, List.set_cons_succ]
  refine' wpAnyH_take (i := 1) (v := _) (op_at rfl) (by kernel_rfl) (by kernel_rfl) (by kernel_rfl) (fun _ _ _ h => h) (Or.inl ⟨by rfl, ?hy9⟩) (by assumption) ?rest9
  case hy9 =>
    intro w' hS
    go_simp
    try with_reducible rfl
  try simp only [Act.put, List.setIfInBounds_toArray, List.set_cons_zero, List.set_cons_succ]
  refine' wpAnyH_take (i := 2) (v := _) (op_at rfl) (by kernel_rfl) (by kernel_rfl) (by kernel_rfl) (fun _ _ _ h => h) (Or.inl ⟨by rfl, ?hy10⟩) (by assumption) ?rest10
  case hy10 =>
    intro w' hS
    go_simp
    try with_reducible rfl
  try simp only [Act.put, List.setIfInBounds_toArray, List.set_cons_zero, List.set_cons_succ]
  refine' wpAnyH_take (i := 3) (v := _) (op_at rfl) (by kernel_rfl) (by kernel_rfl) (by kernel_rfl) (fun _ _ _ h => h) (Or.inl ⟨by rfl, ?hy11⟩) (by assumption) ?rest11
  case hy11 =>
    intro w' hS
    obtain ⟨c0, c1, c2, c3⟩ := sb_at (((s10.quiet (Only.drew w10 [])).quiet hS).sel 7 [6]).head
    go_simp
    try with_reducible rfl
  try simp only [Act.put, List.setIfInBounds_toArray, List.set_cons_zero, List.set_cons_succ]
  refine' wpAnyH_take (i := 4) (v := _) (op_at rfl) (by kernel_rfl) (by kernel_rfl) (by kernel_rfl) (fun _ _ _ h => h) (Or.inl ⟨by rfl, ?hy12⟩) (by assumption) ?rest12
  case hy12 =>
    intro w' hS
    go_simp
    try with_reducible rfl
  try simp only [Act.put, List.setIfInBounds_toArray, List.set_cons_zero, List.set_cons_succ]
  refine' wpAnyH_take (i := 5) (v := _) (op_at rfl) (by kernel_rfl) (by kernel_rfl) (by kernel_rfl) (fun _ _ _ h => h) (Or.inl ⟨by rfl, ?hy13⟩) (by assumption) ?rest13
  case hy13 =>
    intro w' hS
    have hz_ := show w'.heap[Z]? = _ from (((s10.quiet (Only.drew w10 [])).quiet hS).sel 3 [2]).head
    have z1 := (cell_in hz_ 1).trans g1
    have z2 := (cell_in hz_ 2).trans g2
    go_simp
    try with_reducible rfl
  try simp only [Act.put, List.setIfInBounds_toArray, List.set_cons_zero, List.set_cons_succ]
  refine' wpAnyH_take (i := 6) (v := _) (op_at rfl) (by kernel_rfl) (by kernel_rfl) (by kernel_rfl) (fun _ _ _ h => h) (Or.inl ⟨by rfl, ?hy14⟩) (by assumption) ?rest14
  case hy14 =>
    intro w' hS
    go_simp
    try with_reducible rfl
  try simp only [Act.put, List.setIfInBounds_toArray, List.set_cons_zero, List.set_cons_succ]
  refine' wpAnyH_take (i := 7) (v := _) (op_at rfl) (by kernel_rfl) (by kernel_rfl) (by kernel_rfl) (fun _ _ _ h => h) (Or.inl ⟨by rfl, ?hy15⟩) (by assumption) ?rest15
  case hy15 =>
    intro w' hS
    have hz_ := show w'.heap[Z]? = _ from (((s10.quiet (Only.drew w10 [])).quiet hS).sel 3 [2]).head
    have z5 := (cell_in hz_ 5).trans g5
    go_simp
    try with_reducible rfl
  try simp only [Act.put, List.setIfInBounds_toArray, List.set_cons_zero, List.set_cons_succ]
  refine wpAnyH_ready (rs := [8]) (by kernel_rfl) (by simp) (AllReadyH.cons (op_at rfl) (fun K hK => ?_) AllReadyH.nil)
  go_simp
  refine (Haud _ (oB.trans (Only.drew w10 []))).mono fun e w11 hq => ?_
  obtain ⟨aa, ca, rfl, sA⟩ := hq
  go_wp2_with fail
  refine hK.out _ _ sA.only (fun hHeld => ?_)
  clear hK K
  try simp only [Act.put, List.setIfInBounds_toArray, List.set_cons_zero, List.set_cons_succ]
  refine' wpAnyH_take (i := 9) (v := _) (op_at rfl) (by kernel_rfl) (by kernel_rfl) (by kernel_rfl) (fun _ _ _ h => h) (Or.inl ⟨by rfl, ?hy16⟩) (by assumption) ?rest16
  case hy16 =>
    intro w' hS
    go_simp
    try with_reducible rfl
  try simp only [Act.put, List.setIfInBounds_toArray, List.set_cons_zero, List.set_cons_succ]
  refine wpAnyH_done (by kernel_rfl) ?_ _
  have s11 := ((s10.quiet (Only.drew w10 [])).plus sA)
  have oC := (oB.trans (Only.drew w10 [])).trans sA.only
  clear s10 sA hHeld oB Haud
  go_upto_region 9 with fail
  refine wp_region_held_drew (S := fun w' => Only w11.drew w' []) (by kernel_rfl) (Only.refl _ _) (fun hHeld => ?_)
  refine' wpAnyH_take (i := 0) (v := _) (op_at rfl) (by kernel_rfl) (by kernel_rfl) (by kernel_rfl) (fun _ _ _ h => h) (Or.inl ⟨by rfl, ?hy17⟩) (by assumption) ?rest17
  case hy17 =>
    intro w' hS
    have hc0 := cell_of_one (show w'.heap[A]? = _ from (((s11.quiet (Only.drew w11 [])).quiet hS).sel 3 [2]).head)
    go_simp
    try with_reducible rfl
  try simp only [Act.put, List.setIfInBounds_toArray, List.set_cons_zero, List.set_cons_succ]
  refine' wpAnyH_take (i := 1) (v := _) (op_at rfl) (by kernel_rfl) (by kernel_rfl) (by kernel_rfl) (fun _ _ _ h => h) (Or.inl ⟨by rfl, ?hy18⟩) (by assumption) ?rest18
  case hy18 =>
    intro w' hS
    go_simp
    try with_reducible rfl
  try simp only [Act.put, List.setIfInBounds_toArray, List.set_cons_zero, List.set_cons_succ]
  refine' wpAnyH_take (i := 2) (v := _) (op_at rfl) (by kernel_rfl) (by kernel_rfl) (by kernel_rfl) (fun _ _ _ h => h) (Or.inl ⟨by rfl, ?hy19⟩) (by assumption) ?rest19
  case hy19 =>
    intro w' hS
    go_simp
    try with_reducible rfl
  try simp only [Act.put, List.setIfInBounds_toArray, List.set_cons_zero, List.set_cons_succ]
  refine' wpAnyH_take (i := 3) (v := _) (op_at rfl) (by kernel_rfl) (by kernel_rfl) (by kernel_rfl) (fun _ _ _ h => h) (Or.inl ⟨by rfl, ?hy20⟩) (by assumption) ?rest20
  case hy20 =>
    intro w' hS
    obtain ⟨c0, c1, c2, c3⟩ := sb_at (((s11.quiet (Only.drew w11 [])).quiet hS).sel 8 [7]).head
    go_simp
    try with_reducible rfl
  try simp only [Act.put, List.setIfInBounds_toArray, List.set_cons_zero, List.set_cons_succ]
  refine' wpAnyH_take (i := 4) (v := _) (op_at rfl) (by kernel_rfl) (by kernel_rfl) (by kernel_rfl) (fun _ _ _ h => h) (Or.inl ⟨by rfl, ?hy21⟩) (by assumption) ?rest21
  case hy21 =>
    intro w' hS
    go_simp
    try with_reducible rfl
  try simp only [Act.put, List.setIfInBounds_toArray, List.set_cons_zero, List.set_cons_succ]
  refine' wpAnyH_take (i := 5) (v := _) (op_at rfl) (by kernel_rfl) (by kernel_rfl) (by kernel_rfl) (fun _ _ _ h => h) (Or.inl ⟨by rfl, ?hy22⟩) (by assumption) ?rest22
  case hy22 =>
    intro w' hS
    have hz_ := show w'.heap[Z]? = _ from (((s11.quiet (Only.drew w11 [])).quiet hS).sel 4 [3]).head
    have z5 := (cell_in hz_ 5).trans g5
    go_simp
    try with_reducible rfl
  try simp only [Act.put, List.setIfInBounds_toArray, List.set_cons_zero, List.set_cons_succ]
  refine wpAnyH_ready (rs := [6]) (by kernel_rfl) (by simp) (AllReadyH.cons (op_at rfl) (fun K hK => ?_) AllReadyH.nil)
  go_simp
  refine (Hlist _ (oC.trans (Only.drew w11 []))).mono fun e w12 hq => ?_
  obtain ⟨al, cl, rfl, sL⟩ := hq
  go_wp2_with fail
  refine hK.out _ _ sL.only (fun hHeld => ?_)
  clear hK K
  try simp only [Act.put, List.setIfInBounds_toArray, List.set_cons_zero, List.set_cons_succ]
  refine' wpAnyH_take (i := 7) (v := _) (op_at rfl) (by kernel_rfl) (by kernel_rfl) (by kernel_rfl) (fun _ _ _ h => h) (Or.inl ⟨by rfl, ?hy23⟩) (by assumption) ?rest23
  case hy23 =>
    intro w' hS
    go_simp
    try with_reducible rfl
  try simp only [Act.put, List.setIfInBounds_toArray, List.set_cons_zero, List.set_cons_succ]
  refine' wpAnyH_take (i := 8) (v := _) (op_at rfl) (by kernel_rfl) (by kernel_rfl) (by kernel_rfl) (fun _ _ _ h => h) (Or.inl ⟨by rfl, ?hy24⟩) (by assumption) ?rest24
  case hy24 =>
    intro w' hS
    go_simp
    try with_reducible rfl
  try simp only [Act.put, List.setIfInBounds_toArray, List.set_cons_zero, List.set_cons_succ]
  refine' wpAnyH_take (i := 9) (v := _) (op_at rfl) (by kernel_rfl) (by kernel_rfl) (by kernel_rfl) (fun _ _ _ h => h) (Or.inl ⟨by rfl, ?hy25⟩) (by assumption) ?rest25
  case hy25 =>
    intro w' hS
    go_simp
    try with_reducible rfl
  try simp only [Act.put, List.setIfInBounds_toArray, List.set_cons_zero, List.set_cons_succ]
  refine' wpAnyH_take (i := 10) (v := _) (op_at rfl) (by kernel_rfl) (by kernel_rfl) (by kernel_rfl) (fun _ _ _ h => h) (Or.inl ⟨by rfl, ?hy26⟩) (by assumption) ?rest26
  case hy26 =>
    intro w' hS
    go_simp
    try with_reducible rfl
  try simp only [Act.put, List.setIfInBounds_toArray, List.set_cons_zero, List.set_cons_succ]
  refine' wpAnyH_take (i := 11) (v := _) (op_at rfl) (by kernel_rfl) (by kernel_rfl) (by kernel_rfl) (fun _ _ _ h => h) (Or.inl ⟨by rfl, ?hy27⟩) (by assumption) ?rest27
  case hy27 =>
    intro w' hS
    go_simp
    try with_reducible rfl
  try simp only [Act.put, List.setIfInBounds_toArray, List.set_cons_zero, List.set_cons_succ]
  refine' wpAnyH_take (i := 12) (v := _) (op_at rfl) (by kernel_rfl) (by kernel_rfl) (by kernel_rfl) (fun _ _ _ h => h) (Or.inl ⟨by rfl, ?hy28⟩) (by assumption) ?rest28
  case hy28 =>
    intro w' hS
    go_simp
    try with_reducible rfl
  try simp only [Act.put, List.setIfInBounds_toArray, List.set_cons_zero, List.set_cons_succ]
  refine' wpAnyH_take (i := 13) (v := _) (op_at rfl) (by kernel_rfl) (by kernel_rfl) (by kernel_rfl) (fun _ _ _ h => h) (Or.inl ⟨by rfl, ?hy29⟩) (by assumption) ?rest29
  case hy29 =>
    intro w' hS
    go_simp
    try with_reducible rfl
  try simp only [Act.put, List.setIfInBounds_toArray, List.set_cons_zero, List.set_cons_succ]
  refine wpAnyH_done (by kernel_rfl) ?_ _
  have s12 := ((s11.quiet (Only.drew w11 [])).quiet sL.only)
  have oD := (oC.trans (Only.drew w11 [])).trans sL.only
  clear s11 sL hHeld oC Hlist
  obtain ⟨ga, hga, _⟩ := own_some (show w12.ownsRow 0 27 2 (.slice aa 1 ca) 1 (fl wc [(bu, bd)]) from s12.head) (by decide)
  subst hga
  have s12b : Sep w0 w12 (row 27 2 (.slice (some ⟨ga, 0, none⟩) 1 ca) 1 (fl wc [(bu, bd)]) :: row 27 2 (.slice at_ 0 ct) 0 (fl wc []) :: blk A [.pointer (some ⟨SB, 0, none⟩)] 24 :: blk Z cs 45 :: srvR SB RB BM LM v l bm lm lv logs (blk RX (rp0 k u d n tr) 49 :: blk T4 tz 49 :: rs)) := s12
  clear s12
  go_wp2_with fail
  go_loopw [11, 12, 13, 83] (fun _ _ _ z wr => (z = .int .i64 0 ∧ Pw.Sep w0 wr (row 27 2 (.slice (some ⟨ga, 0, none⟩) 1 ca) 1 (fl wc [(bu, bd)]) :: row 27 2 (.slice at_ 0 ct) 0 (fl wc []) :: blk A [.pointer (some ⟨SB, 0, none⟩)] 24 :: blk Z cs 45 :: srvR SB RB BM LM v l bm lm lv logs (blk RX (rp0 k u d n tr) 49 :: blk T4 tz 49 :: rs))) ∨ (z = .int .i64 1 ∧ ∃ (g c : Nat), Pw.Sep w0 wr (blk RX ([.int .u8 k, .int .i64 u, .int .i64 d, .int .u32 n, .int .u32 tr, .int .i64 0, .slice (some ⟨g, 0, none⟩) 1 c, .slice none 0 0, .slice none 0 0]) 49 :: row 63 10 (.slice (some ⟨g, 0, none⟩) 1 c) 1 (fl bc [b]) :: blk T4 tz 49 :: rs))) (fun _ _ _ z _ => 1 - (intOf z).toNat)
  case atStart => exact .inl ⟨rfl, s12b⟩
  case round =>
    clear s12b
    rcases hrel with ⟨rfl, s12⟩ | ⟨rfl, g, c, s12⟩
    · have hA : wr.ownsRow 0 27 2 (.slice (some ⟨ga, 0, none⟩) ([(bu, bd)] : List (Int × Int)).length ca) ([(bu, bd)] : List (Int × Int)).length (fl wc [(bu, bd)]) := s12.head
      have e0 := rec_cell wc_len hA (m := 0) (by simp) 0 (v := .int .i64 bu) rfl
      have e1 := rec_cell wc_len hA (m := 0) (by simp) 1 (v := .int .i64 bd) rfl
      have h1c : ([.int .i64 bu, .int .i64 bd] : List Value).toArray.all (·.oneCell') = true := by simp [Value.oneCell']
      have hTo : wr.ownsRow 0 27 2 (.slice at_ 0 ct) 0 (fl wc []) := (s12.sel 2 [1]).head
      clear hA
      simp only [Nat.zero_mul, Nat.zero_add] at e0 e1
      go_upto_region 14 with (first
        | (refine wpList_alloc_new rfl 27 rfl (.agg #[.int .i64 0, .int .i64 0]) (fun _ => by kernel_rfl) ?_; intro X wX oX hXl hX)
        | (refine wpList_store_blk rfl 27 _ _ rfl X [.int .i64 bu, .int .i64 bd] rfl rfl hX rfl (by kernel_rfl) h1c ?_; intro wY oY hY; have oXY := oX.new oY (fun i hi => by simp only [List.mem_singleton] at hi; omega); have hy0 := cell_two0 hY; have hy1 := cell_two1 hY; have s13 := s12.add (b := blk X [.int .i64 bu, .int .i64 bd] 27) oXY hY (fun k hk => by simp [blk] at hk; omega); clear hX oX oY e0 e1 s12))
      go_wp2_with fail
      refine (wcontains_any [] _ bu bd _ (own_only hTo oXY (fun _ _ => by simp)) (by simp)).mono ?_
      rw [show hasW [] bu bd = false by simp [hasW]]
      rintro e w13 ⟨rfl, o13⟩
      have s14 := s13.quiet o13
      clear hy0 hy1 hY hTo s13 oXY o13 hXl
      go_upto_region 15 with fail
      have s15 := s14.quiet (Only.drew w13 [])
      have s15r : Pw.Sep w0 w13.drew (regR RB v l (blk A [.pointer (some ⟨SB, 0, none⟩)] 24 :: blk SB (sb RB BM LM lv) 69 :: blk X [.int .i64 bu, .int .i64 bd] 27 :: blk RX (rp0 k u d n tr) 49 :: blk T4 tz 49 :: rs)) := by
        exact s15.sel 14 [5, 6, 7, 3, 8, 0, 12, 13]
      clear s14 s15
      refine wp_region_held_drew (S := fun w' => (blk A [.pointer (some ⟨SB, 0, none⟩)] 24).ok w' ∧ (blk SB (sb RB BM LM lv) 69).ok w' ∧ (blk X [.int .i64 bu, .int .i64 bd] 27).ok w') (by kernel_rfl) ⟨(s15r.sel 4 [3]).head, (s15r.sel 5 [4]).head, (s15r.sel 6 [5]).head⟩ (fun hHeld => ?_)
      refine' wpAnyH_take (i := 0) (v := _) (op_at rfl) (by kernel_rfl) (by kernel_rfl) (by kernel_rfl) (fun _ _ _ h => h) (Or.inl ⟨by rfl, ?hy30⟩) (by assumption) ?rest30
      case hy30 =>
        intro w' hS
        have hc0 := cell_of_one (show w'.heap[A]? = _ from hS.1)
        go_simp
        try with_reducible rfl
      try simp only [Act.put, List.setIfInBounds_toArray, List.set_cons_zero, List.set_cons_succ]
      refine' wpAnyH_take (i := 1) (v := _) (op_at rfl) (by kernel_rfl) (by kernel_rfl) (by kernel_rfl) (fun _ _ _ h => h) (Or.inl ⟨by rfl, ?hy31⟩) (by assumption) ?rest31
      case hy31 =>
        intro w' hS
        go_simp
        try with_reducible rfl
      try simp only [Act.put, List.setIfInBounds_toArray, List.set_cons_zero, List.set_cons_succ]
      refine' wpAnyH_take (i := 2) (v := _) (op_at rfl) (by kernel_rfl) (by kernel_rfl) (by kernel_rfl) (fun _ _ _ h => h) (Or.inl ⟨by rfl, ?hy32⟩) (by assumption) ?rest32
      case hy32 =>
        intro w' hS
        go_simp
        try with_reducible rfl
      try simp only [Act.put, List.setIfInBounds_toArray, List.set_cons_zero, List.set_cons_succ]
      refine' wpAnyH_take (i := 3) (v := _) (op_at rfl) (by kernel_rfl) (by kernel_rfl) (by kernel_rfl) (fun _ _ _ h => h) (Or.inl ⟨by rfl, ?hy33⟩) (by assumption) ?rest33
      case hy33 =>
        intro w' hS
        obtain ⟨c0, c1, c2, c3⟩ := sb_at hS.2.1
        go_simp
        try with_reducible rfl
      try simp only [Act.put, List.setIfInBounds_toArray, List.set_cons_zero, List.set_cons_succ]
      refine' wpAnyH_take (i := 4) (v := _) (op_at rfl) (by kernel_rfl) (by kernel_rfl) (by kernel_rfl) (fun _ _ _ h => h) (Or.inl ⟨by rfl, ?hy34⟩) (by assumption) ?rest34
      case hy34 =>
        intro w' hS
        have ht := show w'.heap[X]? = _ from hS.2.2
        have ht0 := cell_two0 ht
        have ht1 := cell_two1 ht
        go_simp
        try with_reducible rfl
      try simp only [Act.put, List.setIfInBounds_toArray, List.set_cons_zero, List.set_cons_succ]
      refine wpAnyH_ready (rs := [5, 9]) (by kernel_rfl) (by simp) (AllReadyH.cons (op_at rfl) (fun K hK => ?bA) (AllReadyH.cons (op_at rfl) (fun K hK => ?bB) AllReadyH.nil))
      case bA =>
        go_simp
        obtain ⟨hf, hp, hx, hon, hos⟩ := HT.out
        refine (take_once RB l v bu bd kx x _ s15r hl hr hf hp hk hx hon b os hos hol s15r.only.size).mono fun e w14 hq => ?_
        obtain ⟨rfl, x', _, _, _, _, _, sK⟩ := hq
        clear hf hp hx hon hos
        go_wp2_with fail
        refine hK.out _ _ ⟨(sK.sel 4 [3]).head, (sK.sel 5 [4]).head, (sK.sel 6 [5]).head⟩ (fun hHeld => ?_)
        clear hK K
        try simp only [Act.put, List.setIfInBounds_toArray, List.set_cons_zero, List.set_cons_succ]
        refine' wpAnyH_take (i := 6) (v := _) (op_at rfl) (by kernel_rfl) (by kernel_rfl) (by kernel_rfl) (fun _ _ _ h => h) (Or.inl ⟨by rfl, ?hy35⟩) (by assumption) ?rest35
        case hy35 =>
          intro w' hS
          go_simp
          try with_reducible rfl
        try simp only [Act.put, List.setIfInBounds_toArray, List.set_cons_zero, List.set_cons_succ]
        refine' wpAnyH_take (i := 7) (v := _) (op_at rfl) (by kernel_rfl) (by kernel_rfl) (by kernel_rfl) (fun _ _ _ h => h) (Or.inl ⟨by rfl, ?hy36⟩) (by assumption) ?rest36
        case hy36 =>
          intro w' hS
          go_simp
          try with_reducible rfl
        try simp only [Act.put, List.setIfInBounds_toArray, List.set_cons_zero, List.set_cons_succ]
        refine' wpAnyH_take (i := 8) (v := _) (op_at rfl) (by kernel_rfl) (by kernel_rfl) (by kernel_rfl) (fun _ _ _ h => h) (Or.inl ⟨by rfl, ?hy37⟩) (by assumption) ?rest37
        case hy37 =>
          intro w' hS
          go_simp
          try with_reducible rfl
        try simp only [Act.put, List.setIfInBounds_toArray, List.set_cons_zero, List.set_cons_succ]
        refine wpAnyH_ready (rs := [9]) (by kernel_rfl) (by simp) (AllReadyH.cons (op_at rfl) (fun K hK => ?_) AllReadyH.nil)
        refine step_alloc_new (by rfl) 63 (by rfl) (.agg (bc b0).toArray) (fun _ => by kernel_rfl) (fun X12 w16 o16 l16 h16 => ?_)
        go_wp2_with fail
        refine hK.out _ _ (have sQ := sK.quiet o16; ⟨(sQ.sel 4 [3]).head, (sQ.sel 5 [4]).head, (sQ.sel 6 [5]).head⟩) (fun hHeld => ?_)
        clear hK K
        try simp only [Act.put, List.setIfInBounds_toArray, List.set_cons_zero, List.set_cons_succ]
        have sQ := sK.add (b := blk X12 (bc b0) 63) o16 h16 (fun k hk => by simp [blk] at hk; omega)
        refine wpAnyH_ready (rs := [10]) (by kernel_rfl) (by simp) (AllReadyH.cons (op_at rfl) (fun K hK => ?_) AllReadyH.nil)
        refine step_store_blk (by rfl) 63 _ _ (by rfl) X12 0 (.agg (bc b).toArray) (bc b) (bc b0) 63 (by rfl) (by rfl) (by rfl) sQ (by rw [bc_len, bc_len]; decide) (by rw [bc_len]; kernel_rfl) (bc_one b) (fun w17 o17 s17 => ?_)
        go_wp2_with fail
        refine hK.out _ _ ⟨(s17.sel 5 [4]).head, (s17.sel 6 [5]).head, (s17.sel 7 [6]).head⟩ (fun hHeld => ?_)
        clear hK K
        try simp only [Act.put, List.setIfInBounds_toArray, List.set_cons_zero, List.set_cons_succ]
        refine' wpAnyH_take (i := 11) (v := _) (op_at rfl) (by kernel_rfl) (by kernel_rfl) (by kernel_rfl) (fun _ _ _ h => h) (Or.inl ⟨by rfl, ?hy38⟩) (by assumption) ?rest38
        case hy38 =>
          intro w' hS
          go_simp
          try with_reducible rfl
        try simp only [Act.put, List.setIfInBounds_toArray, List.set_cons_zero, List.set_cons_succ]
        refine wpAnyH_done (by kernel_rfl) ?_ _
        have s18 : Pw.Sep w0 w17 (blk RX (rp0 k u d n tr) 49 :: blk X12 (bc b) 63 :: blk T4 tz 49 :: rs) := by
          have := (show Pw.Sep w0 w17 (_ :: _) from s17).sel 9 [7, 0, 8]
          rw [setL_all _ _ (by rw [bc_len, bc_len])] at this
          exact this
        clear s17 sQ sK s15r hHeld
        go_upto_region 16 with fail
        have hR18 : w17.heap[RX]? = some (.cells (rp0 k u d n tr).toArray 49 (0, 0)) := s18.head
        have hX18 : w17.heap[X12]? = some (.cells (bc b).toArray 63 (0, 0)) := (s18.sel 2 [1]).head
        have sD := (s18.quiet (Only.drew w17 [])).rown 63 10
        clear s18
        refine wp_region_t (S := fun w' => Only w17.drew w' []) 10 (by kernel_rfl) (by kernel_rfl) (Only.refl _ _) (fun hZ hHeld => ?_)
        refine' wpAnyT_take (i := 0) (v := _) hZ (op_at' rfl) (by rfl) (by kernel_rfl) (by kernel_rfl) (by kernel_rfl) (by kernel_rfl) (fun _ _ _ h => h) (Or.inl ⟨by rfl, ?hy48⟩) (by assumption) ?rest48
        case hy48 =>
          intro w' hS
          go_simp
          try with_reducible rfl
        try simp only [Act.put, List.setIfInBounds_toArray, List.set_cons_zero, List.set_cons_succ]
        refine' wpAnyT_take (i := 1) (v := _) hZ (op_at' rfl) (by rfl) (by kernel_rfl) (by kernel_rfl) (by kernel_rfl) (by kernel_rfl) (fun _ _ _ h => h) (Or.inl ⟨by rfl, ?hy49⟩) (by assumption) ?rest49
        case hy49 =>
          intro w' hS
          go_simp
          try with_reducible rfl
        try simp only [Act.put, List.setIfInBounds_toArray, List.set_cons_zero, List.set_cons_succ]
        refine' wpAnyT_take (i := 2) (v := _) hZ (op_at' rfl) (by rfl) (by kernel_rfl) (by kernel_rfl) (by kernel_rfl) (by kernel_rfl) (fun _ _ _ h => h) (Or.inl ⟨by rfl, ?hy50⟩) (by assumption) ?rest50
        case hy50 =>
          intro w' hS
          go_simp
          try with_reducible rfl
        try simp only [Act.put, List.setIfInBounds_toArray, List.set_cons_zero, List.set_cons_succ]
        refine' wpAnyT_take (i := 3) (v := _) hZ (op_at' rfl) (by rfl) (by kernel_rfl) (by kernel_rfl) (by kernel_rfl) (by kernel_rfl) (fun _ _ _ h => h) (Or.inl ⟨by rfl, ?hy51⟩) (by assumption) ?rest51
        case hy51 =>
          intro w' hS
          go_simp
          try with_reducible rfl
        try simp only [Act.put, List.setIfInBounds_toArray, List.set_cons_zero, List.set_cons_succ]
        refine' wpAnyT_take (i := 4) (v := _) hZ (op_at' rfl) (by rfl) (by kernel_rfl) (by kernel_rfl) (by kernel_rfl) (by kernel_rfl) (fun _ _ _ h => h) (Or.inl ⟨by rfl, ?hy52⟩) (by assumption) ?rest52
        case hy52 =>
          intro w' hS
          have hr_ := ((Only.drew w17 []).trans hS).at hR18 (by simp)
          have r6 : w'.cell? ⟨RX, 6, none⟩ = some (.slice none 0 0) := cell_in hr_ 6
          go_simp
          try with_reducible rfl
        try simp only [Act.put, List.setIfInBounds_toArray, List.set_cons_zero, List.set_cons_succ]
        refine wpAnyT_take (i := 5) hZ (op_at' rfl) (by rfl) (by kernel_rfl) (by kernel_rfl) (by kernel_rfl) (by kernel_rfl) (fun _ _ _ h => h) (yieldsIf_load_mid (by rfl) _ _ rfl X12 0 rfl (bc b) _ (fun w' hS => block_range (((Only.drew w17 []).trans hS).at hX18 (by simp))) Try.underlying63 (by rfl) (by rw [bc_len]; kernel_rfl)) (by assumption) ?_
        try simp only [Act.put, List.setIfInBounds_toArray, List.set_cons_zero, List.set_cons_succ]
        refine wpAnyT_one (i := 6) (by kernel_rfl) (op_at' rfl) (fun K hK => ?_)
        refine step_buildSlice_one (by rfl) 30 _ (by rfl) 63 i1 _ (bc b) (by rfl) Try.underlying30 ji jz0 (by rw [jz1, bc_len]) (by rw [bc_len]; rfl) (by rw [bc_len]; decide) (by rw [bc_len]; decide) (fun Yn wS oS hYl hYS => ?_)
        go_wp2_with fail
        refine hK.out _ _ oS (fun hHeld => ?_)
        clear hK K
        try simp only [Act.put, List.setIfInBounds_toArray, List.set_cons_zero, List.set_cons_succ]
        refine wpAnyT_one (i := 7) (by kernel_rfl) (op_at' rfl) (fun K hK => ?_)
        refine step_append_sep (by rfl) _ _ 30 (by rfl) 63 i1 _ 10 152 Try.underlying30 ji jz0 jz1 jz2 (by rfl) (by decide) (.slice none 0 0) 0 [] (by rfl) (sD.quiet oS) _ 1 (bc b) (by rfl) (src_blk hYS (by rw [bc_len])) (bc_one _) (by unfold maxLen; omega) (by omega) (fun a7 c7 w27 o27 s27 => ?_)
        go_wp2_with fail
        refine hK.out _ _ (oS.trans (by simpa [Value.ownBlock] using o27)) (fun hHeld => ?_)
        clear hK K
        try simp only [Act.put, List.setIfInBounds_toArray, List.set_cons_zero, List.set_cons_succ]
        refine' wpAnyT_take (i := 8) (v := _) hZ (op_at' rfl) (by rfl) (by kernel_rfl) (by kernel_rfl) (by kernel_rfl) (by kernel_rfl) (fun _ _ _ h => h) (Or.inl ⟨by rfl, ?hy54⟩) (by assumption) ?rest54
        case hy54 =>
          intro w' hS
          go_simp
          try with_reducible rfl
        try simp only [Act.put, List.setIfInBounds_toArray, List.set_cons_zero, List.set_cons_succ]
        refine' wpAnyT_take (i := 9) (v := _) hZ (op_at' rfl) (by rfl) (by kernel_rfl) (by kernel_rfl) (by kernel_rfl) (by kernel_rfl) (fun _ _ _ h => h) (Or.inl ⟨by rfl, ?hy55⟩) (by assumption) ?rest55
        case hy55 =>
          intro w' hS
          go_simp
          try with_reducible rfl
        try simp only [Act.put, List.setIfInBounds_toArray, List.set_cons_zero, List.set_cons_succ]
        refine wpAnyT_last (by kernel_rfl) (op_at' rfl) (by kernel_rfl) (fun K hK => ?_)
        refine step_store_blk (by rfl) 30 _ _ (by rfl) RX 6 (.slice a7 (0 + 1) c7) [.slice a7 (0 + 1) c7] (rp0 k u d n tr) 49 (by rfl) (by rfl) (by rfl) (s27.sel 3 [1, 0]) (by simp [rp0]) (by kernel_rfl) (by simp [Value.oneCell']) (fun w28 o28 s28 => ?_)
        go_wp2_with fail
        refine hK.out _ _ ?_
        clear hK K
        try simp only [Act.put, List.setIfInBounds_toArray, List.set_cons_zero, List.set_cons_succ]
        have s29 := s28.sel 2 [0, 1]
        obtain ⟨g, hg, _⟩ := own_some (show w28.ownsRow 0 63 10 (.slice a7 (0 + 1) c7) 1 _ from (s29.sel 2 [1]).head) (by decide)
        subst hg
        simp only [List.nil_append] at s29
        have e1 : fl bc [b] = bc b := by rw [fl_cons, fl_nil, List.append_nil]
        rw [← e1] at s29
        clear s28 sD hR18 hX18 hZ hHeld
        go_wp2_with fail
        exact ⟨.inr ⟨by simp, g, c7, s29⟩, by simp [intOf]⟩
      case bB =>
        refine step_alloc_new (by rfl) 63 (by rfl) (.agg (bc b0).toArray) (fun _ => by kernel_rfl) (fun X12 w16 o16 l16 h16 => ?_)
        go_wp2_with fail
        refine hK.out _ _ (have sQ := s15r.quiet o16; ⟨(sQ.sel 4 [3]).head, (sQ.sel 5 [4]).head, (sQ.sel 6 [5]).head⟩) (fun hHeld => ?_)
        clear hK K
        try simp only [Act.put, List.setIfInBounds_toArray, List.set_cons_zero, List.set_cons_succ]
        have s15q : Pw.Sep w0 w16 (regR RB v l (blk A [.pointer (some ⟨SB, 0, none⟩)] 24 :: blk SB (sb RB BM LM lv) 69 :: blk X [.int .i64 bu, .int .i64 bd] 27 :: blk RX (rp0 k u d n tr) 49 :: blk T4 tz 49 :: blk X12 (bc b0) 63 :: rs)) := (s15r.add (b := blk X12 (bc b0) 63) o16 h16 (fun k hk => by simp [blk] at hk; omega)).sel 9 [1, 2, 3, 4, 5, 6, 7, 8, 0]
        refine wpAnyH_ready (rs := [5]) (by kernel_rfl) (by simp) (AllReadyH.cons (op_at rfl) (fun K hK => ?_) AllReadyH.nil)
        go_simp
        obtain ⟨hf, hp, hx, hon, hos⟩ := HT.out
        refine (take_once RB l v bu bd kx x _ s15q hl hr hf hp hk hx hon b os hos hol s15q.only.size).mono fun e w14 hq => ?_
        obtain ⟨rfl, x', _, _, _, _, _, sK⟩ := hq
        clear hf hp hx hon hos
        go_wp2_with fail
        refine hK.out _ _ ⟨(sK.sel 4 [3]).head, (sK.sel 5 [4]).head, (sK.sel 6 [5]).head⟩ (fun hHeld => ?_)
        clear hK K
        try simp only [Act.put, List.setIfInBounds_toArray, List.set_cons_zero, List.set_cons_succ]
        have sQ := sK.sel 9 [8, 0, 1, 2, 3, 4, 5, 6, 7]
        refine' wpAnyH_take (i := 6) (v := _) (op_at rfl) (by kernel_rfl) (by kernel_rfl) (by kernel_rfl) (fun _ _ _ h => h) (Or.inl ⟨by rfl, ?hy44⟩) (by assumption) ?rest44
        case hy44 =>
          intro w' hS
          go_simp
          try with_reducible rfl
        try simp only [Act.put, List.setIfInBounds_toArray, List.set_cons_zero, List.set_cons_succ]
        refine' wpAnyH_take (i := 7) (v := _) (op_at rfl) (by kernel_rfl) (by kernel_rfl) (by kernel_rfl) (fun _ _ _ h => h) (Or.inl ⟨by rfl, ?hy45⟩) (by assumption) ?rest45
        case hy45 =>
          intro w' hS
          go_simp
          try with_reducible rfl
        try simp only [Act.put, List.setIfInBounds_toArray, List.set_cons_zero, List.set_cons_succ]
        refine' wpAnyH_take (i := 8) (v := _) (op_at rfl) (by kernel_rfl) (by kernel_rfl) (by kernel_rfl) (fun _ _ _ h => h) (Or.inl ⟨by rfl, ?hy46⟩) (by assumption) ?rest46
        case hy46 =>
          intro w' hS
          go_simp
          try with_reducible rfl
        try simp only [Act.put, List.setIfInBounds_toArray, List.set_cons_zero, List.set_cons_succ]
        refine wpAnyH_ready (rs := [10]) (by kernel_rfl) (by simp) (AllReadyH.cons (op_at rfl) (fun K hK => ?_) AllReadyH.nil)
        refine step_store_blk (by rfl) 63 _ _ (by rfl) X12 0 (.agg (bc b).toArray) (bc b) (bc b0) 63 (by rfl) (by rfl) (by rfl) sQ (by rw [bc_len, bc_len]; decide) (by rw [bc_len]; kernel_rfl) (bc_one b) (fun w17 o17 s17 => ?_)
        go_wp2_with fail
        refine hK.out _ _ ⟨(s17.sel 5 [4]).head, (s17.sel 6 [5]).head, (s17.sel 7 [6]).head⟩ (fun hHeld => ?_)
        clear hK K
        try simp only [Act.put, List.setIfInBounds_toArray, List.set_cons_zero, List.set_cons_succ]
        refine' wpAnyH_take (i := 11) (v := _) (op_at rfl) (by kernel_rfl) (by kernel_rfl) (by kernel_rfl) (fun _ _ _ h => h) (Or.inl ⟨by rfl, ?hy47⟩) (by assumption) ?rest47
        case hy47 =>
          intro w' hS
          go_simp
          try with_reducible rfl
        try simp only [Act.put, List.setIfInBounds_toArray, List.set_cons_zero, List.set_cons_succ]
        refine wpAnyH_done (by kernel_rfl) ?_ _
        have s18 : Pw.Sep w0 w17 (blk RX (rp0 k u d n tr) 49 :: blk X12 (bc b) 63 :: blk T4 tz 49 :: rs) := by
          have := (show Pw.Sep w0 w17 (_ :: _) from s17).sel 9 [7, 0, 8]
          rw [setL_all _ _ (by rw [bc_len, bc_len])] at this
          exact this
        clear s17 sQ sK s15r hHeld
        go_upto_region 16 with fail
        have hR18 : w17.heap[RX]? = some (.cells (rp0 k u d n tr).toArray 49 (0, 0)) := s18.head
        have hX18 : w17.heap[X12]? = some (.cells (bc b).toArray 63 (0, 0)) := (s18.sel 2 [1]).head
        have sD := (s18.quiet (Only.drew w17 [])).rown 63 10
        clear s18
        refine wp_region_t (S := fun w' => Only w17.drew w' []) 10 (by kernel_rfl) (by kernel_rfl) (Only.refl _ _) (fun hZ hHeld => ?_)
        refine' wpAnyT_take (i := 0) (v := _) hZ (op_at' rfl) (by rfl) (by kernel_rfl) (by kernel_rfl) (by kernel_rfl) (by kernel_rfl) (fun _ _ _ h => h) (Or.inl ⟨by rfl, ?hy56⟩) (by assumption) ?rest56
        case hy56 =>
          intro w' hS
          go_simp
          try with_reducible rfl
        try simp only [Act.put, List.setIfInBounds_toArray, List.set_cons_zero, List.set_cons_succ]
        refine' wpAnyT_take (i := 1) (v := _) hZ (op_at' rfl) (by rfl) (by kernel_rfl) (by kernel_rfl) (by kernel_rfl) (by kernel_rfl) (fun _ _ _ h => h) (Or.inl ⟨by rfl, ?hy57⟩) (by assumption) ?rest57
        case hy57 =>
          intro w' hS
          go_simp
          try with_reducible rfl
        try simp only [Act.put, List.setIfInBounds_toArray, List.set_cons_zero, List.set_cons_succ]
        refine' wpAnyT_take (i := 2) (v := _) hZ (op_at' rfl) (by rfl) (by kernel_rfl) (by kernel_rfl) (by kernel_rfl) (by kernel_rfl) (fun _ _ _ h => h) (Or.inl ⟨by rfl, ?hy58⟩) (by assumption) ?rest58
        case hy58 =>
          intro w' hS
          go_simp
          try with_reducible rfl
        try simp only [Act.put, List.setIfInBounds_toArray, List.set_cons_zero, List.set_cons_succ]
        refine' wpAnyT_take (i := 3) (v := _) hZ (op_at' rfl) (by rfl) (by kernel_rfl) (by kernel_rfl) (by kernel_rfl) (by kernel_rfl) (fun _ _ _ h => h) (Or.inl ⟨by rfl, ?hy59⟩) (by assumption) ?rest59
        case hy59 =>
          intro w' hS
          go_simp
          try with_reducible rfl
        try simp only [Act.put, List.setIfInBounds_toArray, List.set_cons_zero, List.set_cons_succ]
        refine' wpAnyT_take (i := 4) (v := _) hZ (op_at' rfl) (by rfl) (by kernel_rfl) (by kernel_rfl) (by kernel_rfl) (by kernel_rfl) (fun _ _ _ h => h) (Or.inl ⟨by rfl, ?hy60⟩) (by assumption) ?rest60
        case hy60 =>
          intro w' hS
          have hr_ := ((Only.drew w17 []).trans hS).at hR18 (by simp)
          have r6 : w'.cell? ⟨RX, 6, none⟩ = some (.slice none 0 0) := cell_in hr_ 6
          go_simp
          try with_reducible rfl
        try simp only [Act.put, List.setIfInBounds_toArray, List.set_cons_zero, List.set_cons_succ]
        refine wpAnyT_take (i := 5) hZ (op_at' rfl) (by rfl) (by kernel_rfl) (by kernel_rfl) (by kernel_rfl) (by kernel_rfl) (fun _ _ _ h => h) (yieldsIf_load_mid (by rfl) _ _ rfl X12 0 rfl (bc b) _ (fun w' hS => block_range (((Only.drew w17 []).trans hS).at hX18 (by simp))) Try.underlying63 (by rfl) (by rw [bc_len]; kernel_rfl)) (by assumption) ?_
        try simp only [Act.put, List.setIfInBounds_toArray, List.set_cons_zero, List.set_cons_succ]
        refine wpAnyT_one (i := 6) (by kernel_rfl) (op_at' rfl) (fun K hK => ?_)
        refine step_buildSlice_one (by rfl) 30 _ (by rfl) 63 i1 _ (bc b) (by rfl) Try.underlying30 ji jz0 (by rw [jz1, bc_len]) (by rw [bc_len]; rfl) (by rw [bc_len]; decide) (by rw [bc_len]; decide) (fun Yn wS oS hYl hYS => ?_)
        go_wp2_with fail
        refine hK.out _ _ oS (fun hHeld => ?_)
        clear hK K
        try simp only [Act.put, List.setIfInBounds_toArray, List.set_cons_zero, List.set_cons_succ]
        refine wpAnyT_one (i := 7) (by kernel_rfl) (op_at' rfl) (fun K hK => ?_)
        refine step_append_sep (by rfl) _ _ 30 (by rfl) 63 i1 _ 10 152 Try.underlying30 ji jz0 jz1 jz2 (by rfl) (by decide) (.slice none 0 0) 0 [] (by rfl) (sD.quiet oS) _ 1 (bc b) (by rfl) (src_blk hYS (by rw [bc_len])) (bc_one _) (by unfold maxLen; omega) (by omega) (fun a7 c7 w27 o27 s27 => ?_)
        go_wp2_with fail
        refine hK.out _ _ (oS.trans (by simpa [Value.ownBlock] using o27)) (fun hHeld => ?_)
        clear hK K
        try simp only [Act.put, List.setIfInBounds_toArray, List.set_cons_zero, List.set_cons_succ]
        refine' wpAnyT_take (i := 8) (v := _) hZ (op_at' rfl) (by rfl) (by kernel_rfl) (by kernel_rfl) (by kernel_rfl) (by kernel_rfl) (fun _ _ _ h => h) (Or.inl ⟨by rfl, ?hy62⟩) (by assumption) ?rest62
        case hy62 =>
          intro w' hS
          go_simp
          try with_reducible rfl
        try simp only [Act.put, List.setIfInBounds_toArray, List.set_cons_zero, List.set_cons_succ]
        refine' wpAnyT_take (i := 9) (v := _) hZ (op_at' rfl) (by rfl) (by kernel_rfl) (by kernel_rfl) (by kernel_rfl) (by kernel_rfl) (fun _ _ _ h => h) (Or.inl ⟨by rfl, ?hy63⟩) (by assumption) ?rest63
        case hy63 =>
          intro w' hS
          go_simp
          try with_reducible rfl
        try simp only [Act.put, List.setIfInBounds_toArray, List.set_cons_zero, List.set_cons_succ]
        refine wpAnyT_last (by kernel_rfl) (op_at' rfl) (by kernel_rfl) (fun K hK => ?_)
        refine step_store_blk (by rfl) 30 _ _ (by rfl) RX 6 (.slice a7 (0 + 1) c7) [.slice a7 (0 + 1) c7] (rp0 k u d n tr) 49 (by rfl) (by rfl) (by rfl) (s27.sel 3 [1, 0]) (by simp [rp0]) (by kernel_rfl) (by simp [Value.oneCell']) (fun w28 o28 s28 => ?_)
        go_wp2_with fail
        refine hK.out _ _ ?_
        clear hK K
        try simp only [Act.put, List.setIfInBounds_toArray, List.set_cons_zero, List.set_cons_succ]
        have s29 := s28.sel 2 [0, 1]
        obtain ⟨g, hg, _⟩ := own_some (show w28.ownsRow 0 63 10 (.slice a7 (0 + 1) c7) 1 _ from (s29.sel 2 [1]).head) (by decide)
        subst hg
        simp only [List.nil_append] at s29
        have e1 : fl bc [b] = bc b := by rw [fl_cons, fl_nil, List.append_nil]
        rw [← e1] at s29
        clear s28 sD hR18 hX18 hZ hHeld
        go_wp2_with fail
        exact ⟨.inr ⟨by simp, g, c7, s29⟩, by simp [intOf]⟩
    · have hR := s12.head
      have r6 : wr.cell? ⟨RX, 6, none⟩ = some (.slice (some ⟨g, 0, none⟩) 1 c) := cell_in (show wr.heap[RX]? = _ from hR) 6
      have r7 : wr.cell? ⟨RX, 7, none⟩ = some (.slice none 0 0) := cell_in (show wr.heap[RX]? = _ from hR) 7
      clear hR
      go_wp2_with fail
      go_loopw [15, 113] (fun _ z wq => z = .int .i64 0 ∧ wr = wq) (fun _ _ _ => 0)
      case atStart => exact ⟨rfl, rfl⟩
      case round =>
        obtain ⟨rfl, rfl⟩ := hrel
        clear r6 r7
        go_upto_region 24 with fail
        refine wp_region_held_drew (S := fun w' => Only wr.drew w' []) (by kernel_rfl) (Only.refl _ _) (fun hHeld => ?_)
        refine' wpAnyH_take (i := 0) (v := _) (op_at rfl) (by kernel_rfl) (by kernel_rfl) (by kernel_rfl) (fun _ _ _ h => h) (Or.inl ⟨by rfl, ?hy64⟩) (by assumption) ?rest64
        case hy64 =>
          intro w' hS
          go_simp
          try with_reducible rfl
        try simp only [Act.put, List.setIfInBounds_toArray, List.set_cons_zero, List.set_cons_succ]
        refine' wpAnyH_take (i := 1) (v := _) (op_at rfl) (by kernel_rfl) (by kernel_rfl) (by kernel_rfl) (fun _ _ _ h => h) (Or.inl ⟨by rfl, ?hy65⟩) (by assumption) ?rest65
        case hy65 =>
          intro w' hS
          go_simp
          try with_reducible rfl
        try simp only [Act.put, List.setIfInBounds_toArray, List.set_cons_zero, List.set_cons_succ]
        refine' wpAnyH_take (i := 2) (v := _) (op_at rfl) (by kernel_rfl) (by kernel_rfl) (by kernel_rfl) (fun _ _ _ h => h) (Or.inl ⟨by rfl, ?hy66⟩) (by assumption) ?rest66
        case hy66 =>
          intro w' hS
          go_simp
          try with_reducible rfl
        try simp only [Act.put, List.setIfInBounds_toArray, List.set_cons_zero, List.set_cons_succ]
        refine' wpAnyH_take (i := 3) (v := _) (op_at rfl) (by kernel_rfl) (by kernel_rfl) (by kernel_rfl) (fun _ _ _ h => h) (Or.inl ⟨by rfl, ?hy67⟩) (by assumption) ?rest67
        case hy67 =>
          intro w' hS
          have hr_ := show w'.heap[RX]? = _ from ((s12.quiet (Only.drew wr [])).quiet hS).head
          have r6 : w'.cell? ⟨RX, 6, none⟩ = some (.slice (some ⟨g, 0, none⟩) 1 c) := cell_in hr_ 6
          have r7 : w'.cell? ⟨RX, 7, none⟩ = some (.slice none 0 0) := cell_in hr_ 7
          go_simp
          try with_reducible rfl
        try simp only [Act.put, List.setIfInBounds_toArray, List.set_cons_zero, List.set_cons_succ]
        refine' wpAnyH_take (i := 4) (v := _) (op_at rfl) (by kernel_rfl) (by kernel_rfl) (by kernel_rfl) (fun _ _ _ h => h) (Or.inl ⟨by rfl, ?hy68⟩) (by assumption) ?rest68
        case hy68 =>
          intro w' hS
          go_simp
          try with_reducible rfl
        try simp only [Act.put, List.setIfInBounds_toArray, List.set_cons_zero, List.set_cons_succ]
        refine' wpAnyH_take (i := 5) (v := _) (op_at rfl) (by kernel_rfl) (by kernel_rfl) (by kernel_rfl) (fun _ _ _ h => h) (Or.inl ⟨by rfl, ?hy69⟩) (by assumption) ?rest69
        case hy69 =>
          intro w' hS
          go_simp
          try with_reducible rfl
        try simp only [Act.put, List.setIfInBounds_toArray, List.set_cons_zero, List.set_cons_succ]
        refine' wpAnyH_take (i := 6) (v := _) (op_at rfl) (by kernel_rfl) (by kernel_rfl) (by kernel_rfl) (fun _ _ _ h => h) (Or.inl ⟨by rfl, ?hy70⟩) (by assumption) ?rest70
        case hy70 =>
          intro w' hS
          go_simp
          try with_reducible rfl
        try simp only [Act.put, List.setIfInBounds_toArray, List.set_cons_zero, List.set_cons_succ]
        refine' wpAnyH_take (i := 7) (v := _) (op_at rfl) (by kernel_rfl) (by kernel_rfl) (by kernel_rfl) (fun _ _ _ h => h) (Or.inl ⟨by rfl, ?hy71⟩) (by assumption) ?rest71
        case hy71 =>
          intro w' hS
          go_simp
          try with_reducible rfl
        try simp only [Act.put, List.setIfInBounds_toArray, List.set_cons_zero, List.set_cons_succ]
        refine' wpAnyH_take (i := 8) (v := _) (op_at rfl) (by kernel_rfl) (by kernel_rfl) (by kernel_rfl) (fun _ _ _ h => h) (Or.inl ⟨by rfl, ?hy72⟩) (by assumption) ?rest72
        case hy72 =>
          intro w' hS
          have hr_ := show w'.heap[RX]? = _ from ((s12.quiet (Only.drew wr [])).quiet hS).head
          have r6 : w'.cell? ⟨RX, 6, none⟩ = some (.slice (some ⟨g, 0, none⟩) 1 c) := cell_in hr_ 6
          have r7 : w'.cell? ⟨RX, 7, none⟩ = some (.slice none 0 0) := cell_in hr_ 7
          go_simp
          try with_reducible rfl
        try simp only [Act.put, List.setIfInBounds_toArray, List.set_cons_zero, List.set_cons_succ]
        refine' wpAnyH_take (i := 9) (v := _) (op_at rfl) (by kernel_rfl) (by kernel_rfl) (by kernel_rfl) (fun _ _ _ h => h) (Or.inl ⟨by rfl, ?hy73⟩) (by assumption) ?rest73
        case hy73 =>
          intro w' hS
          go_simp
          try with_reducible rfl
        try simp only [Act.put, List.setIfInBounds_toArray, List.set_cons_zero, List.set_cons_succ]
        refine' wpAnyH_take (i := 10) (v := _) (op_at rfl) (by kernel_rfl) (by kernel_rfl) (by kernel_rfl) (fun _ _ _ h => h) (Or.inl ⟨by rfl, ?hy74⟩) (by assumption) ?rest74
        case hy74 =>
          intro w' hS
          have hw_ : IntKind.i64.wrap 1 = 1 := by rfl
          go_simp
          try with_reducible rfl
        try simp only [Act.put, List.setIfInBounds_toArray, List.set_cons_zero, List.set_cons_succ]
        refine' wpAnyH_take (i := 11) (v := _) (op_at rfl) (by kernel_rfl) (by kernel_rfl) (by kernel_rfl) (fun _ _ _ h => h) (Or.inl ⟨by rfl, ?hy75⟩) (by assumption) ?rest75
        case hy75 =>
          intro w' hS
          have hw_ : IntKind.i64.wrap 1 = 1 := by rfl
          go_simp
          try with_reducible rfl
        try simp only [Act.put, List.setIfInBounds_toArray, List.set_cons_zero, List.set_cons_succ]
        refine wpAnyH_done (by kernel_rfl) ?_ _
        have s13 := (s12.quiet (Only.drew wr [])).quiet hHeld
        generalize hwd : wr.drew = w14 at *
        clear hwd s12 hHeld
        have r7 : w14.cell? ⟨RX, 7, none⟩ = some (.slice none 0 0) := cell_in (show w14.heap[RX]? = _ from s13.head) 7
        go_wp2_with fail
        refine (sort_same [] (.slice none 0 0) _ (World.ownsRow_nil _ _ _ _) (by simp) (fun i hi => by simp at hi)).mono ?_
        rintro e w15 ⟨rfl, o15⟩
        have s15 := s13.quiet o15
        have hR5 : w15.cell? ⟨RX, 5, none⟩ = some (.int .i64 0) := cell_in (show w15.heap[RX]? = _ from s15.head) 5
        have hRf := free_in (show w15.heap[RX]? = some (.cells ([.int .u8 k, .int .i64 u, .int .i64 d, .int .u32 n, .int .u32 tr, .int .i64 0, .slice (some ⟨g, 0, none⟩) 1 c, .slice none 0 0, .slice none 0 0] : List Value).toArray 49 (0, 0)) from s15.head) 5
        have hP := s15.put 5 (.int .i64 12)
        clear r7 s13 s15
        go_wp2_with fail
        refine bodyPost_ret (v := .tuple #[]) (by simp [results, Try.results21, go_sem]) rfl ⟨rfl, g, c, b, hbu, hbd, hP⟩
end Go.Proofs.Yticojdepepkdlaa
