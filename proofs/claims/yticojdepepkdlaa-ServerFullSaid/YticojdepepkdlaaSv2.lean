/- Link of layer 19 (server), the laws' bundles. Printed by gen_sv2.py. -/
import Derived.Test.YticojdepepkdlaaSv1
set_option linter.unusedSimpArgs false
set_option linter.unusedVariables false
namespace Go.Proofs.Yticojdepepkdlaa
open Go.RowKit Go.Pw
set_option linter.unusedVariables false

/-- 'm[k] = v', m a map of devices, as one step of a region that draws. -/
theorem step_updateW {ops : Array Oper} {o : Oper} {a : Act} {w w0 : World} {rs : List Res} {K : Act → World → Prop} {Q : Exit → Act → World → Prop} {F : Prop}
    (hg : o.guard = none) (T E : TypeId) (m k x : Operand) (hop : o.op = .mapUpdate T m k x) (B : Nat) (mm : List ((Int × Int) × Value)) (p : Int × Int) (v : Value)
    (hm : a.eval m = .map (some B)) (hk : a.eval k = .agg (wc p).toArray) (hx : a.eval x = v) (hs : Sep w0 w (mapR B mm :: rs)) (hT : Try.prog.underlying T = some (.map 27 E))
    (hK : ∀ w', Only w w' [B] → Sep w0 w' (mapR B (putM mm p v) :: rs) → K (a.put o.dst undef) w') : if Region.wanted o (yielded ops a.tmps) = true then Oper.wp Try.prog o a w K Q else F := by
  have hw : Region.wanted o (yielded ops a.tmps) = true := by simp [Region.wanted, hg]
  rw [if_pos hw]
  obtain ⟨w', hr, h1, h2⟩ := run_updateW T E B mm p v hs hT
  unfold Oper.wp execOp
  simp only [hop, hm, hk, hx, Sem.run_bind, hr, Result.andThen_ok]
  exact hK w' h1 h2

/-- What Link leaves. -/
def Lnk (w0 : World) (rs : List Res) (SB RB BM LM : Nat) (l : List Li) (bm lm : List ((Int × Int) × Value)) (lv : Value) (logs : List Sn) (u d : Int) (vb : Value) (bs : List Bu) (e : Ending) (w' : World) : Prop :=
  e = .returned (.int .i64 0) ∧ ∃ (v' : Value) (x' : Li) (X : Nat), x'.u = u ∧ x'.d = d ∧ x'.on = true ∧ (x'.b, x'.os) = bs.foldl pubS (b0, []) ∧ x'.os.length ≤ 16 ∧
    Sep w0 w' (srvR SB RB BM LM v' ((insL l (newL u d)).set (placeL l u d) x') (putM bm (u, d) (.pointer (some ⟨X, 0, none⟩))) lm lv logs (box X (.slice none 0 0) [] 0 :: row 63 10 vb bs.length (fl bc bs) :: rs))

set_option maxRecDepth 100000 in
set_option maxHeartbeats 1600000 in
theorem link_ok {w0 : World} {rs : List Res} (SB RB BM LM : Nat) (v : Value) (l : List Li) (bm lm : List ((Int × Int) × Value)) (lv : Value) (logs : List Sn) (u d : Int) (vb : Value) (bs : List Bu) (w : World) (h : Sep w0 w (srvR SB RB BM LM v l bm lm lv logs (row 63 10 vb bs.length (fl bc bs) :: rs)))
    (hl : l.length ≤ 900000) (hbl : bs.length ≤ 1000000) (hr : Rise l) (hn : nextD l u = ((u, d), 0)) (hs : bs.any (fun x => !x.has) = true) (hany : bs.any (other u d) = false) (hnf : foundL l u d = false) :
    Calls Try.prog 7 #[.pointer (some ⟨SB, 0, none⟩), wv u d, vb] w (Lnk w0 rs SB RB BM LM l bm lm lv logs u d vb bs) := by
  obtain ⟨ab, cb, rfl⟩ := own_slice (show w.ownsRow 0 63 10 vb bs.length (fl bc bs) from (h.sel 8 [7]).head)
  have hsb := fun (w' : World) (o : Only w w' []) => sb_at ((h.quiet o).sel 4 [3]).head
  have h2 : Sep w0 w (regR RB v l (row 63 10 (.slice ab bs.length cb) bs.length (fl bc bs) :: blk SB (sb RB BM LM lv) 69 :: mapR BM bm :: mapR LM lm :: row 60 5 lv logs.length (fl sc logs) :: rs)) := h.sel 8 [0, 1, 2, 7, 3, 4, 5, 6]
  clear h
  simp only [wv]
  go_enter Try.func7, Try.ntmps7
  go_upto_region 3 with ((refine wpList_box_new rfl 27 _ rfl (.agg #[.int .i64 u, .int .i64 d]) rfl ?_; intro Z wZ oZ hZl hZb))
  have hZt := (h2.quiet oZ)
  have sZ : Sep w0 wZ (blk Z [.int .i64 u, .int .i64 d] 27 :: regR RB v l (row 63 10 (.slice ab bs.length cb) bs.length (fl bc bs) :: blk SB (sb RB BM LM lv) 69 :: mapR BM bm :: mapR LM lm :: row 60 5 lv logs.length (fl sc logs) :: rs)) := h2.add oZ hZb (fun k hk => by simp [blk] at hk; omega)
  have sA : Sep w0 wZ.drew (regR RB v l (row 63 10 (.slice ab bs.length cb) bs.length (fl bc bs) :: blk Z [.int .i64 u, .int .i64 d] 27 :: blk SB (sb RB BM LM lv) 69 :: mapR BM bm :: mapR LM lm :: row 60 5 lv logs.length (fl sc logs) :: rs)) := (sZ.quiet (Only.drew wZ [])).sel 5 [1, 2, 3, 4, 0]
  clear h2 hZt sZ
  refine wp_region_held_drew (S := fun w' => (blk SB (sb RB BM LM lv) 69).ok w' ∧ (blk Z [.int .i64 u, .int .i64 d] 27).ok w') (by kernel_rfl) ⟨(sA.sel 6 [5]).head, (sA.sel 5 [4]).head⟩ (fun hHeld => ?_)
  refine' wpAnyH_take (i := 0) (v := _) (op_at rfl) (by kernel_rfl) (by kernel_rfl) (by kernel_rfl) (fun _ _ _ h => h) (Or.inl ⟨by rfl, ?hy1⟩) (by assumption) ?rest1
  case hy1 =>
    intro w' hS
    go_simp
    try with_reducible rfl
  try simp only [Act.put, List.setIfInBounds_toArray, List.set_cons_zero, List.set_cons_succ]
  refine' wpAnyH_take (i := 1) (v := _) (op_at rfl) (by kernel_rfl) (by kernel_rfl) (by kernel_rfl) (fun _ _ _ h => h) (Or.inl ⟨by rfl, ?hy2⟩) (by assumption) ?rest2
  case hy2 =>
    intro w' hS
    go_simp
    try with_reducible rfl
  try simp only [Act.put, List.setIfInBounds_toArray, List.set_cons_zero, List.set_cons_succ]
  refine' wpAnyH_take (i := 2) (v := _) (op_at rfl) (by kernel_rfl) (by kernel_rfl) (by kernel_rfl) (fun _ _ _ h => h) (Or.inl ⟨by rfl, ?hy3⟩) (by assumption) ?rest3
  case hy3 =>
    intro w' hS
    go_simp
    try with_reducible rfl
  try simp only [Act.put, List.setIfInBounds_toArray, List.set_cons_zero, List.set_cons_succ]
  refine' wpAnyH_take (i := 3) (v := _) (op_at rfl) (by kernel_rfl) (by kernel_rfl) (by kernel_rfl) (fun _ _ _ h => h) (Or.inl ⟨by rfl, ?hy4⟩) (by assumption) ?rest4
  case hy4 =>
    intro w' hS
    obtain ⟨c0, c1, c2, c3⟩ := sb_at hS.1
    go_simp
    try with_reducible rfl
  try simp only [Act.put, List.setIfInBounds_toArray, List.set_cons_zero, List.set_cons_succ]
  refine' wpAnyH_take (i := 4) (v := _) (op_at rfl) (by kernel_rfl) (by kernel_rfl) (by kernel_rfl) (fun _ _ _ h => h) (Or.inl ⟨by rfl, ?hy5⟩) (by assumption) ?rest5
  case hy5 =>
    intro w' hS
    have ht := show w'.heap[Z]? = _ from hS.2
    have ht0 := cell_two0 ht
    have ht1 := cell_two1 ht
    go_simp
    try with_reducible rfl
  try simp only [Act.put, List.setIfInBounds_toArray, List.set_cons_zero, List.set_cons_succ]
  refine' wpAnyH_take (i := 5) (v := _) (op_at rfl) (by kernel_rfl) (by kernel_rfl) (by kernel_rfl) (fun _ _ _ h => h) (Or.inl ⟨by rfl, ?hy6⟩) (by assumption) ?rest6
  case hy6 =>
    intro w' hS
    go_simp
    try with_reducible rfl
  try simp only [Act.put, List.setIfInBounds_toArray, List.set_cons_zero, List.set_cons_succ]
  refine wpAnyH_ready (rs := [6]) (by kernel_rfl) (by simp) (AllReadyH.cons (op_at rfl) (fun K hK => ?_) AllReadyH.nil)
  go_simp
  refine (add_ok RB l v u d _ bs _ sA hl hbl hr hn hs hany hnf).mono fun e w3 hq => ?_
  obtain ⟨rfl, v', x', x1, x2, x3, x4, x5, x6⟩ := hq
  go_wp2_with fail
  refine hK.out _ _ ⟨(x6.sel 6 [5]).head, (x6.sel 5 [4]).head⟩ (fun hHeld => ?_)
  clear hK K
  try simp only [Act.put, List.setIfInBounds_toArray, List.set_cons_zero, List.set_cons_succ]
  refine' wpAnyH_take (i := 7) (v := _) (op_at rfl) (by kernel_rfl) (by kernel_rfl) (by kernel_rfl) (fun _ _ _ h => h) (Or.inl ⟨by rfl, ?hy7⟩) (by assumption) ?rest7
  case hy7 =>
    intro w' hS
    go_simp
    try with_reducible rfl
  try simp only [Act.put, List.setIfInBounds_toArray, List.set_cons_zero, List.set_cons_succ]
  refine wpAnyH_done (by kernel_rfl) ?_ _
  have hr4 : Sep w0 w3 (blk Z [.int .i64 u, .int .i64 d] 27 :: blk SB (sb RB BM LM lv) 69 :: mapR BM bm :: mapR LM lm :: row 60 5 lv logs.length (fl sc logs) :: regR RB v' ((insL l (newL u d)).set (placeL l u d) x') (row 63 10 (.slice ab bs.length cb) bs.length (fl bc bs) :: rs)) := x6.sel 9 [4, 5, 6, 7, 8, 0, 1, 2, 3]
  clear x6 sA hsb hHeld oZ hZl hZb
  obtain ⟨l', hl'⟩ : ∃ l', l' = (insL l (newL u d)).set (placeL l u d) x' := ⟨_, rfl⟩
  rw [← hl'] at hr4
  have HL := Lib.hid hl'
  clear hl'
  go_upto_region 5 with fail
  have hZb : w3.heap[Z]? = some (.cells #[.int .i64 u, .int .i64 d] 27 (0, 0)) := hr4.head
  have hsb := fun (w' : World) (o : Only w3.drew w' []) => sb_at (((hr4.quiet (Only.drew w3 [])).quiet o).sel 2 [1]).head
  have sD := (hr4.quiet (Only.drew w3 [])).sel 9 [2, 0, 1, 3, 4, 5, 6, 7, 8]
  clear hr4
  refine wp_region_t (S := fun w' => Only w3.drew w' []) 7 (by kernel_rfl) (by kernel_rfl) (Only.refl _ _) (fun hZ hHeld => ?_)
  refine' wpAnyT_take (i := 0) (v := _) hZ (op_at' rfl) (by rfl) (by kernel_rfl) (by kernel_rfl) (by kernel_rfl) (by kernel_rfl) (fun _ _ _ h => h) (Or.inl ⟨by rfl, ?hy8⟩) (by assumption) ?rest8
  case hy8 =>
    intro w' hS
    go_simp
    try with_reducible rfl
  try simp only [Act.put, List.setIfInBounds_toArray, List.set_cons_zero, List.set_cons_succ]
  refine' wpAnyT_take (i := 1) (v := _) hZ (op_at' rfl) (by rfl) (by kernel_rfl) (by kernel_rfl) (by kernel_rfl) (by kernel_rfl) (fun _ _ _ h => h) (Or.inl ⟨by rfl, ?hy9⟩) (by assumption) ?rest9
  case hy9 =>
    intro w' hS
    go_simp
    try with_reducible rfl
  try simp only [Act.put, List.setIfInBounds_toArray, List.set_cons_zero, List.set_cons_succ]
  refine' wpAnyT_take (i := 2) (v := _) hZ (op_at' rfl) (by rfl) (by kernel_rfl) (by kernel_rfl) (by kernel_rfl) (by kernel_rfl) (fun _ _ _ h => h) (Or.inl ⟨by rfl, ?hy10⟩) (by assumption) ?rest10
  case hy10 =>
    intro w' hS
    go_simp
    try with_reducible rfl
  try simp only [Act.put, List.setIfInBounds_toArray, List.set_cons_zero, List.set_cons_succ]
  refine' wpAnyT_take (i := 3) (v := _) hZ (op_at' rfl) (by rfl) (by kernel_rfl) (by kernel_rfl) (by kernel_rfl) (by kernel_rfl) (fun _ _ _ h => h) (Or.inl ⟨by rfl, ?hy11⟩) (by assumption) ?rest11
  case hy11 =>
    intro w' hS
    obtain ⟨c0, c1, c2, c3⟩ := hsb w' hS
    go_simp
    try with_reducible rfl
  try simp only [Act.put, List.setIfInBounds_toArray, List.set_cons_zero, List.set_cons_succ]
  refine' wpAnyT_take (i := 4) (v := _) hZ (op_at' rfl) (by rfl) (by kernel_rfl) (by kernel_rfl) (by kernel_rfl) (by kernel_rfl) (fun _ _ _ h => h) (Or.inl ⟨by rfl, ?hy12⟩) (by assumption) ?rest12
  case hy12 =>
    intro w' hS
    have ht := ((Only.drew w3 []).trans hS).at hZb (by simp)
    have ht0 := cell_two0 ht
    have ht1 := cell_two1 ht
    go_simp
    try with_reducible rfl
  try simp only [Act.put, List.setIfInBounds_toArray, List.set_cons_zero, List.set_cons_succ]
  refine' wpAnyT_take (i := 5) (v := _) hZ (op_at' rfl) (by rfl) (by kernel_rfl) (by kernel_rfl) (by kernel_rfl) (by kernel_rfl) (fun _ _ _ h => h) (Or.inl ⟨by rfl, ?hy13⟩) (by assumption) ?rest13
  case hy13 =>
    intro w' hS
    go_simp
    try with_reducible rfl
  try simp only [Act.put, List.setIfInBounds_toArray, List.set_cons_zero, List.set_cons_succ]
  refine wpAnyT_one (i := 6) (by kernel_rfl) (op_at' rfl) (fun K hK => ?_)
  refine step_box_new (by rfl) 71 _ (by rfl) (.agg #[.slice none 0 0, .int .u64 0]) (by rfl) (fun X w6 o6 l6 h6 => ?_)
  go_wp2_with fail
  refine hK.out _ _ o6 (fun hHeld => ?_)
  clear hK K
  try simp only [Act.put, List.setIfInBounds_toArray, List.set_cons_zero, List.set_cons_succ]
  refine wpAnyT_last (by kernel_rfl) (op_at' rfl) (by kernel_rfl) (fun K hK => ?_)
  refine step_updateW (by rfl) 66 51 _ _ _ (by rfl) BM bm (u, d) (.pointer (some ⟨X, 0, none⟩)) (by rfl) (by rfl) (by rfl) ((sD.add (b := blk X [.slice none 0 0, .int .u64 0] 71) o6 h6 (fun k hk => by simp [blk] at hk; omega)).sel 10 [1, 0, 2, 3, 4, 5, 6, 7, 8, 9]) Try.underlying66 (fun w7 o7 s7 => ?_)
  go_wp2_with fail
  refine hK.out _ _ ?_
  clear hK K
  try simp only [Act.put, List.setIfInBounds_toArray, List.set_cons_zero, List.set_cons_succ]
  have s8 : Sep w0 w7 (srvR SB RB BM LM v' l' (putM bm (u, d) (.pointer (some ⟨X, 0, none⟩))) lm lv logs (box X (.slice none 0 0) [] 0 :: row 63 10 (.slice ab bs.length cb) bs.length (fl bc bs) :: rs)) :=
    (box_nil (s7.sel 10 [1, 0, 2, 3, 4, 5, 6, 7, 8, 9])).sel 10 [6, 7, 8, 3, 1, 4, 5, 0, 9]
  clear s7 sD hsb hZb
  go_wp2_with fail
  go_ret
  exact ⟨rfl, v', x', X, x1, x2, x3, x4, x5, by rw [← HL.out]; exact s8⟩
end Go.Proofs.Yticojdepepkdlaa
