/- WorldLinks, by hand: Wl3, Wl4, Wl5, Wl6, Wl7, Wl8, RgP. -/
import Derived.Test.YtmmhbehlpppdiaaGreatDoorQ7
set_option linter.all false
namespace Go.Proofs.YtmmhbehlpppdiaaGreatDoor.Wl
open Go.RowKit Go.Pw

set_option maxRecDepth 100000 in
set_option maxHeartbeats 1600000 in
theorem unlink_ok {w0 : World} {rs : List Res} (SB RB BM LM : Nat) (v : Value) (l : List Li) (bm lm : List ((Int × Int) × Value)) (lv : Value) (logs : List Sn) (u d : Int) (w : World) (h : Sep w0 w (srvR SB RB BM LM v l bm lm lv logs rs)) (hl : l.length ≤ 1000000) (hr : Rise l) (hI : isL l u d = true) :
    Calls Tryz.prog 24 #[.pointer (some ⟨SB, 0, none⟩), wv u d] w fun e w' => e = .returned (.int .i64 0) ∧ ∃ bm', Sep w0 w' (srvR SB RB BM LM v (remL l u d) bm' lm lv logs rs) := by
  simp only [wv]
  go_enter Tryz.func24, Tryz.ntmps24
  go_upto_region 3 with (refine wpList_box_new rfl 40 _ rfl (.agg #[.int .i64 u, .int .i64 d]) rfl ?_; intro Z wX oX lX bX)
  have sR : Sep w0 wX.drew (regR RB v l (blk SB (sb RB BM LM lv) 82 :: blk Z [.int .i64 u, .int .i64 d] 40 :: mapR BM bm :: mapR LM lm :: row 191 5 lv logs.length (fl sc logs) :: rs)) :=
    ((h.add (b := blk Z [.int .i64 u, .int .i64 d] 40) oX bX (fun k hk => by simp [blk] at hk; omega)).sel 8 [1, 2, 3, 4, 0, 5, 6, 7]).quiet (Only.drew wX [])
  clear h oX lX bX
  refine wp_region_u (S := fun w' => (blk SB (sb RB BM LM lv) 82).ok w' ∧ w'.heap[Z]? = some (.cells [Value.int .i64 u, .int .i64 d].toArray 40 (0, 0))) 7 [] (by kernel_rfl) (by kernel_rfl) ⟨sR.get 3 rfl, sR.get 4 rfl⟩ (fun hZ hHeld => ?_)
  refine' wpAnyU_take (i := 0) (v := _) hZ (op_at' rfl) (by kernel_rfl) (by kernel_rfl) (by kernel_rfl) (by kernel_rfl) (by kernel_rfl) (fun _ _ _ h => h) (Or.inl ⟨by rfl, ?hy1⟩) (by assumption) ?rest1
  case hy1 =>
    intro w' hS
    go_simp
    try with_reducible rfl
  try simp only [Act.put, List.setIfInBounds_toArray, List.set_cons_zero, List.set_cons_succ]
  refine' wpAnyU_take (i := 1) (v := _) hZ (op_at' rfl) (by kernel_rfl) (by kernel_rfl) (by kernel_rfl) (by kernel_rfl) (by kernel_rfl) (fun _ _ _ h => h) (Or.inl ⟨by rfl, ?hy2⟩) (by assumption) ?rest2
  case hy2 =>
    intro w' hS
    go_simp
    try with_reducible rfl
  try simp only [Act.put, List.setIfInBounds_toArray, List.set_cons_zero, List.set_cons_succ]
  refine' wpAnyU_take (i := 2) (v := _) hZ (op_at' rfl) (by kernel_rfl) (by kernel_rfl) (by kernel_rfl) (by kernel_rfl) (by kernel_rfl) (fun _ _ _ h => h) (Or.inl ⟨by rfl, ?hy3⟩) (by assumption) ?rest3
  case hy3 =>
    intro w' hS
    go_simp
    try with_reducible rfl
  try simp only [Act.put, List.setIfInBounds_toArray, List.set_cons_zero, List.set_cons_succ]
  refine' wpAnyU_take (i := 3) (v := _) hZ (op_at' rfl) (by kernel_rfl) (by kernel_rfl) (by kernel_rfl) (by kernel_rfl) (by kernel_rfl) (fun _ _ _ h => h) (Or.inl ⟨by rfl, ?hy4⟩) (by assumption) ?rest4
  case hy4 =>
    intro w' hS
    obtain ⟨c0, c1, c2, c3⟩ := sb_at hS.1
    go_simp
    try with_reducible rfl
  try simp only [Act.put, List.setIfInBounds_toArray, List.set_cons_zero, List.set_cons_succ]
  refine wpAnyU_take (i := 4) hZ (op_at' rfl) (by kernel_rfl) (by kernel_rfl) (by kernel_rfl) (by kernel_rfl) (by kernel_rfl) (fun _ _ _ h => h) (yieldsIf_load_mid (by rfl) _ _ rfl Z 0 rfl ([.int .i64 u, .int .i64 d]) _ (fun w' hS => range_of hS.2) Tryz.underlying40 (by rfl) (by kernel_rfl)) (by assumption) ?_
  try simp only [Act.put, List.setIfInBounds_toArray, List.set_cons_zero, List.set_cons_succ]
  refine wpAnyU_one (i := 5) (by kernel_rfl) (op_at' rfl) (fun K hK => ?_)
  go_simp
  refine (remove_ok RB l v u d _ sR hl hr hI).mono ?_
  rintro e w5 ⟨rfl, s5⟩
  go_wp2_with fail
  refine hK.out _ _ ⟨s5.get 3 rfl, s5.get 4 rfl⟩ (fun hHeld => ?_)
  clear hK K
  try simp only [Act.put, List.setIfInBounds_toArray, List.set_cons_zero, List.set_cons_succ]
  refine' wpAnyU_take (i := 6) (v := _) hZ (op_at' rfl) (by kernel_rfl) (by kernel_rfl) (by kernel_rfl) (by kernel_rfl) (by kernel_rfl) (fun _ _ _ h => h) (Or.inl ⟨by rfl, ?hy6⟩) (by assumption) ?rest6
  case hy6 =>
    intro w' hS
    go_simp
    try with_reducible rfl
  try simp only [Act.put, List.setIfInBounds_toArray, List.set_cons_zero, List.set_cons_succ]
  refine wpAnyU_done (by kernel_rfl) ?_ _
  clear sR hHeld
  go_upto_region 5 with fail
  have sE := s5.quiet (Only.drew w5 [])
  have s5b : Sep w0 w5.drew (mapR BM bm :: row 90 14 v (remL l u d).length (fl lc (remL l u d)) :: blk RB [v] 93 :: many ((remL l u d).map ow) :: blk SB (sb RB BM LM lv) 82 :: mapR LM lm :: row 191 5 lv logs.length (fl sc logs) :: rs) := sE.sel 8 [5, 0, 1, 2, 3, 6, 7]
  clear s5
  refine wp_region_u (S := fun w' => (blk SB (sb RB BM LM lv) 82).ok w' ∧ w'.heap[Z]? = some (.cells [Value.int .i64 u, .int .i64 d].toArray 40 (0, 0))) 7 [] (by kernel_rfl) (by kernel_rfl) ⟨sE.get 3 rfl, sE.get 4 rfl⟩ (fun hZ hHeld => ?_)
  refine' wpAnyU_take (i := 0) (v := _) hZ (op_at' rfl) (by kernel_rfl) (by kernel_rfl) (by kernel_rfl) (by kernel_rfl) (by kernel_rfl) (fun _ _ _ h => h) (Or.inl ⟨by rfl, ?hy7⟩) (by assumption) ?rest7
  case hy7 =>
    intro w' hS
    go_simp
    try with_reducible rfl
  try simp only [Act.put, List.setIfInBounds_toArray, List.set_cons_zero, List.set_cons_succ]
  refine' wpAnyU_take (i := 1) (v := _) hZ (op_at' rfl) (by kernel_rfl) (by kernel_rfl) (by kernel_rfl) (by kernel_rfl) (by kernel_rfl) (fun _ _ _ h => h) (Or.inl ⟨by rfl, ?hy8⟩) (by assumption) ?rest8
  case hy8 =>
    intro w' hS
    go_simp
    try with_reducible rfl
  try simp only [Act.put, List.setIfInBounds_toArray, List.set_cons_zero, List.set_cons_succ]
  refine' wpAnyU_take (i := 2) (v := _) hZ (op_at' rfl) (by kernel_rfl) (by kernel_rfl) (by kernel_rfl) (by kernel_rfl) (by kernel_rfl) (fun _ _ _ h => h) (Or.inl ⟨by rfl, ?hy9⟩) (by assumption) ?rest9
  case hy9 =>
    intro w' hS
    go_simp
    try with_reducible rfl
  try simp only [Act.put, List.setIfInBounds_toArray, List.set_cons_zero, List.set_cons_succ]
  refine' wpAnyU_take (i := 3) (v := _) hZ (op_at' rfl) (by kernel_rfl) (by kernel_rfl) (by kernel_rfl) (by kernel_rfl) (by kernel_rfl) (fun _ _ _ h => h) (Or.inl ⟨by rfl, ?hy10⟩) (by assumption) ?rest10
  case hy10 =>
    intro w' hS
    obtain ⟨c0, c1, c2, c3⟩ := sb_at hS.1
    go_simp
    try with_reducible rfl
  try simp only [Act.put, List.setIfInBounds_toArray, List.set_cons_zero, List.set_cons_succ]
  refine wpAnyU_take (i := 4) hZ (op_at' rfl) (by kernel_rfl) (by kernel_rfl) (by kernel_rfl) (by kernel_rfl) (by kernel_rfl) (fun _ _ _ h => h) (yieldsIf_load_mid (by rfl) _ _ rfl Z 0 rfl ([.int .i64 u, .int .i64 d]) _ (fun w' hS => range_of hS.2) Tryz.underlying40 (by rfl) (by kernel_rfl)) (by assumption) ?_
  try simp only [Act.put, List.setIfInBounds_toArray, List.set_cons_zero, List.set_cons_succ]
  refine' wpAnyU_take (i := 5) (v := _) hZ (op_at' rfl) (by kernel_rfl) (by kernel_rfl) (by kernel_rfl) (by kernel_rfl) (by kernel_rfl) (fun _ _ _ h => h) (Or.inl ⟨by rfl, ?hy12⟩) (by assumption) ?rest12
  case hy12 =>
    intro w' hS
    go_simp
    try with_reducible rfl
  try simp only [Act.put, List.setIfInBounds_toArray, List.set_cons_zero, List.set_cons_succ]
  refine wpAnyU_one (i := 6) (by kernel_rfl) (op_at' rfl) (fun K hK => ?_)
  refine step_box_new (by rfl) 129 _ (by rfl) (.agg #[.slice none 0 0, .int .u64 0]) (by rfl) (fun X w6 o6 l6 b6 => ?_)
  go_wp2_with fail
  refine hK.out _ _ ⟨Res.only hHeld.1 o6 (by simp), o6.at hHeld.2 (by simp)⟩ (fun hHeld => ?_)
  clear hK K
  try simp only [Act.put, List.setIfInBounds_toArray, List.set_cons_zero, List.set_cons_succ]
  have s6 := s5b.quiet o6
  refine wpAnyU_next (i := 7) (by kernel_rfl) (by simp) (op_at' rfl) (fun K hK => ?_)
  refine step_updateW (by rfl) 78 127 _ _ _ (by rfl) BM bm (u, d) (.pointer (some ⟨X, 0, none⟩)) (by rfl) (by rfl) (by rfl) s6 Tryz.underlying78 (fun w7 o7 s7 => ?_)
  go_wp2_with fail
  refine hK.out _ _ ?_
  clear hK K
  try simp only [Act.put, List.setIfInBounds_toArray, List.set_cons_zero, List.set_cons_succ]
  refine wpAnyU_done (by kernel_rfl) ?_ _
  go_wp2_with fail
  go_ret
  exact ⟨rfl, _, s7.sel 7 [1, 2, 3, 4, 0, 5, 6]⟩
end Go.Proofs.YtmmhbehlpppdiaaGreatDoor.Wl
namespace Go.Proofs.YtmmhbehlpppdiaaGreatDoor.Wl
open Go.RowKit Go.Pw

set_option maxRecDepth 100000 in
set_option maxHeartbeats 1600000 in
theorem wlink_no {w0 : World} {rest : List Res} (WB PB TB TM AB KB SB RB BM LM NB : Nat) (v hv rv dv ov mv nw sv lv : Value) (lg : Nat) (l : List Tm) (m : Int) (hs : List Bool) (li : List Li) (bm lm : List ((Int × Int) × Value)) (logs : List Sn) (ds : List Nat) (ons : List Bool) (nM : Nat) (ms : List Value) (user : Int) (w : World)
    (h : Sep w0 w (primR PB TB TM v l sv m (advR AB PB KB TB hv hs (srvR SB RB BM LM rv li bm lm lv logs (blk WB (wb PB SB dv ov NB nw (.float .f64 lg) AB mv) 61 :: row 41 1 dv ds.length (dpL ds) :: row 4 1 ov ons.length (bl ons) :: row 52 9 mv nM ms :: rest))))) (hl : li.length ≤ 900000) (hr : Rise li) (hn : (nextD li user).2 ≠ 0) :
    Calls Tryz.prog 17 #[.pointer (some ⟨WB, 0, none⟩), .int .i64 user] w fun e w' => e = .returned (.int .i64 (nextD li user).2) ∧ Only w w' [] := by
  have hW := fun (w' : World) (o : Only w w' []) => wb_at (show w'.heap[WB]? = _ from (h.quiet o).get 15 rfl)
  have hS := fun (w' : World) (o : Only w w' []) => (h.quiet o).get 11 rfl
  have hN := fun (w' : World) (o : Only w w' []) => next_any RB li rv user w' ((h.quiet o).sel 10 [8, 9]) (by omega) hr
  obtain ⟨c0, c1, c2, c3, c6, c7, c8⟩ := hW w (Only.refl _ _)
  clear hW h
  generalize nextD li user = nd at *
  obtain ⟨⟨nu, nd2⟩, ne⟩ := nd
  have hne : decide (ne = 0) = false := by simpa using hn
  simp only [wv] at *
  go_enter Tryz.func17, Tryz.ntmps17
  go_wp2_with fail
  refine (registry_any SB RB BM LM lv w (hS w (Only.refl _ _))).mono ?_
  rintro e w1 ⟨rfl, o1⟩
  go_wp2_with fail
  refine (hN w1 o1).mono ?_
  rintro e w2 ⟨rfl, o2⟩
  go_wp2_with (first
    | (refine wpList_alloc_new rfl 40 rfl (.agg #[.int .i64 0, .int .i64 0]) (fun _ => by kernel_rfl) ?_; intro X wX oX lX bX)
    | (refine wpList_store_blk rfl 40 _ _ rfl X [.int .i64 nu, .int .i64 nd2] rfl rfl bX rfl (by kernel_rfl) (by simp [Value.oneCell']) ?_; intro wY oY bY))
  go_ret
  exact ⟨rfl, (o1.trans o2).trans (oX.new oY (fun k hk => by simp only [List.mem_singleton] at hk; omega))⟩
end Go.Proofs.YtmmhbehlpppdiaaGreatDoor.Wl
namespace Go.Proofs.YtmmhbehlpppdiaaGreatDoor.Wl
open Go.RowKit Go.Pw

theorem info_dp : (Tryz.prog.info? 41).map (fun i => (i.zero, i.size, i.bytes)) = some (some (.pointer none), 1, 8) := by kernel_rfl
theorem no_other {u d : Int} {bs : List Bu} (h : ∀ b ∈ bs, b.u = u ∧ b.d = d) : bs.any (other u d) = false := by
  rw [List.any_eq_false]
  intro b hb
  obtain ⟨h1, h2⟩ := h b hb
  simp [other, h1, h2]
def WLinkP (w0 : World) (WB PB TB TM AB KB SB RB BM LM NB : Nat) (nw sv lv : Value) (lg k : Nat) (m : Int) (li : List Li) (lm : List ((Int × Int) × Value)) (logs : List Sn) (ds : List Nat) (ons : List Bool) (nM : Nat) (u d : Int) (rest : List Res) (e : Ending) (w' : World) : Prop :=
  e = .returned (.int .i64 0) ∧ ∃ (DB KD : Nat) (x : Li) (v hv rv dv ov mv bp ag sg kv ov2 : Value) (l : List Tm) (m' : Int) (hs : List Bool) (bm : List ((Int × Int) × Value)) (ms : List Value),
    x.u = u ∧ x.d = d ∧ x.on = true ∧ k ≤ l.length ∧ l.length ≤ k + 64 ∧ m ≤ m' ∧ m' ≤ m + 7 ∧ hs.length ≤ l.length ∧
    Sep w0 w' (primR PB TB TM v l sv m' (advR AB PB KB TB hv hs (srvR SB RB BM LM rv ((insL li (newL u d)).set (placeL li u d) x) bm lm lv logs (blk WB (wb PB SB dv ov NB nw (.float .f64 lg) AB mv) 61 :: row 41 1 dv (ds ++ [DB]).length (dpL (ds ++ [DB])) :: row 4 1 ov (ons ++ [true]).length (bl (ons ++ [true])) :: row 52 9 mv (nM + 1) ms :: blk DB (dc PB KD bp (.float .f64 lg)) 98 :: blk KD (kc u d ag sg kv ov2 6 (.slice none 0 0)) 176 :: rest))))
set_option maxRecDepth 100000 in
set_option maxHeartbeats 8000000 in
theorem wlink_ok {w0 : World} {rest : List Res} (WB PB TB TM AB KB SB RB BM LM NB : Nat) (v hv rv dv ov mv nw sv lv : Value) (lg : Nat) (l : List Tm) (m : Int) (hs : List Bool) (li : List Li) (bm lm : List ((Int × Int) × Value)) (logs : List Sn) (ds : List Nat) (ons : List Bool) (nM : Nat) (ms : List Value) (u d : Int) (w : World)
    (h : Sep w0 w (primR PB TB TM v l sv m (advR AB PB KB TB hv hs (srvR SB RB BM LM rv li bm lm lv logs (blk WB (wb PB SB dv ov NB nw (.float .f64 lg) AB mv) 61 :: row 41 1 dv ds.length (dpL ds) :: row 4 1 ov ons.length (bl ons) :: row 52 9 mv nM ms :: rest))))) (hI : ItoaOK w0) (hl : l.length ≤ 500000) (hm : 0 ≤ m ∧ m ≤ 500000) (hh : hs.length ≤ l.length) (hli : li.length ≤ 900000) (hr : Rise li) (hn : nextD li u = ((u, d), 0)) (hnf : foundL li u d = false) (hnM : nM ≤ 900000) (hds : ds.length ≤ 900000) (hon : ons.length ≤ 900000) :
    Calls Tryz.prog 17 #[.pointer (some ⟨WB, 0, none⟩), .int .i64 u] w (WLinkP w0 WB PB TB TM AB KB SB RB BM LM NB nw sv lv lg l.length m li lm logs ds ons nM u d rest) := by
  obtain ⟨c0, c1, c2, c3, c6, c7, c8⟩ := wb_at (show w.heap[WB]? = _ from h.get 15 rfl)
  clear c0 c2 c3 c6 c7 c8
  have hN := fun (w' : World) (o : Only w w' []) => next_any RB li rv u w' ((h.quiet o).sel 10 [8, 9]) (by omega) hr
  rw [hn] at hN
  simp only [wv] at hN
  have hreg := registry_any SB RB BM LM lv w (h.get 11 rfl)
  have HN := Lib.hid hn
  clear hn
  go_enter Tryz.func17, Tryz.ntmps17
  go_wp2_with fail
  refine hreg.mono ?_
  rintro e w1 ⟨rfl, o1⟩
  go_wp2_with fail
  refine (hN w1 o1).mono ?_
  rintro e w2 ⟨rfl, o2⟩
  clear hN hreg c1
  go_upto_region 4 with (first
    | (refine wpList_alloc_new rfl 40 rfl (.agg #[.int .i64 0, .int .i64 0]) (fun _ => by kernel_rfl) ?_; intro X wX oX lX bX)
    | (refine wpList_store_blk rfl 40 _ _ rfl X [.int .i64 u, .int .i64 d] rfl rfl bX rfl (by kernel_rfl) (by simp [Value.oneCell']) ?_; intro wY oY bY))
  have o3 : Only w2 wY [] := oX.new oY (fun k hk => by simp only [List.mem_singleton] at hk; omega)
  have s1 : Sep w0 wY.drew (primR PB TB TM v l sv m (blk X [.int .i64 u, .int .i64 d] 40 :: advR AB PB KB TB hv hs (srvR SB RB BM LM rv li bm lm lv logs (blk WB (wb PB SB dv ov NB nw (.float .f64 lg) AB mv) 61 :: row 41 1 dv ds.length (dpL ds) :: row 4 1 ov ons.length (bl ons) :: row 52 9 mv nM ms :: rest)))) := (((h.quiet (o1.trans o2)).add (b := blk X [.int .i64 u, .int .i64 d] 40) o3 bY (fun k hk => by simp [blk] at hk; omega)).sel 6 [1, 2, 3, 4, 5, 0]).quiet (Only.drew wY [])
  clear h o1 o2 oX oY lX bX bY o3
  refine wp_region_u (S := fun w' => w'.heap[WB]? = some (.cells (wb PB SB dv ov NB nw (.float .f64 lg) AB mv).toArray 61 (0, 0)) ∧ w'.heap[X]? = some (.cells [Value.int .i64 u, .int .i64 d].toArray 40 (0, 0))) 9 [] (by kernel_rfl) (by kernel_rfl) ⟨s1.get 16 rfl, s1.get 5 rfl⟩ (fun hZ hHeld => ?_)
  refine' wpAnyU_take (i := 0) (v := _) hZ (op_at' rfl) (by kernel_rfl) (by kernel_rfl) (by kernel_rfl) (by kernel_rfl) (by kernel_rfl) (fun _ _ _ h => h) (Or.inl ⟨by rfl, ?hy1⟩) (by assumption) ?rest1
  case hy1 =>
    intro w' hS
    go_simp
    try with_reducible rfl
  try simp only [Act.put, List.setIfInBounds_toArray, List.set_cons_zero, List.set_cons_succ]
  refine' wpAnyU_take (i := 1) (v := _) hZ (op_at' rfl) (by kernel_rfl) (by kernel_rfl) (by kernel_rfl) (by kernel_rfl) (by kernel_rfl) (fun _ _ _ h => h) (Or.inl ⟨by rfl, ?hy2⟩) (by assumption) ?rest2
  case hy2 =>
    intro w' hS
    go_simp
    try with_reducible rfl
  try simp only [Act.put, List.setIfInBounds_toArray, List.set_cons_zero, List.set_cons_succ]
  refine' wpAnyU_take (i := 2) (v := _) hZ (op_at' rfl) (by kernel_rfl) (by kernel_rfl) (by kernel_rfl) (by kernel_rfl) (by kernel_rfl) (fun _ _ _ h => h) (Or.inl ⟨by rfl, ?hy3⟩) (by assumption) ?rest3
  case hy3 =>
    intro w' hS
    go_simp
    try with_reducible rfl
  try simp only [Act.put, List.setIfInBounds_toArray, List.set_cons_zero, List.set_cons_succ]
  refine' wpAnyU_take (i := 3) (v := _) hZ (op_at' rfl) (by kernel_rfl) (by kernel_rfl) (by kernel_rfl) (by kernel_rfl) (by kernel_rfl) (fun _ _ _ h => h) (Or.inl ⟨by rfl, ?hy4⟩) (by assumption) ?rest4
  case hy4 =>
    intro w' hS
    obtain ⟨c0, c1, c2, c3, c6, c7, c8⟩ := wb_at hS.1
    go_simp
    try with_reducible rfl
  try simp only [Act.put, List.setIfInBounds_toArray, List.set_cons_zero, List.set_cons_succ]
  refine wpAnyU_take (i := 4) hZ (op_at' rfl) (by kernel_rfl) (by kernel_rfl) (by kernel_rfl) (by kernel_rfl) (by kernel_rfl) (fun _ _ _ h => h) (yieldsIf_load_mid (by rfl) _ _ rfl X 0 rfl ([.int .i64 u, .int .i64 d]) _ (fun w' hS => range_of hS.2) Tryz.underlying40 (by rfl) (by kernel_rfl)) (by assumption) ?_
  try simp only [Act.put, List.setIfInBounds_toArray, List.set_cons_zero, List.set_cons_succ]
  refine' wpAnyU_take (i := 5) (v := _) hZ (op_at' rfl) (by kernel_rfl) (by kernel_rfl) (by kernel_rfl) (by kernel_rfl) (by kernel_rfl) (fun _ _ _ h => h) (Or.inl ⟨by rfl, ?hy6⟩) (by assumption) ?rest6
  case hy6 =>
    intro w' hS
    go_simp
    try with_reducible rfl
  try simp only [Act.put, List.setIfInBounds_toArray, List.set_cons_zero, List.set_cons_succ]
  refine' wpAnyU_take (i := 6) (v := _) hZ (op_at' rfl) (by kernel_rfl) (by kernel_rfl) (by kernel_rfl) (by kernel_rfl) (by kernel_rfl) (fun _ _ _ h => h) (Or.inl ⟨by rfl, ?hy7⟩) (by assumption) ?rest7
  case hy7 =>
    intro w' hS
    go_simp
    try with_reducible rfl
  try simp only [Act.put, List.setIfInBounds_toArray, List.set_cons_zero, List.set_cons_succ]
  refine' wpAnyU_take (i := 7) (v := _) hZ (op_at' rfl) (by kernel_rfl) (by kernel_rfl) (by kernel_rfl) (by kernel_rfl) (by kernel_rfl) (fun _ _ _ h => h) (Or.inl ⟨by rfl, ?hy8⟩) (by assumption) ?rest8
  case hy8 =>
    intro w' hS
    go_simp
    try with_reducible rfl
  try simp only [Act.put, List.setIfInBounds_toArray, List.set_cons_zero, List.set_cons_succ]
  refine' wpAnyU_take (i := 8) (v := _) hZ (op_at' rfl) (by kernel_rfl) (by kernel_rfl) (by kernel_rfl) (by kernel_rfl) (by kernel_rfl) (fun _ _ _ h => h) (Or.inl ⟨by rfl, ?hy9⟩) (by assumption) ?rest9
  case hy9 =>
    intro w' hS
    obtain ⟨c0, c1, c2, c3, c6, c7, c8⟩ := wb_at hS.1
    go_simp
    try with_reducible rfl
  try simp only [Act.put, List.setIfInBounds_toArray, List.set_cons_zero, List.set_cons_succ]
  refine wpAnyU_next (i := 9) (by kernel_rfl) (by simp) (op_at' rfl) (fun K hK => ?_)
  go_simp
  refine (dnew_any PB TB TM v l sv m u d lg _ s1 hI (by omega) ⟨hm.1, by omega⟩).mono ?_
  rintro e w9 ⟨DB, KD, Y, c, bp, ag, sg, se, si, ov2, v9, os, l9, m9, rfl, ho, a9, b9, c9, d9, s9⟩
  go_wp2_with fail
  refine hK.out _ _ ?_
  clear hK K
  try simp only [Act.put, List.setIfInBounds_toArray, List.set_cons_zero, List.set_cons_succ]
  refine wpAnyU_next (i := 10) (by kernel_rfl) (by simp) (op_at' rfl) (fun K hK => ?_)
  go_simp
  go_wp2_with fail
  refine hK.out _ _ ?_
  clear hK K
  try simp only [Act.put, List.setIfInBounds_toArray, List.set_cons_zero, List.set_cons_succ]
  refine wpAnyU_done (by kernel_rfl) ?_ _
  go_upto_region 5 with fail
  have sq := s9.quiet (Only.drew w9 [])
  clear s9 s1 hHeld
  refine wp_region_u (S := fun w' => w'.heap[WB]? = some (.cells (wb PB SB dv ov NB nw (.float .f64 lg) AB mv).toArray 61 (0, 0)) ∧ w'.heap[X]? = some (.cells [Value.int .i64 u, .int .i64 d].toArray 40 (0, 0))) 7 [] (by kernel_rfl) (by kernel_rfl) ⟨sq.get 25 rfl, sq.get 14 rfl⟩ (fun hZ hHeld => ?_)
  refine' wpAnyU_take (i := 0) (v := _) hZ (op_at' rfl) (by kernel_rfl) (by kernel_rfl) (by kernel_rfl) (by kernel_rfl) (by kernel_rfl) (fun _ _ _ h => h) (Or.inl ⟨by rfl, ?hy10⟩) (by assumption) ?rest10
  case hy10 =>
    intro w' hS
    go_simp
    try with_reducible rfl
  try simp only [Act.put, List.setIfInBounds_toArray, List.set_cons_zero, List.set_cons_succ]
  refine' wpAnyU_take (i := 1) (v := _) hZ (op_at' rfl) (by kernel_rfl) (by kernel_rfl) (by kernel_rfl) (by kernel_rfl) (by kernel_rfl) (fun _ _ _ h => h) (Or.inl ⟨by rfl, ?hy11⟩) (by assumption) ?rest11
  case hy11 =>
    intro w' hS
    go_simp
    try with_reducible rfl
  try simp only [Act.put, List.setIfInBounds_toArray, List.set_cons_zero, List.set_cons_succ]
  refine' wpAnyU_take (i := 2) (v := _) hZ (op_at' rfl) (by kernel_rfl) (by kernel_rfl) (by kernel_rfl) (by kernel_rfl) (by kernel_rfl) (fun _ _ _ h => h) (Or.inl ⟨by rfl, ?hy12⟩) (by assumption) ?rest12
  case hy12 =>
    intro w' hS
    go_simp
    try with_reducible rfl
  try simp only [Act.put, List.setIfInBounds_toArray, List.set_cons_zero, List.set_cons_succ]
  refine' wpAnyU_take (i := 3) (v := _) hZ (op_at' rfl) (by kernel_rfl) (by kernel_rfl) (by kernel_rfl) (by kernel_rfl) (by kernel_rfl) (fun _ _ _ h => h) (Or.inl ⟨by rfl, ?hy13⟩) (by assumption) ?rest13
  case hy13 =>
    intro w' hS
    obtain ⟨c0, c1, c2, c3, c6, c7, c8⟩ := wb_at hS.1
    go_simp
    try with_reducible rfl
  try simp only [Act.put, List.setIfInBounds_toArray, List.set_cons_zero, List.set_cons_succ]
  refine wpAnyU_take (i := 4) hZ (op_at' rfl) (by kernel_rfl) (by kernel_rfl) (by kernel_rfl) (by kernel_rfl) (by kernel_rfl) (fun _ _ _ h => h) (yieldsIf_load_mid (by rfl) _ _ rfl X 0 rfl ([.int .i64 u, .int .i64 d]) _ (fun w' hS => range_of hS.2) Tryz.underlying40 (by rfl) (by kernel_rfl)) (by assumption) ?_
  try simp only [Act.put, List.setIfInBounds_toArray, List.set_cons_zero, List.set_cons_succ]
  refine' wpAnyU_take (i := 5) (v := _) hZ (op_at' rfl) (by kernel_rfl) (by kernel_rfl) (by kernel_rfl) (by kernel_rfl) (by kernel_rfl) (fun _ _ _ h => h) (Or.inl ⟨by rfl, ?hy15⟩) (by assumption) ?rest15
  case hy15 =>
    intro w' hS
    go_simp
    try with_reducible rfl
  try simp only [Act.put, List.setIfInBounds_toArray, List.set_cons_zero, List.set_cons_succ]
  refine wpAnyU_one (i := 6) (by kernel_rfl) (op_at' rfl) (fun K hK => ?_)
  go_simp
  refine (dbundles_any DB PB TB TM KD v9 l9 sv m9 u d bp _ ag sg Y c se si ov2 os _ sq hI (by omega) ho).mono ?_
  rintro e w6 ⟨Rs, vb, bs, v6, l6, m6, rfl, hb5, hall, hany, i6, j6, g6, h6, s6⟩
  have hoth := no_other (fun b hb => ⟨(hall b hb).1, (hall b hb).2.1⟩)
  go_wp2_with fail
  refine hK.out _ _ ⟨s6.get 27 rfl, s6.get 16 rfl⟩ (fun hHeld => ?_)
  clear hK K
  try simp only [Act.put, List.setIfInBounds_toArray, List.set_cons_zero, List.set_cons_succ]
  refine wpAnyU_next (i := 7) (by kernel_rfl) (by simp) (op_at' rfl) (fun K hK => ?_)
  go_simp
  have sL : Sep w0 w6 (srvR SB RB BM LM rv li bm lm lv logs (row 88 10 vb bs.length (fl bc bs) :: (primR PB TB TM v6 l6 sv m6 (keyR KD u d ag sg Y c se si ov2 os (many Rs :: blk DB (dc PB KD bp (.float .f64 lg)) 98 :: blk X [.int .i64 u, .int .i64 d] 40 :: advR AB PB KB TB hv hs (blk WB (wb PB SB dv ov NB nw (.float .f64 lg) AB mv) 61 :: row 41 1 dv ds.length (dpL ds) :: row 4 1 ov ons.length (bl ons) :: row 52 9 mv nM ms :: rest)))))) := s6.sel 31 [20, 21, 22, 23, 24, 25, 26, 13, 0, 1, 2, 3, 4, 5, 6, 7, 8, 9, 10, 11, 12, 14, 15, 16, 17, 18, 19, 27, 28, 29, 30]
  refine (link_ok SB RB BM LM rv li bm lm lv logs u d vb bs _ sL hli (by rw [hb5]; decide) hr HN.out hany hoth hnf).mono ?_
  rintro e w7 ⟨rfl, rv7, x7, BX, x1, x2, x3, x4, x5, s7⟩
  go_wp2_with fail
  refine hK.out _ _ ?_
  clear hK K
  try simp only [Act.put, List.setIfInBounds_toArray, List.set_cons_zero, List.set_cons_succ]
  refine wpAnyU_next (i := 8) (by kernel_rfl) (by simp) (op_at' rfl) (fun K hK => ?_)
  go_simp
  go_wp2_with fail
  refine hK.out _ _ ?_
  clear hK K
  try simp only [Act.put, List.setIfInBounds_toArray, List.set_cons_zero, List.set_cons_succ]
  refine wpAnyU_done (by kernel_rfl) ?_ _
  clear sq s6 sL hHeld hoth
  have s8 : Sep w0 w7 (primR PB TB TM v6 l6 sv m6 (devR DB PB KD u d bp (.float .f64 lg) ag sg Y c se si ov2 os (many Rs :: blk X [.int .i64 u, .int .i64 d] 40 :: advR AB PB KB TB hv hs (srvR SB RB BM LM rv7 ((insL li (newL u d)).set (placeL li u d) x7) (putM bm (u, d) (.pointer (some ⟨BX, 0, none⟩))) lm lv logs (blk WB (wb PB SB dv ov NB nw (.float .f64 lg) AB mv) 61 :: row 41 1 dv ds.length (dpL ds) :: row 4 1 ov ons.length (bl ons) :: row 52 9 mv nM ms :: rest))))) := s7.sel 32 [9, 10, 11, 12, 13, 14, 15, 16, 17, 18, 19, 20, 21, 23, 22, 24, 25, 26, 27, 0, 1, 2, 3, 4, 5, 6, 28, 29, 30, 31]
  clear s7
  go_wp2_with fail
  refine (dbundles_any DB PB TB TM KD v6 l6 sv m6 u d bp _ ag sg Y c se si ov2 os _ s8 hI (by omega) ho).mono ?_
  rintro e w8 ⟨Rs2, vb2, bs2, v8, l8, m8, rfl, hb8, hall8, hany8, i8, j8, g8, h8, s9⟩
  have sA : Sep w0 w8 (tabR TB TM v8 l8 (advR AB PB KB TB hv hs (blk PB (pb TB sv m8) 180 :: row 88 10 vb2 bs2.length (fl bc bs2) :: many Rs2 :: byR si 64 :: blk KD (kc u d ag sg (.slice (some ⟨Y, 0, none⟩) 1 c) ov2 6 (.slice none 0 0)) 176 :: blk DB (dc PB KD bp (.float .f64 lg)) 98 :: blk X [.int .i64 u, .int .i64 d] 40 :: srvR SB RB BM LM rv7 ((insL li (newL u d)).set (placeL li u d) x7) (putM bm (u, d) (.pointer (some ⟨BX, 0, none⟩))) lm lv logs (blk WB (wb PB SB dv ov NB nw (.float .f64 lg) AB mv) 61 :: row 41 1 dv ds.length (dpL ds) :: row 4 1 ov ons.length (bl ons) :: row 52 9 mv nM ms :: rest)))) := s9.sel 32 [0, 1, 2, 3, 18, 19, 20, 4, 13, 14, 10, 5, 15, 17, 21, 22, 23, 24, 25, 26, 27, 28, 29, 30, 31]
  clear s9 s8
  obtain ⟨ab, cb, rfl⟩ := own_slice (show w8.ownsRow 0 88 10 vb2 bs2.length (fl bc bs2) from sA.get 8 rfl)
  have HB8 := Lib.hid hb8
  have hbn : bs2.length ≤ 5 := by omega
  have hh8 : hs.length ≤ l8.length := by omega
  clear hb8
  go_wp2_with fail
  go_loopw [48] (fun y wr => ∃ (k : Nat) (v3 : Value) (l3 : List Tm) (hv3 : Value) (hs3 : List Bool), y = .int .i64 k ∧ k ≤ bs2.length ∧ l8.length ≤ l3.length ∧ l3.length ≤ l8.length + 5 * k ∧ hs3.length ≤ l3.length ∧ Sep w0 wr (tabR TB TM v3 l3 (advR AB PB KB TB hv3 hs3 (blk PB (pb TB sv m8) 180 :: row 88 10 (.slice ab bs2.length cb) bs2.length (fl bc bs2) :: many Rs2 :: byR si 64 :: blk KD (kc u d ag sg (.slice (some ⟨Y, 0, none⟩) 1 c) ov2 6 (.slice none 0 0)) 176 :: blk DB (dc PB KD bp (.float .f64 lg)) 98 :: blk X [.int .i64 u, .int .i64 d] 40 :: srvR SB RB BM LM rv7 ((insL li (newL u d)).set (placeL li u d) x7) (putM bm (u, d) (.pointer (some ⟨BX, 0, none⟩))) lm lv logs (blk WB (wb PB SB dv ov NB nw (.float .f64 lg) AB mv) 61 :: row 41 1 dv ds.length (dpL ds) :: row 4 1 ov ons.length (bl ons) :: row 52 9 mv nM ms :: rest))))) (fun y _ => bs2.length - (intOf y).toNat)
  case atStart => exact ⟨0, v8, l8, hv, hs, rfl, Nat.zero_le _, Nat.le_refl _, Nat.le_refl _, hh8, sA⟩
  case round =>
    obtain ⟨k, v3, l3, hv3, hs3, rfl, hk, q1, q2, q3, s3⟩ := hrel
    clear sA
    by_cases hkl : k < bs2.length
    · have e1 : decide ((k : Int) < bs2.length) = true := by simpa using hkl
      have e2 : (k : Int) < bs2.length := by omega
      have hrow := (show wr.ownsRow 0 88 10 (.slice ab bs2.length cb) bs2.length (fl bc bs2) from s3.get 8 rfl)
      obtain ⟨gB, rfl, _⟩ := own_some hrow (by omega)
      have hrng := rec_range bc_len hrow hkl
      have hTb := (hall8 bs2[k] (List.getElem_mem hkl)).2.2.imp (rs' := (blk PB (pb TB sv m8) 180 :: row 88 10 (.slice (some ⟨gB, 0, none⟩) bs2.length cb) bs2.length (fl bc bs2) :: many Rs2 :: byR si 64 :: blk KD (kc u d ag sg (.slice (some ⟨Y, 0, none⟩) 1 c) ov2 6 (.slice none 0 0)) 176 :: blk DB (dc PB KD bp (.float .f64 lg)) 98 :: blk X [.int .i64 u, .int .i64 d] 40 :: srvR SB RB BM LM rv7 ((insL li (newL u d)).set (placeL li u d) x7) (putM bm (u, d) (.pointer (some ⟨BX, 0, none⟩))) lm lv logs (blk WB (wb PB SB dv ov NB nw (.float .f64 lg) AB mv) 61 :: row 41 1 dv ds.length (dpL ds) :: row 4 1 ov ons.length (bl ons) :: row 52 9 mv nM ms :: rest))) (fun w hr r hm => by
        rcases List.mem_cons.1 hm with rfl | hm
        · exact hr _ (by simp)
        · obtain rfl : r = many Rs2 := by simpa using hm
          exact hr _ (by simp))
      generalize bs2[k] = b at *
      clear hrow
      go_upto_region 11 with (first
        | (refine wpList_load_mid rfl 88 _ rfl gB (k * 10) rfl (bc b) _ hrng Tryz.underlying88 (by rfl) (by kernel_rfl) ?_)
        | (refine wpList_alloc_new rfl 88 rfl (.agg (bc b0).toArray) (fun _ => by kernel_rfl) ?_; intro XB wX oX lX bX)
        | (refine wpList_store_blk rfl 88 _ _ rfl XB (bc b) rfl rfl bX rfl (by kernel_rfl) (bc_arr _) ?_; intro wB oB bB))
      have s11 := (s3.quiet (oX.new oB (fun k hk => by simp only [List.mem_singleton] at hk; omega))).quiet (Only.drew wB [])
      clear s3 oX oB bX hrng
      refine wp_region_u (S := fun w' => w'.heap[WB]? = some (.cells (wb PB SB dv ov NB nw (.float .f64 lg) AB mv).toArray 61 (0, 0)) ∧ w'.heap[XB]? = some (.cells (bc b).toArray 88 (0, 0))) 5 [] (by kernel_rfl) (by kernel_rfl) ⟨s11.get 21 rfl, bB⟩ (fun hZ hHeld => ?_)
      refine' wpAnyU_take (i := 0) (v := _) hZ (op_at' rfl) (by kernel_rfl) (by kernel_rfl) (by kernel_rfl) (by kernel_rfl) (by kernel_rfl) (fun _ _ _ h => h) (Or.inl ⟨by rfl, ?hy16⟩) (by assumption) ?rest16
      case hy16 =>
        intro w' hS
        go_simp
        try with_reducible rfl
      try simp only [Act.put, List.setIfInBounds_toArray, List.set_cons_zero, List.set_cons_succ]
      refine' wpAnyU_take (i := 1) (v := _) hZ (op_at' rfl) (by kernel_rfl) (by kernel_rfl) (by kernel_rfl) (by kernel_rfl) (by kernel_rfl) (fun _ _ _ h => h) (Or.inl ⟨by rfl, ?hy17⟩) (by assumption) ?rest17
      case hy17 =>
        intro w' hS
        go_simp
        try with_reducible rfl
      try simp only [Act.put, List.setIfInBounds_toArray, List.set_cons_zero, List.set_cons_succ]
      refine' wpAnyU_take (i := 2) (v := _) hZ (op_at' rfl) (by kernel_rfl) (by kernel_rfl) (by kernel_rfl) (by kernel_rfl) (by kernel_rfl) (fun _ _ _ h => h) (Or.inl ⟨by rfl, ?hy18⟩) (by assumption) ?rest18
      case hy18 =>
        intro w' hS
        go_simp
        try with_reducible rfl
      try simp only [Act.put, List.setIfInBounds_toArray, List.set_cons_zero, List.set_cons_succ]
      refine' wpAnyU_take (i := 3) (v := _) hZ (op_at' rfl) (by kernel_rfl) (by kernel_rfl) (by kernel_rfl) (by kernel_rfl) (by kernel_rfl) (fun _ _ _ h => h) (Or.inl ⟨by rfl, ?hy19⟩) (by assumption) ?rest19
      case hy19 =>
        intro w' hS
        obtain ⟨c0, c1, c2, c3, c6, c7, c8⟩ := wb_at hS.1
        go_simp
        try with_reducible rfl
      try simp only [Act.put, List.setIfInBounds_toArray, List.set_cons_zero, List.set_cons_succ]
      refine wpAnyU_take (i := 4) hZ (op_at' rfl) (by kernel_rfl) (by kernel_rfl) (by kernel_rfl) (by kernel_rfl) (by kernel_rfl) (fun _ _ _ h => h) (yieldsIf_load_mid (by rfl) _ _ rfl XB 0 rfl (bc b) _ (fun w' hS => range_of hS.2) Tryz.underlying88 (by rfl) (by kernel_rfl)) (by assumption) ?_
      try simp only [Act.put, List.setIfInBounds_toArray, List.set_cons_zero, List.set_cons_succ]
      refine wpAnyU_next (i := 5) (by kernel_rfl) (by simp) (op_at' rfl) (fun K hK => ?_)
      go_simp
      refine (show_any AB PB KB TB TM v3 hv3 l3 hs3 b _ s11 hI (by omega) q3 hTb).mono ?_
      rintro e w5 ⟨rfl, v5, l5, hv5, hs5, a5, b5, c5, s5⟩
      go_wp2_with fail
      refine hK.out _ _ ?_
      clear hK K
      try simp only [Act.put, List.setIfInBounds_toArray, List.set_cons_zero, List.set_cons_succ]
      refine wpAnyU_done (by kernel_rfl) ?_ _
      go_wp2_with fail
      exact ⟨⟨k + 1, v5, l5, hv5, hs5, by simp, by omega, by omega, by omega, c5, s5⟩, by simp [intOf]; omega⟩
    · obtain rfl : k = bs2.length := by omega
      have e1 : decide ((bs2.length : Int) < bs2.length) = false := by simp
      obtain ⟨i7, hi7, hz07, hz17, hz27⟩ := info_parts info_dp
      obtain ⟨i13, hi13, hz013, hz113, hz213⟩ := info_parts info_bool
      obtain ⟨adv, cdv, rfl⟩ := own_slice (show wr.ownsRow 0 41 1 dv ds.length (dpL ds) from s3.get 22 rfl)
      obtain ⟨aon, con, rfl⟩ := own_slice (show wr.ownsRow 0 4 1 ov ons.length (bl ons) from s3.get 23 rfl)
      go_upto_region 13 with fail
      have sB : Sep w0 wr.drew (row 41 1 (.slice adv ds.length cdv) ds.length (dpL ds) :: row 4 1 (.slice aon ons.length con) ons.length (bl ons) :: blk WB (wb PB SB (.slice adv ds.length cdv) (.slice aon ons.length con) NB nw (.float .f64 lg) AB mv) 61 :: row 52 9 mv nM ms :: tabR TB TM v3 l3 (advR AB PB KB TB hv3 hs3 (blk PB (pb TB sv m8) 180 :: row 88 10 (.slice ab bs2.length cb) bs2.length (fl bc bs2) :: many Rs2 :: byR si 64 :: blk KD (kc u d ag sg (.slice (some ⟨Y, 0, none⟩) 1 c) ov2 6 (.slice none 0 0)) 176 :: blk DB (dc PB KD bp (.float .f64 lg)) 98 :: blk X [.int .i64 u, .int .i64 d] 40 :: srvR SB RB BM LM rv7 ((insL li (newL u d)).set (placeL li u d) x7) (putM bm (u, d) (.pointer (some ⟨BX, 0, none⟩))) lm lv logs rest))) := (s3.sel 25 [22, 23, 21, 24, 0, 1, 2, 3, 4, 5, 6, 7, 8, 9, 10, 11, 12, 13, 14, 15, 16, 17, 18, 19, 20]).quiet (Only.drew wr [])
      clear s3
      refine wp_region_held_drew (S := fun _ => True) (by kernel_rfl) trivial (fun _ => ?_)
      refine' wpAnyH_take (i := 1) (v := _) (op_at rfl) (by kernel_rfl) (by kernel_rfl) (by kernel_rfl) (fun _ _ _ h => h) (Or.inl ⟨by rfl, ?hy21⟩) (by trivial) ?rest21
      case hy21 =>
        intro w' _
        go_simp
        try with_reducible rfl
      try simp only [Act.put, List.setIfInBounds_toArray, List.set_cons_zero, List.set_cons_succ]
      refine wpAnyU_in (S := fun w' => w'.heap[WB]? = some (.cells (wb PB SB (.slice adv ds.length cdv) (.slice aon ons.length con) NB nw (.float .f64 lg) AB mv).toArray 61 (0, 0))) 15 [1] (by kernel_rfl) (sB.get 2 rfl) (fun hZ hHeld => ?_)
      refine' wpAnyU_take (i := 0) (v := _) hZ (op_at' rfl) (by kernel_rfl) (by kernel_rfl) (by kernel_rfl) (by kernel_rfl) (by kernel_rfl) (fun _ _ _ h => h) (Or.inl ⟨by rfl, ?hy22⟩) (by assumption) ?rest22
      case hy22 =>
        intro w' hS
        go_simp
        try with_reducible rfl
      try simp only [Act.put, List.setIfInBounds_toArray, List.set_cons_zero, List.set_cons_succ]
      refine' wpAnyU_take (i := 2) (v := _) hZ (op_at' rfl) (by kernel_rfl) (by kernel_rfl) (by kernel_rfl) (by kernel_rfl) (by kernel_rfl) (fun _ _ _ h => h) (Or.inl ⟨by rfl, ?hy23⟩) (by assumption) ?rest23
      case hy23 =>
        intro w' hS
        go_simp
        try with_reducible rfl
      try simp only [Act.put, List.setIfInBounds_toArray, List.set_cons_zero, List.set_cons_succ]
      refine' wpAnyU_take (i := 3) (v := _) hZ (op_at' rfl) (by kernel_rfl) (by kernel_rfl) (by kernel_rfl) (by kernel_rfl) (by kernel_rfl) (fun _ _ _ h => h) (Or.inl ⟨by rfl, ?hy24⟩) (by assumption) ?rest24
      case hy24 =>
        intro w' hS
        go_simp
        try with_reducible rfl
      try simp only [Act.put, List.setIfInBounds_toArray, List.set_cons_zero, List.set_cons_succ]
      refine' wpAnyU_take (i := 4) (v := _) hZ (op_at' rfl) (by kernel_rfl) (by kernel_rfl) (by kernel_rfl) (by kernel_rfl) (by kernel_rfl) (fun _ _ _ h => h) (Or.inl ⟨by rfl, ?hy25⟩) (by assumption) ?rest25
      case hy25 =>
        intro w' hS
        go_simp
        try with_reducible rfl
      try simp only [Act.put, List.setIfInBounds_toArray, List.set_cons_zero, List.set_cons_succ]
      refine' wpAnyU_take (i := 5) (v := _) hZ (op_at' rfl) (by kernel_rfl) (by kernel_rfl) (by kernel_rfl) (by kernel_rfl) (by kernel_rfl) (fun _ _ _ h => h) (Or.inl ⟨by rfl, ?hy26⟩) (by assumption) ?rest26
      case hy26 =>
        intro w' hS
        obtain ⟨c0, c1, c2, c3, c6, c7, c8⟩ := wb_at hS
        go_simp
        try with_reducible rfl
      try simp only [Act.put, List.setIfInBounds_toArray, List.set_cons_zero, List.set_cons_succ]
      refine' wpAnyU_take (i := 6) (v := _) hZ (op_at' rfl) (by kernel_rfl) (by kernel_rfl) (by kernel_rfl) (by kernel_rfl) (by kernel_rfl) (fun _ _ _ h => h) (Or.inl ⟨by rfl, ?hy27⟩) (by assumption) ?rest27
      case hy27 =>
        intro w' hS
        go_simp
        try with_reducible rfl
      try simp only [Act.put, List.setIfInBounds_toArray, List.set_cons_zero, List.set_cons_succ]
      refine' wpAnyU_take (i := 9) (v := _) hZ (op_at' rfl) (by kernel_rfl) (by kernel_rfl) (by kernel_rfl) (by kernel_rfl) (by kernel_rfl) (fun _ _ _ h => h) (Or.inl ⟨by rfl, ?hy28⟩) (by assumption) ?rest28
      case hy28 =>
        intro w' hS
        go_simp
        try with_reducible rfl
      try simp only [Act.put, List.setIfInBounds_toArray, List.set_cons_zero, List.set_cons_succ]
      refine' wpAnyU_take (i := 10) (v := _) hZ (op_at' rfl) (by kernel_rfl) (by kernel_rfl) (by kernel_rfl) (by kernel_rfl) (by kernel_rfl) (fun _ _ _ h => h) (Or.inl ⟨by rfl, ?hy29⟩) (by assumption) ?rest29
      case hy29 =>
        intro w' hS
        go_simp
        try with_reducible rfl
      try simp only [Act.put, List.setIfInBounds_toArray, List.set_cons_zero, List.set_cons_succ]
      refine' wpAnyU_take (i := 11) (v := _) hZ (op_at' rfl) (by kernel_rfl) (by kernel_rfl) (by kernel_rfl) (by kernel_rfl) (by kernel_rfl) (fun _ _ _ h => h) (Or.inl ⟨by rfl, ?hy30⟩) (by assumption) ?rest30
      case hy30 =>
        intro w' hS
        go_simp
        try with_reducible rfl
      try simp only [Act.put, List.setIfInBounds_toArray, List.set_cons_zero, List.set_cons_succ]
      refine' wpAnyU_take (i := 12) (v := _) hZ (op_at' rfl) (by kernel_rfl) (by kernel_rfl) (by kernel_rfl) (by kernel_rfl) (by kernel_rfl) (fun _ _ _ h => h) (Or.inl ⟨by rfl, ?hy31⟩) (by assumption) ?rest31
      case hy31 =>
        intro w' hS
        obtain ⟨c0, c1, c2, c3, c6, c7, c8⟩ := wb_at hS
        go_simp
        try with_reducible rfl
      try simp only [Act.put, List.setIfInBounds_toArray, List.set_cons_zero, List.set_cons_succ]
      refine wpAnyU_two (i := 7) (k := 13) (by kernel_rfl) (op_at' rfl) (op_at' rfl) (fun K hK => ?bt32a) (fun K hK => ?bt32b)
      case bt32a =>
        refine step_buildSlice_any (by rfl) 57 _ (by rfl) 41 i7 _ (.pointer (some ⟨DB, 0, none⟩)) [.pointer (some ⟨DB, 0, none⟩)] (by rfl) (by rfl) Tryz.underlying57 hi7 hz07 (by rw [hz17]; rfl) (by rfl) (by simp) (by simp) (fun Y7 w7 o7 hYl7 hY7 => ?_)
        go_wp2_with fail
        refine hK.out _ _ (o7.at hHeld (by simp)) (fun hHeld => ?_)
        clear hK K
        try simp only [Act.put, List.setIfInBounds_toArray, List.set_cons_zero, List.set_cons_succ]
        have s7 := (sB.add (b := blk Y7 [.pointer (some ⟨DB, 0, none⟩)] 41) o7 hY7 (fun k hk => by simp [blk] at hk; omega)).sel 4 [1, 2, 3, 0]
        refine wpAnyU_two (i := 8) (k := 13) (by kernel_rfl) (op_at' rfl) (op_at' rfl) (fun K hK => ?bt33a) (fun K hK => ?bt33b)
        case bt33a =>
          have sa := s7
          refine step_append_sep (by rfl) (.tmp 64) (.tmp 66) 57 (by rfl) 41 i7 _ 1 8 Tryz.underlying57 hi7 hz07 hz17 hz27 rfl (by decide) _ ds.length _ (by rfl) sa _ 1 [.pointer (some ⟨DB, 0, none⟩)] (by rfl) (src_blk (show _ = _ from sa.get 3 rfl) rfl) (by simp [Value.oneCell']) (by unfold maxLen; omega) (by omega) (fun a8 c8 w8b o8 s8 => ?_)
          go_wp2_with fail
          refine hK.out _ _ (s8.get 2 rfl) (fun hHeld => ?_)
          clear hK K
          try simp only [Act.put, List.setIfInBounds_toArray, List.set_cons_zero, List.set_cons_succ]
          refine wpAnyU_one (i := 13) (by kernel_rfl) (op_at' rfl) (fun K hK => ?_)
          refine step_buildSlice_any (by rfl) 26 _ (by rfl) 4 i13 _ (.bool true) [.bool true] (by rfl) (by rfl) Tryz.underlying26 hi13 hz013 (by rw [hz113]; rfl) (by rfl) (by simp) (by simp) (fun Y13 w13 o13 hYl13 hY13 => ?_)
          go_wp2_with fail
          refine hK.out _ _ (o13.at hHeld (by simp)) (fun hHeld => ?_)
          clear hK K
          try simp only [Act.put, List.setIfInBounds_toArray, List.set_cons_zero, List.set_cons_succ]
          have s13 := (s8.add (b := blk Y13 [.bool true] 4) o13 hY13 (fun k hk => by simp [blk] at hk; omega)).sel 4 [1, 2, 3, 0]
          refine wpAnyU_one (i := 14) (by kernel_rfl) (op_at' rfl) (fun K hK => ?_)
          have sb : Sep w0 _ (row 4 1 (.slice aon ons.length con) ons.length (bl ons) :: row 41 1 _ _ _ :: blk WB _ 61 :: _) := s13.sel 3 [1, 0, 2]
          refine step_append_sep (by rfl) (.tmp 71) (.tmp 72) 26 (by rfl) 4 i13 _ 1 1 Tryz.underlying26 hi13 hz013 hz113 hz213 rfl (by decide) _ ons.length _ (by rfl) sb _ 1 [.bool true] (by rfl) (src_blk (show _ = _ from sb.get 3 rfl) rfl) (by simp [Value.oneCell']) (by unfold maxLen; omega) (by omega) (fun a14 c14 w14 o14 s14 => ?_)
          go_wp2_with fail
          refine hK.out _ _ (s14.get 2 rfl) (fun hHeld => ?_)
          clear hK K
          try simp only [Act.put, List.setIfInBounds_toArray, List.set_cons_zero, List.set_cons_succ]
          refine wpAnyU_next (i := 15) (by kernel_rfl) (by simp) (op_at' rfl) (fun K hK => ?_)
          go_simp
          go_wp2_with fail
          refine hK.out _ _ ?_
          clear hK K
          try simp only [Act.put, List.setIfInBounds_toArray, List.set_cons_zero, List.set_cons_succ]
          refine wpAnyU_next (i := 16) (by kernel_rfl) (by simp) (op_at' rfl) (fun K hK => ?_)
          go_simp
          go_wp2_with fail
          refine hK.out _ _ ?_
          clear hK K
          try simp only [Act.put, List.setIfInBounds_toArray, List.set_cons_zero, List.set_cons_succ]
          refine wpAnyU_next (i := 17) (by kernel_rfl) (by simp) (op_at' rfl) (fun K hK => ?_)
          refine step_store_blk (by rfl) 57 _ _ (by rfl) WB 2 (.slice a8 (ds.length + 1) c8) [.slice a8 (ds.length + 1) c8] (wb PB SB (.slice adv ds.length cdv) (.slice aon ons.length con) NB nw (.float .f64 lg) AB mv) 61 (by rfl) (by rfl) (by rfl) (s14.sel 3 [2, 0, 1]) (by simp) (by kernel_rfl) (by simp [Value.oneCell']) (fun w17 o17 s17 => ?_)
          go_wp2_with fail
          refine hK.out _ _ ?_
          clear hK K
          try simp only [Act.put, List.setIfInBounds_toArray, List.set_cons_zero, List.set_cons_succ]
          refine wpAnyU_next (i := 18) (by kernel_rfl) (by simp) (op_at' rfl) (fun K hK => ?_)
          go_simp
          go_wp2_with fail
          refine hK.out _ _ ?_
          clear hK K
          try simp only [Act.put, List.setIfInBounds_toArray, List.set_cons_zero, List.set_cons_succ]
          refine wpAnyU_next (i := 19) (by kernel_rfl) (by simp) (op_at' rfl) (fun K hK => ?_)
          go_simp
          go_wp2_with fail
          refine hK.out _ _ ?_
          clear hK K
          try simp only [Act.put, List.setIfInBounds_toArray, List.set_cons_zero, List.set_cons_succ]
          refine wpAnyU_next (i := 20) (by kernel_rfl) (by simp) (op_at' rfl) (fun K hK => ?_)
          refine step_store_blk (by rfl) 26 _ _ (by rfl) WB 3 (.slice a14 (ons.length + 1) c14) [.slice a14 (ons.length + 1) c14] _ 61 (by rfl) (by rfl) (by rfl) s17 (by simp [setL_length]) (by kernel_rfl) (by simp [Value.oneCell']) (fun w20 o20 s20 => ?_)
          go_wp2_with fail
          refine hK.out _ _ ?_
          clear hK K
          try simp only [Act.put, List.setIfInBounds_toArray, List.set_cons_zero, List.set_cons_succ]
          refine wpAnyU_done (by kernel_rfl) ?_ _
          have hX : w20.heap[X]? = some (.cells [Value.int .i64 u, .int .i64 d].toArray 40 (0, 0)) := s20.get 19 rfl
          have sM0 := s20.sel 27 [0, 5, 2, 1, 6, 7, 8, 9, 13, 10, 11, 12, 20, 21, 22, 23, 24, 25, 26, 18, 17, 19]
          clear s20 s17 s14 s8 s7 s13 sB hHeld sa sb
          go_wp2_with (refine wpList_load_blk rfl 40 _ rfl X rfl [.int .i64 u, .int .i64 d] _ hX Tryz.underlying40 (by rfl) (by kernel_rfl) ?_)
          refine (mark_any WB PB SB NB AB (.slice a8 (ds.length + 1) c8) (.slice a14 (ons.length + 1) c14) nw (.float .f64 lg) mv nM ms [.int .u8 0, .int .i64 u, .int .i64 d, .int .i64 0, .int .i64 0, .int .u32 0, .int .i64 0, .slice none 0 0, .int .i64 0] _ sM0 (by omega) rfl (by simp [Value.oneCell'])).mono ?_
          rintro e wM ⟨rfl, mv2, sM⟩
          go_wp2_with fail
          go_ret
          refine ⟨rfl, DB, KD, x7, v3, hv3, rv7, .slice a8 (ds.length + 1) c8, .slice a14 (ons.length + 1) c14, mv2, bp, ag, sg, .slice (some ⟨Y, 0, none⟩) 1 c, ov2, l3, m8, hs3, (putM bm (u, d) (.pointer (some ⟨BX, 0, none⟩))), ms ++ [.int .u8 0, .int .i64 u, .int .i64 d, .int .i64 0, .int .i64 0, .int .u32 0, .int .i64 0, .slice none 0 0, .int .i64 0], x1, x2, x3, by omega, by omega, by omega, by omega, q3, ?_⟩
          rw [show (ds ++ [DB]).length = ds.length + 1 by simp, show (ons ++ [true]).length = ons.length + 1 by simp, show dpL (ds ++ [DB]) = dpL ds ++ [.pointer (some ⟨DB, 0, none⟩)] by simp [dpL], show bl (ons ++ [true]) = bl ons ++ [.bool true] by simp [bl]]
          exact sM.sel 22 [4, 5, 6, 7, 8, 9, 10, 11, 12, 13, 14, 15, 16, 17, 18, 0, 2, 3, 1, 19, 20]
        case bt33b =>
          refine step_buildSlice_any (by rfl) 26 _ (by rfl) 4 i13 _ (.bool true) [.bool true] (by rfl) (by rfl) Tryz.underlying26 hi13 hz013 (by rw [hz113]; rfl) (by rfl) (by simp) (by simp) (fun Y13 w13 o13 hYl13 hY13 => ?_)
          go_wp2_with fail
          refine hK.out _ _ (o13.at hHeld (by simp)) (fun hHeld => ?_)
          clear hK K
          try simp only [Act.put, List.setIfInBounds_toArray, List.set_cons_zero, List.set_cons_succ]
          have s13 := (s7.add (b := blk Y13 [.bool true] 4) o13 hY13 (fun k hk => by simp [blk] at hk; omega)).sel 4 [1, 2, 3, 0]
          refine wpAnyU_one (i := 8) (by kernel_rfl) (op_at' rfl) (fun K hK => ?_)
          have sa := s13
          refine step_append_sep (by rfl) (.tmp 64) (.tmp 66) 57 (by rfl) 41 i7 _ 1 8 Tryz.underlying57 hi7 hz07 hz17 hz27 rfl (by decide) _ ds.length _ (by rfl) sa _ 1 [.pointer (some ⟨DB, 0, none⟩)] (by rfl) (src_blk (show _ = _ from sa.get 4 rfl) rfl) (by simp [Value.oneCell']) (by unfold maxLen; omega) (by omega) (fun a8 c8 w8b o8 s8 => ?_)
          go_wp2_with fail
          refine hK.out _ _ (s8.get 2 rfl) (fun hHeld => ?_)
          clear hK K
          try simp only [Act.put, List.setIfInBounds_toArray, List.set_cons_zero, List.set_cons_succ]
          refine wpAnyU_one (i := 14) (by kernel_rfl) (op_at' rfl) (fun K hK => ?_)
          have sb : Sep w0 _ (row 4 1 (.slice aon ons.length con) ons.length (bl ons) :: row 41 1 _ _ _ :: blk WB _ 61 :: _) := s8.sel 3 [1, 0, 2]
          refine step_append_sep (by rfl) (.tmp 71) (.tmp 72) 26 (by rfl) 4 i13 _ 1 1 Tryz.underlying26 hi13 hz013 hz113 hz213 rfl (by decide) _ ons.length _ (by rfl) sb _ 1 [.bool true] (by rfl) (src_blk (show _ = _ from sb.get 3 rfl) rfl) (by simp [Value.oneCell']) (by unfold maxLen; omega) (by omega) (fun a14 c14 w14 o14 s14 => ?_)
          go_wp2_with fail
          refine hK.out _ _ (s14.get 2 rfl) (fun hHeld => ?_)
          clear hK K
          try simp only [Act.put, List.setIfInBounds_toArray, List.set_cons_zero, List.set_cons_succ]
          refine wpAnyU_next (i := 15) (by kernel_rfl) (by simp) (op_at' rfl) (fun K hK => ?_)
          go_simp
          go_wp2_with fail
          refine hK.out _ _ ?_
          clear hK K
          try simp only [Act.put, List.setIfInBounds_toArray, List.set_cons_zero, List.set_cons_succ]
          refine wpAnyU_next (i := 16) (by kernel_rfl) (by simp) (op_at' rfl) (fun K hK => ?_)
          go_simp
          go_wp2_with fail
          refine hK.out _ _ ?_
          clear hK K
          try simp only [Act.put, List.setIfInBounds_toArray, List.set_cons_zero, List.set_cons_succ]
          refine wpAnyU_next (i := 17) (by kernel_rfl) (by simp) (op_at' rfl) (fun K hK => ?_)
          refine step_store_blk (by rfl) 57 _ _ (by rfl) WB 2 (.slice a8 (ds.length + 1) c8) [.slice a8 (ds.length + 1) c8] (wb PB SB (.slice adv ds.length cdv) (.slice aon ons.length con) NB nw (.float .f64 lg) AB mv) 61 (by rfl) (by rfl) (by rfl) (s14.sel 3 [2, 0, 1]) (by simp) (by kernel_rfl) (by simp [Value.oneCell']) (fun w17 o17 s17 => ?_)
          go_wp2_with fail
          refine hK.out _ _ ?_
          clear hK K
          try simp only [Act.put, List.setIfInBounds_toArray, List.set_cons_zero, List.set_cons_succ]
          refine wpAnyU_next (i := 18) (by kernel_rfl) (by simp) (op_at' rfl) (fun K hK => ?_)
          go_simp
          go_wp2_with fail
          refine hK.out _ _ ?_
          clear hK K
          try simp only [Act.put, List.setIfInBounds_toArray, List.set_cons_zero, List.set_cons_succ]
          refine wpAnyU_next (i := 19) (by kernel_rfl) (by simp) (op_at' rfl) (fun K hK => ?_)
          go_simp
          go_wp2_with fail
          refine hK.out _ _ ?_
          clear hK K
          try simp only [Act.put, List.setIfInBounds_toArray, List.set_cons_zero, List.set_cons_succ]
          refine wpAnyU_next (i := 20) (by kernel_rfl) (by simp) (op_at' rfl) (fun K hK => ?_)
          refine step_store_blk (by rfl) 26 _ _ (by rfl) WB 3 (.slice a14 (ons.length + 1) c14) [.slice a14 (ons.length + 1) c14] _ 61 (by rfl) (by rfl) (by rfl) s17 (by simp [setL_length]) (by kernel_rfl) (by simp [Value.oneCell']) (fun w20 o20 s20 => ?_)
          go_wp2_with fail
          refine hK.out _ _ ?_
          clear hK K
          try simp only [Act.put, List.setIfInBounds_toArray, List.set_cons_zero, List.set_cons_succ]
          refine wpAnyU_done (by kernel_rfl) ?_ _
          have hX : w20.heap[X]? = some (.cells [Value.int .i64 u, .int .i64 d].toArray 40 (0, 0)) := s20.get 19 rfl
          have sM0 := s20.sel 27 [0, 5, 2, 1, 6, 7, 8, 9, 13, 10, 11, 12, 20, 21, 22, 23, 24, 25, 26, 18, 17, 19]
          clear s20 s17 s14 s8 s7 s13 sB hHeld sa sb
          go_wp2_with (refine wpList_load_blk rfl 40 _ rfl X rfl [.int .i64 u, .int .i64 d] _ hX Tryz.underlying40 (by rfl) (by kernel_rfl) ?_)
          refine (mark_any WB PB SB NB AB (.slice a8 (ds.length + 1) c8) (.slice a14 (ons.length + 1) c14) nw (.float .f64 lg) mv nM ms [.int .u8 0, .int .i64 u, .int .i64 d, .int .i64 0, .int .i64 0, .int .u32 0, .int .i64 0, .slice none 0 0, .int .i64 0] _ sM0 (by omega) rfl (by simp [Value.oneCell'])).mono ?_
          rintro e wM ⟨rfl, mv2, sM⟩
          go_wp2_with fail
          go_ret
          refine ⟨rfl, DB, KD, x7, v3, hv3, rv7, .slice a8 (ds.length + 1) c8, .slice a14 (ons.length + 1) c14, mv2, bp, ag, sg, .slice (some ⟨Y, 0, none⟩) 1 c, ov2, l3, m8, hs3, (putM bm (u, d) (.pointer (some ⟨BX, 0, none⟩))), ms ++ [.int .u8 0, .int .i64 u, .int .i64 d, .int .i64 0, .int .i64 0, .int .u32 0, .int .i64 0, .slice none 0 0, .int .i64 0], x1, x2, x3, by omega, by omega, by omega, by omega, q3, ?_⟩
          rw [show (ds ++ [DB]).length = ds.length + 1 by simp, show (ons ++ [true]).length = ons.length + 1 by simp, show dpL (ds ++ [DB]) = dpL ds ++ [.pointer (some ⟨DB, 0, none⟩)] by simp [dpL], show bl (ons ++ [true]) = bl ons ++ [.bool true] by simp [bl]]
          exact sM.sel 22 [4, 5, 6, 7, 8, 9, 10, 11, 12, 13, 14, 15, 16, 17, 18, 0, 2, 3, 1, 19, 20]
      case bt32b =>
        refine step_buildSlice_any (by rfl) 26 _ (by rfl) 4 i13 _ (.bool true) [.bool true] (by rfl) (by rfl) Tryz.underlying26 hi13 hz013 (by rw [hz113]; rfl) (by rfl) (by simp) (by simp) (fun Y13 w13 o13 hYl13 hY13 => ?_)
        go_wp2_with fail
        refine hK.out _ _ (o13.at hHeld (by simp)) (fun hHeld => ?_)
        clear hK K
        try simp only [Act.put, List.setIfInBounds_toArray, List.set_cons_zero, List.set_cons_succ]
        have s13 := (sB.add (b := blk Y13 [.bool true] 4) o13 hY13 (fun k hk => by simp [blk] at hk; omega)).sel 4 [1, 2, 3, 0]
        refine wpAnyU_one (i := 7) (by kernel_rfl) (op_at' rfl) (fun K hK => ?_)
        refine step_buildSlice_any (by rfl) 57 _ (by rfl) 41 i7 _ (.pointer (some ⟨DB, 0, none⟩)) [.pointer (some ⟨DB, 0, none⟩)] (by rfl) (by rfl) Tryz.underlying57 hi7 hz07 (by rw [hz17]; rfl) (by rfl) (by simp) (by simp) (fun Y7 w7 o7 hYl7 hY7 => ?_)
        go_wp2_with fail
        refine hK.out _ _ (o7.at hHeld (by simp)) (fun hHeld => ?_)
        clear hK K
        try simp only [Act.put, List.setIfInBounds_toArray, List.set_cons_zero, List.set_cons_succ]
        have s7 := (s13.add (b := blk Y7 [.pointer (some ⟨DB, 0, none⟩)] 41) o7 hY7 (fun k hk => by simp [blk] at hk; omega)).sel 4 [1, 2, 3, 0]
        refine wpAnyU_one (i := 8) (by kernel_rfl) (op_at' rfl) (fun K hK => ?_)
        have sa := s7
        refine step_append_sep (by rfl) (.tmp 64) (.tmp 66) 57 (by rfl) 41 i7 _ 1 8 Tryz.underlying57 hi7 hz07 hz17 hz27 rfl (by decide) _ ds.length _ (by rfl) sa _ 1 [.pointer (some ⟨DB, 0, none⟩)] (by rfl) (src_blk (show _ = _ from sa.get 3 rfl) rfl) (by simp [Value.oneCell']) (by unfold maxLen; omega) (by omega) (fun a8 c8 w8b o8 s8 => ?_)
        go_wp2_with fail
        refine hK.out _ _ (s8.get 2 rfl) (fun hHeld => ?_)
        clear hK K
        try simp only [Act.put, List.setIfInBounds_toArray, List.set_cons_zero, List.set_cons_succ]
        refine wpAnyU_one (i := 14) (by kernel_rfl) (op_at' rfl) (fun K hK => ?_)
        have sb : Sep w0 _ (row 4 1 (.slice aon ons.length con) ons.length (bl ons) :: row 41 1 _ _ _ :: blk WB _ 61 :: _) := s8.sel 3 [1, 0, 2]
        refine step_append_sep (by rfl) (.tmp 71) (.tmp 72) 26 (by rfl) 4 i13 _ 1 1 Tryz.underlying26 hi13 hz013 hz113 hz213 rfl (by decide) _ ons.length _ (by rfl) sb _ 1 [.bool true] (by rfl) (src_blk (show _ = _ from sb.get 4 rfl) rfl) (by simp [Value.oneCell']) (by unfold maxLen; omega) (by omega) (fun a14 c14 w14 o14 s14 => ?_)
        go_wp2_with fail
        refine hK.out _ _ (s14.get 2 rfl) (fun hHeld => ?_)
        clear hK K
        try simp only [Act.put, List.setIfInBounds_toArray, List.set_cons_zero, List.set_cons_succ]
        refine wpAnyU_next (i := 15) (by kernel_rfl) (by simp) (op_at' rfl) (fun K hK => ?_)
        go_simp
        go_wp2_with fail
        refine hK.out _ _ ?_
        clear hK K
        try simp only [Act.put, List.setIfInBounds_toArray, List.set_cons_zero, List.set_cons_succ]
        refine wpAnyU_next (i := 16) (by kernel_rfl) (by simp) (op_at' rfl) (fun K hK => ?_)
        go_simp
        go_wp2_with fail
        refine hK.out _ _ ?_
        clear hK K
        try simp only [Act.put, List.setIfInBounds_toArray, List.set_cons_zero, List.set_cons_succ]
        refine wpAnyU_next (i := 17) (by kernel_rfl) (by simp) (op_at' rfl) (fun K hK => ?_)
        refine step_store_blk (by rfl) 57 _ _ (by rfl) WB 2 (.slice a8 (ds.length + 1) c8) [.slice a8 (ds.length + 1) c8] (wb PB SB (.slice adv ds.length cdv) (.slice aon ons.length con) NB nw (.float .f64 lg) AB mv) 61 (by rfl) (by rfl) (by rfl) (s14.sel 3 [2, 0, 1]) (by simp) (by kernel_rfl) (by simp [Value.oneCell']) (fun w17 o17 s17 => ?_)
        go_wp2_with fail
        refine hK.out _ _ ?_
        clear hK K
        try simp only [Act.put, List.setIfInBounds_toArray, List.set_cons_zero, List.set_cons_succ]
        refine wpAnyU_next (i := 18) (by kernel_rfl) (by simp) (op_at' rfl) (fun K hK => ?_)
        go_simp
        go_wp2_with fail
        refine hK.out _ _ ?_
        clear hK K
        try simp only [Act.put, List.setIfInBounds_toArray, List.set_cons_zero, List.set_cons_succ]
        refine wpAnyU_next (i := 19) (by kernel_rfl) (by simp) (op_at' rfl) (fun K hK => ?_)
        go_simp
        go_wp2_with fail
        refine hK.out _ _ ?_
        clear hK K
        try simp only [Act.put, List.setIfInBounds_toArray, List.set_cons_zero, List.set_cons_succ]
        refine wpAnyU_next (i := 20) (by kernel_rfl) (by simp) (op_at' rfl) (fun K hK => ?_)
        refine step_store_blk (by rfl) 26 _ _ (by rfl) WB 3 (.slice a14 (ons.length + 1) c14) [.slice a14 (ons.length + 1) c14] _ 61 (by rfl) (by rfl) (by rfl) s17 (by simp [setL_length]) (by kernel_rfl) (by simp [Value.oneCell']) (fun w20 o20 s20 => ?_)
        go_wp2_with fail
        refine hK.out _ _ ?_
        clear hK K
        try simp only [Act.put, List.setIfInBounds_toArray, List.set_cons_zero, List.set_cons_succ]
        refine wpAnyU_done (by kernel_rfl) ?_ _
        have hX : w20.heap[X]? = some (.cells [Value.int .i64 u, .int .i64 d].toArray 40 (0, 0)) := s20.get 19 rfl
        have sM0 := s20.sel 27 [0, 5, 2, 1, 6, 7, 8, 9, 13, 10, 11, 12, 20, 21, 22, 23, 24, 25, 26, 18, 17, 19]
        clear s20 s17 s14 s8 s7 s13 sB hHeld sa sb
        go_wp2_with (refine wpList_load_blk rfl 40 _ rfl X rfl [.int .i64 u, .int .i64 d] _ hX Tryz.underlying40 (by rfl) (by kernel_rfl) ?_)
        refine (mark_any WB PB SB NB AB (.slice a8 (ds.length + 1) c8) (.slice a14 (ons.length + 1) c14) nw (.float .f64 lg) mv nM ms [.int .u8 0, .int .i64 u, .int .i64 d, .int .i64 0, .int .i64 0, .int .u32 0, .int .i64 0, .slice none 0 0, .int .i64 0] _ sM0 (by omega) rfl (by simp [Value.oneCell'])).mono ?_
        rintro e wM ⟨rfl, mv2, sM⟩
        go_wp2_with fail
        go_ret
        refine ⟨rfl, DB, KD, x7, v3, hv3, rv7, .slice a8 (ds.length + 1) c8, .slice a14 (ons.length + 1) c14, mv2, bp, ag, sg, .slice (some ⟨Y, 0, none⟩) 1 c, ov2, l3, m8, hs3, (putM bm (u, d) (.pointer (some ⟨BX, 0, none⟩))), ms ++ [.int .u8 0, .int .i64 u, .int .i64 d, .int .i64 0, .int .i64 0, .int .u32 0, .int .i64 0, .slice none 0 0, .int .i64 0], x1, x2, x3, by omega, by omega, by omega, by omega, q3, ?_⟩
        rw [show (ds ++ [DB]).length = ds.length + 1 by simp, show (ons ++ [true]).length = ons.length + 1 by simp, show dpL (ds ++ [DB]) = dpL ds ++ [.pointer (some ⟨DB, 0, none⟩)] by simp [dpL], show bl (ons ++ [true]) = bl ons ++ [.bool true] by simp [bl]]
        exact sM.sel 22 [4, 5, 6, 7, 8, 9, 10, 11, 12, 13, 14, 15, 16, 17, 18, 0, 2, 3, 1, 19, 20]
end Go.Proofs.YtmmhbehlpppdiaaGreatDoor.Wl
namespace Go.Proofs.YtmmhbehlpppdiaaGreatDoor.Wl
open Go.RowKit Go.Pw
def opV (k dev tu : Int) : Value := .agg #[.int .u8 k, .int .i64 dev, .int .i64 tu, .int .i64 0, .float .f64 0, .slice none 0 0]
set_option maxRecDepth 100000 in
set_option maxHeartbeats 1600000 in
theorem do_link {P : Ending → World → Prop} (WB : Nat) (tu : Int) (w : World) (H : ∀ w', Only w w' [] → Calls Tryz.prog 17 #[.pointer (some ⟨WB, 0, none⟩), .int .i64 tu] w' (fun e w'' => (∃ z : Int, e = .returned (.int .i64 z)) ∧ P e w'')) :
    Calls Tryz.prog 6 #[.pointer (some ⟨WB, 0, none⟩), opV 0 0 tu] w P := by
  have HH := Lib.hid H
  clear H
  simp only [opV]
  go_enter Tryz.func6, Tryz.ntmps6
  go_wp2_with (refine wpList_box_new rfl 31 _ rfl (.agg #[.int .u8 0, .int .i64 0, .int .i64 tu, .int .i64 0, .float .f64 0, .slice none 0 0]) rfl ?_; intro X wX oX lX bX; have d0 := cell_in bX 0; have d2 := cell_in bX 2)
  refine (HH.out _ oX).mono ?_
  rintro e w2 ⟨⟨z, rfl⟩, hP⟩
  go_wp2_with fail
  exact hP

set_option maxRecDepth 100000 in
set_option maxHeartbeats 1600000 in
theorem on_any (WB PB SB NB AB : Nat) (dv ov nw lg mv : Value) (n : Nat) (xs : List Value) (ons : List Bool) (i : Int) (w : World) (h : w.heap[WB]? = some (.cells (wb PB SB dv ov NB nw lg AB mv).toArray 61 (0, 0))) (hd : w.ownsRow 0 41 1 dv n xs) (ho : (row 4 1 ov ons.length (bl ons)).ok w) (hn : n = ons.length) :
    Calls Tryz.prog 8 #[.pointer (some ⟨WB, 0, none⟩), .int .i64 i] w fun e w' => e = .returned (.bool (if i < 0 then false else ons.getD i.toNat false)) ∧ Only w w' [] := by
  have ho' : w.ownsRow 0 4 1 ov ons.length (bl ons) := ho
  subst hn
  obtain ⟨ao, co, rfl⟩ := own_slice ho'
  have hdev := devices_any WB PB SB NB AB dv _ nw lg mv ons.length xs w h hd
  have c3 : ∀ w', Only w w' [] → w'.cell? ⟨WB, 3, none⟩ = _ := fun w' o => (wb_at (o.at h (by simp))).2.2.2.1
  by_cases hneg : i < 0
  · have e1 : decide (0 ≤ i) = false := by simpa using hneg
    rw [if_pos hneg]
    go_enter Tryz.func8, Tryz.ntmps8
    go_wp2_with fail
    go_ret
    exact ⟨rfl, Only.refl _ _⟩
  · obtain ⟨k, rfl⟩ := Int.eq_ofNat_of_zero_le (show 0 ≤ i by omega)
    have e1 : decide (0 ≤ (k : Int)) = true := by simp
    rw [if_neg hneg]
    clear hneg
    by_cases hk : k < ons.length
    · have e2 : decide ((k : Int) < ons.length) = true := by simpa using hk
      have e4 : (k : Int) < ons.length := by omega
      obtain ⟨g, rfl, _⟩ := own_some ho' (by omega)
      have ck : ∀ w', Only w w' [] → w'.cell? ⟨g, k, none⟩ = some (.bool ons[k]) := fun w' o => bl_at (Res.only ho o (by simp)) hk
      have e5 : ons.getD (Int.toNat (k : Int)) false = ons[k] := by simp [hk]
      rw [e5]
      generalize ons[k] = bk at *
      go_enter Tryz.func8, Tryz.ntmps8
      go_wp2_with fail
      refine hdev.mono ?_
      rintro e w1 ⟨rfl, o1⟩
      have c3 := c3 _ o1
      have ck := ck _ o1
      go_wp2_with fail
      go_ret
      exact ⟨rfl, o1⟩
    · have e2 : decide ((k : Int) < ons.length) = false := by simpa using hk
      have e5 : ons.getD (Int.toNat (k : Int)) false = false := by simp [List.getElem?_eq_none (show ons.length ≤ k by omega)]
      rw [e5]
      go_enter Tryz.func8, Tryz.ntmps8
      go_wp2_with fail
      refine hdev.mono ?_
      rintro e w1 ⟨rfl, o1⟩
      go_wp2_with fail
      go_ret
      exact ⟨rfl, o1⟩
set_option maxRecDepth 100000 in
set_option maxHeartbeats 1600000 in
theorem do_unlink_arg (WB PB SB NB AB : Nat) (dv ov nw lg mv : Value) (n k : Nat) (xs : List Value) (w : World) (h : w.heap[WB]? = some (.cells (wb PB SB dv ov NB nw lg AB mv).toArray 61 (0, 0))) (hd : w.ownsRow 0 41 1 dv n xs) (hk : n ≤ k) :
    Calls Tryz.prog 6 #[.pointer (some ⟨WB, 0, none⟩), opV 1 k 0] w fun e w' => e = .returned (.int .i64 1) ∧ Only w w' [] := by
  obtain ⟨ad, cd, rfl⟩ := own_slice hd
  have c2 : ∀ w', Only w w' [] → w'.cell? ⟨WB, 2, none⟩ = _ := fun w' o => (wb_at (o.at h (by simp))).2.2.1
  have e1 : decide ((k : Int) < 0) = false := by simp
  have e2 : decide ((n : Int) ≤ k) = true := by simpa using hk
  simp only [opV]
  go_enter Tryz.func6, Tryz.ntmps6
  go_upto_region 15 with (refine wpList_box_new rfl 31 _ rfl (.agg #[.int .u8 1, .int .i64 k, .int .i64 0, .int .i64 0, .float .f64 0, .slice none 0 0]) rfl ?_; intro X wX oX lX bX; have d0 := cell_in bX 0; have d1 := cell_in bX 1; have c2 := c2 _ oX)
  go_quiet (fail)
  go_wp2_with fail
  go_ret
  exact ⟨rfl, oX.trans (Only.drewN _ _ _)⟩
end Go.Proofs.YtmmhbehlpppdiaaGreatDoor.Wl
namespace Go.Proofs.YtmmhbehlpppdiaaGreatDoor.Wl
open Go.RowKit Go.Pw

set_option maxRecDepth 100000 in
set_option maxHeartbeats 4000000 in
theorem do_unlink_gone (WB PB SB NB AB : Nat) (dv ov nw lg mv : Value) (n k : Nat) (xs : List Value) (ons : List Bool) (w : World) (h : w.heap[WB]? = some (.cells (wb PB SB dv ov NB nw lg AB mv).toArray 61 (0, 0))) (hd : w.ownsRow 0 41 1 dv n xs) (ho : (row 4 1 ov ons.length (bl ons)).ok w) (hk : k < n) (hk2 : k < ons.length) (hoff : ons[k] = false) :
    Calls Tryz.prog 6 #[.pointer (some ⟨WB, 0, none⟩), opV 1 k 0] w fun e w' => e = .returned (.int .i64 14) ∧ Only w w' [] := by
  have ho' : w.ownsRow 0 4 1 ov ons.length (bl ons) := ho
  obtain ⟨ad, cd, rfl⟩ := own_slice hd
  obtain ⟨ao, co, rfl⟩ := own_slice ho'
  obtain ⟨g, rfl, _⟩ := own_some ho' (by omega)
  have c2 : ∀ w', Only w w' [] → w'.cell? ⟨WB, 2, none⟩ = _ := fun w' o => (wb_at (o.at h (by simp))).2.2.1
  have c3 : ∀ w', Only w w' [] → w'.cell? ⟨WB, 3, none⟩ = _ := fun w' o => (wb_at (o.at h (by simp))).2.2.2.1
  have ck : ∀ w', Only w w' [] → w'.cell? ⟨g, k, none⟩ = some (.bool false) := fun w' o => hoff ▸ bl_at (Res.only ho o (by simp)) hk2
  have e1 : decide ((k : Int) < 0) = false := by simp
  have e2 : decide ((n : Int) ≤ k) = false := by simpa using hk
  have e3 : (k : Int) < ons.length := by omega
  clear hoff
  simp only [opV]
  go_enter Tryz.func6, Tryz.ntmps6
  go_upto_region 15 with (refine wpList_box_new rfl 31 _ rfl (.agg #[.int .u8 1, .int .i64 k, .int .i64 0, .int .i64 0, .float .f64 0, .slice none 0 0]) rfl ?_; intro X wX oX lX bX; have d0 := cell_in bX 0; have d1 := cell_in bX 1; have c2 := c2 _ oX; have c3 := c3 _ oX; have ck := ck _ oX)
  go_quiet (fail)
  go_upto_region 17 with fail
  go_quiet (fail)
  go_wp2_with fail
  go_ret
  exact ⟨rfl, oX.trans (Only.drewN _ _ _)⟩

set_option maxRecDepth 100000 in
set_option maxHeartbeats 8000000 in
theorem do_unlink_ok {w0 : World} {rest : List Res} (WB PB TB TM AB KB SB RB BM LM NB : Nat) (v hv rv dv ov mv nw sv lv : Value) (lg : Nat) (l : List Tm) (m : Int) (hs : List Bool) (li : List Li) (bm lm : List ((Int × Int) × Value)) (logs : List Sn) (ds : List Nat) (ons : List Bool) (nM : Nat) (ms : List Value) (k D KD : Nat) (u d nx : Int) (bp lg2 ag sg kv ov2 mv3 : Value) (w : World)
    (h : Sep w0 w (primR PB TB TM v l sv m (advR AB PB KB TB hv hs (srvR SB RB BM LM rv li bm lm lv logs (blk WB (wb PB SB dv ov NB nw (.float .f64 lg) AB mv) 61 :: row 41 1 dv ds.length (dpL ds) :: row 4 1 ov ons.length (bl ons) :: row 52 9 mv nM ms :: rest))))) (hrest : ∀ w', (∀ r ∈ rest, r.ok w') → w'.heap[D]? = some (.cells (dc PB KD bp lg2).toArray 98 (0, 0)) ∧ w'.heap[KD]? = some (.cells (kc u d ag sg kv ov2 nx mv3).toArray 176 (0, 0)))
    (hli : li.length ≤ 900000) (hr : Rise li) (hI : isL li u d = true) (hnM : nM ≤ 900000) (hk : k < ds.length) (hD : ds[k] = D) (hk2 : k < ons.length) (hon : ons[k] = true) :
    Calls Tryz.prog 6 #[.pointer (some ⟨WB, 0, none⟩), opV 1 k 0] w fun e w' => e = .returned (.int .i64 0) ∧ ∃ bm' mv' ms', Sep w0 w' (primR PB TB TM v l sv m (advR AB PB KB TB hv hs (srvR SB RB BM LM rv (remL li u d) bm' lm lv logs (blk WB (wb PB SB dv ov NB nw (.float .f64 lg) AB mv') 61 :: row 41 1 dv ds.length (dpL ds) :: row 4 1 ov (ons.set k false).length (bl (ons.set k false)) :: row 52 9 mv' (nM + 1) ms' :: rest)))) := by
  have hd' := (show w.ownsRow 0 41 1 dv ds.length (dpL ds) from h.get 16 rfl)
  have ho' := (show w.ownsRow 0 4 1 ov ons.length (bl ons) from h.get 17 rfl)
  obtain ⟨ad, cd, rfl⟩ := own_slice hd'
  obtain ⟨ao, co, rfl⟩ := own_slice ho'
  obtain ⟨gd, rfl, _⟩ := own_some hd' (by omega)
  obtain ⟨go, rfl, _⟩ := own_some ho' (by omega)
  have hWB : w.heap[WB]? = _ := h.get 15 rfl
  have c2 : ∀ w', Only w w' [] → w'.cell? ⟨WB, 2, none⟩ = _ := fun w' o => (wb_at (o.at hWB (by simp))).2.2.1
  have c3 : ∀ w', Only w w' [] → w'.cell? ⟨WB, 3, none⟩ = _ := fun w' o => (wb_at (o.at hWB (by simp))).2.2.2.1
  have ck : ∀ w', Only w w' [] → w'.cell? ⟨go, k, none⟩ = some (.bool true) := fun w' o => hon ▸ bl_at ((h.quiet o).get 17 rfl) hk2
  have cd2 : ∀ w', Only w w' [] → w'.cell? ⟨gd, k, none⟩ = some (.pointer (some ⟨D, 0, none⟩)) := fun w' o => by
    have hq : w'.ownsRow 0 41 1 (.slice (some ⟨gd, 0, none⟩) ds.length cd) ds.length (dpL ds) := (h.quiet o).get 16 rfl
    rw [hq.cellAt k (by omega), dpL, List.getElem?_map, List.getElem?_eq_getElem hk, hD]
    rfl
  have e1 : decide ((k : Int) < 0) = false := by simp
  have e2 : decide ((ds.length : Int) ≤ k) = false := by simpa using hk
  have e3 : (k : Int) < ons.length := by omega
  have e4 : (k : Int) < ds.length := by omega
  have HB : Hid (setL (bl ons) k [.bool false] = bl (ons.set k false)) := by simp [Hid, setL, bl, List.map_set]
  clear hon hD hd' ho' hWB
  simp only [opV]
  go_enter Tryz.func6, Tryz.ntmps6
  go_upto_region 15 with (refine wpList_box_new rfl 31 _ rfl (.agg #[.int .u8 1, .int .i64 k, .int .i64 0, .int .i64 0, .float .f64 0, .slice none 0 0]) rfl ?_; intro X wX oX lX bX; have d0 := cell_in bX 0; have d1 := cell_in bX 1; have c2 := c2 _ oX; have c3 := c3 _ oX; have ck := ck _ oX; have cd2 := cd2 _ oX)
  have sX : Sep w0 wX (row 4 1 (.slice (some ⟨go, 0, none⟩) ons.length co) ons.length (bl ons) :: blk WB (wb PB SB (.slice (some ⟨gd, 0, none⟩) ds.length cd) (.slice (some ⟨go, 0, none⟩) ons.length co) NB nw (.float .f64 lg) AB mv) 61 :: blk X ([.int .u8 1, .int .i64 k, .int .i64 0, .int .i64 0, .float .f64 0, .slice none 0 0]) 31 :: primR PB TB TM v l sv m (advR AB PB KB TB hv hs (srvR SB RB BM LM rv li bm lm lv logs (row 41 1 (.slice (some ⟨gd, 0, none⟩) ds.length cd) ds.length (dpL ds) :: row 52 9 mv nM ms :: rest)))) := (h.add (b := blk X ([.int .u8 1, .int .i64 k, .int .i64 0, .int .i64 0, .float .f64 0, .slice none 0 0]) 31) oX bX (fun k hk => by simp [blk] at hk; omega)).sel 19 [18, 16, 0, 1, 2, 3, 4, 5, 6, 7, 8, 9, 10, 11, 12, 13, 14, 15, 17]
  go_quiet (fail)
  go_upto_region 17 with fail
  go_quiet (fail)
  go_upto_region 19 with fail
  go_quiet (fail)
  go_upto_region 22 with fail
  have sQ : ∀ n, Sep w0 (wX.drewN n).drew (row 4 1 (.slice (some ⟨go, 0, none⟩) ons.length co) ons.length (bl ons) :: blk WB (wb PB SB (.slice (some ⟨gd, 0, none⟩) ds.length cd) (.slice (some ⟨go, 0, none⟩) ons.length co) NB nw (.float .f64 lg) AB mv) 61 :: blk X ([.int .u8 1, .int .i64 k, .int .i64 0, .int .i64 0, .float .f64 0, .slice none 0 0]) 31 :: primR PB TB TM v l sv m (advR AB PB KB TB hv hs (srvR SB RB BM LM rv li bm lm lv logs (row 41 1 (.slice (some ⟨gd, 0, none⟩) ds.length cd) ds.length (dpL ds) :: row 52 9 mv nM ms :: rest)))) := fun n => (sX.quiet (Only.drewN wX n [])).quiet (Only.drew _ [])
  clear sX h c2 c3 ck cd2 d0 d1 bX
  refine wp_region_u (S := fun w' => w'.heap[WB]? = some (.cells (wb PB SB (.slice (some ⟨gd, 0, none⟩) ds.length cd) (.slice (some ⟨go, 0, none⟩) ons.length co) NB nw (.float .f64 lg) AB mv).toArray 61 (0, 0)) ∧ w'.heap[X]? = some (.cells ([.int .u8 1, .int .i64 k, .int .i64 0, .int .i64 0, .float .f64 0, .slice none 0 0] : List Value).toArray 31 (0, 0))) 7 [] (by kernel_rfl) (by kernel_rfl) ⟨(sQ _).get 1 rfl, (sQ _).get 2 rfl⟩ (fun hZ hHeld => ?_)
  refine' wpAnyU_take (i := 0) (v := _) hZ (op_at' rfl) (by kernel_rfl) (by kernel_rfl) (by kernel_rfl) (by kernel_rfl) (by kernel_rfl) (fun _ _ _ h => h) (Or.inl ⟨by rfl, ?hy1⟩) (by assumption) ?rest1
  case hy1 =>
    intro w' hS
    go_simp
    try with_reducible rfl
  try simp only [Act.put, List.setIfInBounds_toArray, List.set_cons_zero, List.set_cons_succ]
  refine' wpAnyU_take (i := 1) (v := _) hZ (op_at' rfl) (by kernel_rfl) (by kernel_rfl) (by kernel_rfl) (by kernel_rfl) (by kernel_rfl) (fun _ _ _ h => h) (Or.inl ⟨by rfl, ?hy2⟩) (by assumption) ?rest2
  case hy2 =>
    intro w' hS
    go_simp
    try with_reducible rfl
  try simp only [Act.put, List.setIfInBounds_toArray, List.set_cons_zero, List.set_cons_succ]
  refine' wpAnyU_take (i := 2) (v := _) hZ (op_at' rfl) (by kernel_rfl) (by kernel_rfl) (by kernel_rfl) (by kernel_rfl) (by kernel_rfl) (fun _ _ _ h => h) (Or.inl ⟨by rfl, ?hy3⟩) (by assumption) ?rest3
  case hy3 =>
    intro w' hS
    go_simp
    try with_reducible rfl
  try simp only [Act.put, List.setIfInBounds_toArray, List.set_cons_zero, List.set_cons_succ]
  refine' wpAnyU_take (i := 3) (v := _) hZ (op_at' rfl) (by kernel_rfl) (by kernel_rfl) (by kernel_rfl) (by kernel_rfl) (by kernel_rfl) (fun _ _ _ h => h) (Or.inl ⟨by rfl, ?hy4⟩) (by assumption) ?rest4
  case hy4 =>
    intro w' hS
    obtain ⟨c0, c1, c2, c3, c6, c7, c8⟩ := wb_at hS.1
    have d1 := cell_in hS.2 1
    go_simp
    try with_reducible rfl
  try simp only [Act.put, List.setIfInBounds_toArray, List.set_cons_zero, List.set_cons_succ]
  refine' wpAnyU_take (i := 4) (v := _) hZ (op_at' rfl) (by kernel_rfl) (by kernel_rfl) (by kernel_rfl) (by kernel_rfl) (by kernel_rfl) (fun _ _ _ h => h) (Or.inl ⟨by rfl, ?hy5⟩) (by assumption) ?rest5
  case hy5 =>
    intro w' hS
    go_simp
    try with_reducible rfl
  try simp only [Act.put, List.setIfInBounds_toArray, List.set_cons_zero, List.set_cons_succ]
  refine' wpAnyU_take (i := 5) (v := _) hZ (op_at' rfl) (by kernel_rfl) (by kernel_rfl) (by kernel_rfl) (by kernel_rfl) (by kernel_rfl) (fun _ _ _ h => h) (Or.inl ⟨by rfl, ?hy6⟩) (by assumption) ?rest6
  case hy6 =>
    intro w' hS
    obtain ⟨c0, c1, c2, c3, c6, c7, c8⟩ := wb_at hS.1
    have d1 := cell_in hS.2 1
    go_simp
    try with_reducible rfl
  try simp only [Act.put, List.setIfInBounds_toArray, List.set_cons_zero, List.set_cons_succ]
  refine' wpAnyU_take (i := 6) (v := _) hZ (op_at' rfl) (by kernel_rfl) (by kernel_rfl) (by kernel_rfl) (by kernel_rfl) (by kernel_rfl) (fun _ _ _ h => h) (Or.inl ⟨by rfl, ?hy7⟩) (by assumption) ?rest7
  case hy7 =>
    intro w' hS
    go_simp
    try with_reducible rfl
  try simp only [Act.put, List.setIfInBounds_toArray, List.set_cons_zero, List.set_cons_succ]
  refine wpAnyU_next (i := 7) (by kernel_rfl) (by simp) (op_at' rfl) (fun K hK => ?_)
  refine step_store_rec (by rfl) 4 _ _ (by rfl) go k (.bool false) [.bool false] (by rfl) 4 1 ons.length co _ (by rfl) (by rfl) (sQ _) (by simp; omega) (by kernel_rfl) (by simp [Value.oneCell']) (fun w7 o7 s7 => ?_)
  go_wp2_with fail
  refine hK.out _ _ ?_
  clear hK K
  try simp only [Act.put, List.setIfInBounds_toArray, List.set_cons_zero, List.set_cons_succ]
  refine wpAnyU_done (by kernel_rfl) ?_ _
  rw [HB.out] at s7
  have s8 : Sep w0 w7 (blk WB (wb PB SB (.slice (some ⟨gd, 0, none⟩) ds.length cd) (.slice (some ⟨go, 0, none⟩) ons.length co) NB nw (.float .f64 lg) AB mv) 61 :: row 52 9 mv nM ms :: row 4 1 (.slice (some ⟨go, 0, none⟩) ons.length co) ons.length (bl (ons.set k false)) :: blk X ([.int .u8 1, .int .i64 k, .int .i64 0, .int .i64 0, .float .f64 0, .slice none 0 0]) 31 :: primR PB TB TM v l sv m (advR AB PB KB TB hv hs (srvR SB RB BM LM rv li bm lm lv logs (row 41 1 (.slice (some ⟨gd, 0, none⟩) ds.length cd) ds.length (dpL ds) :: rest)))) := s7.sel 20 [1, 19, 0, 2, 3, 4, 5, 6, 7, 8, 9, 10, 11, 12, 13, 14, 15, 16, 17, 18]
  clear s7 sQ hHeld
  go_wp2_with fail
  refine (dwho_any D PB KD u d bp lg2 ag sg kv ov2 mv3 nx _ (hrest _ (fun r hr => s8.ok r (by simp [hr]))).1 (hrest _ (fun r hr => s8.ok r (by simp [hr]))).2).mono ?_
  rintro e w9 ⟨rfl, o9⟩
  have s9 := s8.quiet o9
  clear s8 o9
  simp only [wv]
  go_wp2_with fail
  refine (mark_any WB PB SB NB AB _ _ nw (.float .f64 lg) mv nM ms [.int .u8 1, .int .i64 u, .int .i64 d, .int .i64 0, .int .i64 0, .int .u32 0, .int .i64 0, .slice none 0 0, .int .i64 0] _ s9 (by omega) rfl (by simp [Value.oneCell'])).mono ?_
  rintro e w10 ⟨rfl, mv2, s10⟩
  clear s9
  go_upto_region 24 with fail
  have sM := s10.quiet (Only.drew w10 [])
  clear s10
  refine wp_region_u (S := fun w' => w'.heap[WB]? = some (.cells (wb PB SB (.slice (some ⟨gd, 0, none⟩) ds.length cd) (.slice (some ⟨go, 0, none⟩) ons.length co) NB nw (.float .f64 lg) AB mv2).toArray 61 (0, 0))) 6 [] (by kernel_rfl) (by kernel_rfl) (sM.get 0 rfl) (fun hZ hHeld => ?_)
  refine' wpAnyU_take (i := 0) (v := _) hZ (op_at' rfl) (by kernel_rfl) (by kernel_rfl) (by kernel_rfl) (by kernel_rfl) (by kernel_rfl) (fun _ _ _ h => h) (Or.inl ⟨by rfl, ?hy8⟩) (by assumption) ?rest8
  case hy8 =>
    intro w' hS
    go_simp
    try with_reducible rfl
  try simp only [Act.put, List.setIfInBounds_toArray, List.set_cons_zero, List.set_cons_succ]
  refine' wpAnyU_take (i := 1) (v := _) hZ (op_at' rfl) (by kernel_rfl) (by kernel_rfl) (by kernel_rfl) (by kernel_rfl) (by kernel_rfl) (fun _ _ _ h => h) (Or.inl ⟨by rfl, ?hy9⟩) (by assumption) ?rest9
  case hy9 =>
    intro w' hS
    go_simp
    try with_reducible rfl
  try simp only [Act.put, List.setIfInBounds_toArray, List.set_cons_zero, List.set_cons_succ]
  refine' wpAnyU_take (i := 2) (v := _) hZ (op_at' rfl) (by kernel_rfl) (by kernel_rfl) (by kernel_rfl) (by kernel_rfl) (by kernel_rfl) (fun _ _ _ h => h) (Or.inl ⟨by rfl, ?hy10⟩) (by assumption) ?rest10
  case hy10 =>
    intro w' hS
    go_simp
    try with_reducible rfl
  try simp only [Act.put, List.setIfInBounds_toArray, List.set_cons_zero, List.set_cons_succ]
  refine' wpAnyU_take (i := 3) (v := _) hZ (op_at' rfl) (by kernel_rfl) (by kernel_rfl) (by kernel_rfl) (by kernel_rfl) (by kernel_rfl) (fun _ _ _ h => h) (Or.inl ⟨by rfl, ?hy11⟩) (by assumption) ?rest11
  case hy11 =>
    intro w' hS
    obtain ⟨c0, c1, c2, c3, c6, c7, c8⟩ := wb_at hS
    go_simp
    try with_reducible rfl
  try simp only [Act.put, List.setIfInBounds_toArray, List.set_cons_zero, List.set_cons_succ]
  refine' wpAnyU_take (i := 4) (v := _) hZ (op_at' rfl) (by kernel_rfl) (by kernel_rfl) (by kernel_rfl) (by kernel_rfl) (by kernel_rfl) (fun _ _ _ h => h) (Or.inl ⟨by rfl, ?hy12⟩) (by assumption) ?rest12
  case hy12 =>
    intro w' hS
    go_simp
    try with_reducible rfl
  try simp only [Act.put, List.setIfInBounds_toArray, List.set_cons_zero, List.set_cons_succ]
  refine wpAnyU_one (i := 5) (by kernel_rfl) (op_at' rfl) (fun K hK => ?_)
  go_simp
  refine (dwho_any D PB KD u d bp lg2 ag sg kv ov2 mv3 nx _ (hrest _ (fun r hr => sM.ok r (by simp [hr]))).1 (hrest _ (fun r hr => sM.ok r (by simp [hr]))).2).mono ?_
  rintro e w5 ⟨rfl, o5⟩
  have s5 := sM.quiet o5
  go_wp2_with fail
  refine hK.out _ _ (s5.get 0 rfl) (fun hHeld => ?_)
  clear hK K
  try simp only [Act.put, List.setIfInBounds_toArray, List.set_cons_zero, List.set_cons_succ]
  refine wpAnyU_next (i := 6) (by kernel_rfl) (by simp) (op_at' rfl) (fun K hK => ?_)
  go_simp
  have s5b := s5.sel 20 [12, 13, 14, 15, 16, 17, 18, 0, 1, 2, 3, 4, 5, 6, 7, 8, 9, 10, 11, 19]
  refine (unlink_ok SB RB BM LM rv li bm lm lv logs u d _ s5b (by omega) hr hI).mono ?_
  rintro e w6 ⟨rfl, bm2, s6⟩
  go_wp2_with fail
  refine hK.out _ _ ?_
  clear hK K
  try simp only [Act.put, List.setIfInBounds_toArray, List.set_cons_zero, List.set_cons_succ]
  refine wpAnyU_next (i := 7) (by kernel_rfl) (by simp) (op_at' rfl) (fun K hK => ?_)
  go_simp
  go_wp2_with fail
  refine hK.out _ _ ?_
  clear hK K
  try simp only [Act.put, List.setIfInBounds_toArray, List.set_cons_zero, List.set_cons_succ]
  refine wpAnyU_done (by kernel_rfl) ?_ _
  go_wp2_with fail
  go_ret
  refine ⟨rfl, bm2, mv2, ms ++ [.int .u8 1, .int .i64 u, .int .i64 d, .int .i64 0, .int .i64 0, .int .u32 0, .int .i64 0, .slice none 0 0, .int .i64 0], ?_⟩
  rw [List.length_set]
  exact s6.sel 20 [11, 12, 13, 14, 15, 16, 17, 18, 0, 1, 2, 3, 4, 5, 6, 7, 19, 9, 8]
end Go.Proofs.YtmmhbehlpppdiaaGreatDoor.Wl
namespace Go.Proofs.YtmmhbehlpppdiaaGreatDoor.Wl
open Go.RowKit Go.Pw
def WPlayP (w : World) (e : Ending) (w' : World) : Prop := ∃ (WB PB TB TM AB KB SB RB BM LM NB : Nat) (sv : Value), e = .returned (.pointer (some ⟨WB, 0, none⟩)) ∧
  Sep w w' (primR PB TB TM nl [] sv 0 (advR AB PB KB TB nl [] (srvR SB RB BM LM nl [] [] [] nl [] [blk WB (wb PB SB nl nl NB (.float .f64 0) (.float .f64 4626322717216342016) AB nl) 61])))
set_option maxRecDepth 100000 in
set_option maxHeartbeats 1600000 in
theorem play_nil (w : World) : Calls Tryz.prog 5 #[.int .u8 1, .slice none 0 0] w (WPlayP w) := by
  go_enter Tryz.func5, Tryz.ntmps5
  go_wp2_with (refine wpList_convert_k rfl _ 22 5 rfl rfl (by simp) Tryz.underlying22 Tryz.underlying5 ?_)
  have hsrc := src_litF w [.int .u8 119, .int .u8 111, .int .u8 114, .int .u8 108, .int .u8 100] 5 (5, 6) 5 1 rfl
  have oC := Only.alloc w (.cells #[.int .u8 119, .int .u8 111, .int .u8 114, .int .u8 108, .int .u8 100] 5 (5, 6)) []
  generalize w.alloc (.cells #[.int .u8 119, .int .u8 111, .int .u8 114, .int .u8 108, .int .u8 100] 5 (5, 6)) = wC at *
  refine (wnew_any (.slice (some ⟨w.heap.size, 0, none⟩) 5 5) [119, 111, 114, 108, 100] 4626322717216342016 wC hsrc (by decide)).mono ?_
  rintro e w1 ⟨WB, PB, TB, TM, AB, KB, SB, RB, BM, LM, NB, sv, rfl, s1⟩
  have s2 : Sep w w1 (primR PB TB TM nl [] sv 0 (advR AB PB KB TB nl [] (srvR SB RB BM LM nl [] [] [] nl [] [blk WB (wb PB SB nl nl NB (.float .f64 0) (.float .f64 4626322717216342016) AB nl) 61]))) := ((Sep.nil w).quiet oC).more s1
  clear s1 oC hsrc
  go_wp2_with fail
  go_loopw [7] (fun i wr => i = .int .i64 0 ∧ wr = w1) (fun _ _ => 0)
  case atStart => exact ⟨rfl, rfl⟩
  case round =>
    obtain ⟨rfl, rfl⟩ := hrel
    go_wp2_with fail
    go_ret
    exact ⟨WB, PB, TB, TM, AB, KB, SB, RB, BM, LM, NB, sv, rfl, s2⟩
end Go.Proofs.YtmmhbehlpppdiaaGreatDoor.Wl
namespace Go.Proofs.YtmmhbehlpppdiaaGreatDoor
open Go.RowKit Go.Pw

theorem cmpW_zero (u d u' d' : Int) : (cmpW u d u' d' = 0) ↔ (u = u' ∧ d = d') := by
  simp only [cmpW, orL, cmpI]
  repeat' split
  all_goals simp_all
  all_goals omega

def Strict (l : List Li) : Prop := ∀ (i j : Nat) (hi : i < j) (hj : j < l.length), cmpW (l[i]'(by omega)).u (l[i]'(by omega)).d l[j].u l[j].d < 0
theorem Strict.rise {l : List Li} (h : Strict l) : Rise l := fun u d i j hi hj hlt => by
  have := h i j hi hj
  rw [cmpW_neg] at *
  omega
theorem strict_nil : Strict [] := fun i j hi hj => by simp at hj
theorem place_self {l : List Li} (h : Strict l) {i : Nat} (hi : i < l.length) : placeL l l[i].u l[i].d = i := by
  show List.findIdx _ _ = _
  rw [List.findIdx_eq hi]
  refine ⟨by simp [cmpW_self], fun j hj => ?_⟩
  have := h j i hj hi
  simp only [decide_eq_false_iff_not]
  omega
theorem found_self {l : List Li} (h : Strict l) {i : Nat} (hi : i < l.length) : foundL l l[i].u l[i].d = true := by
  unfold foundL
  rw [place_self h hi, List.getElem?_eq_getElem hi]
  simp [cmpW_self]
theorem isL_self {l : List Li} (h : Strict l) {i : Nat} (hi : i < l.length) : isL l l[i].u l[i].d = l[i].on := by
  unfold isL
  rw [found_self h hi, place_self h hi, List.getElem?_eq_getElem hi]
  rfl
theorem found_key {l : List Li} {u d : Int} (h : foundL l u d = true) : ∃ x ∈ l, x.u = u ∧ x.d = d := by
  obtain ⟨hk, h0⟩ := found_at h
  exact ⟨_, List.getElem_mem hk, (cmpW_zero _ _ _ _).1 h0⟩
theorem not_found {l : List Li} {u d : Int} (h : ∀ x ∈ l, ¬ (x.u = u ∧ x.d = d)) : foundL l u d = false := by
  cases hf : foundL l u d with
  | false => rfl
  | true =>
    obtain ⟨x, hx, hk⟩ := found_key hf
    exact absurd hk (h x hx)

def key (x : Li) : Int × Int := (x.u, x.d)
theorem cntL_eq (l : List Li) (user : Int) : cntL l user = (l.filter fun x => x.u == user).length := by
  show ((l.map key).filter _).length = _
  rw [List.filter_map, List.length_map]
  rfl

theorem strict_set {l : List Li} (h : Strict l) {k : Nat} (hk : k < l.length) {x : Li} (hu : x.u = l[k].u) (hd : x.d = l[k].d) : Strict (l.set k x) := fun i j hi hj => by
  rw [List.length_set] at hj
  have h0 := h i j hi hj
  rw [List.getElem_set, List.getElem_set]
  split
  · rename_i e
    subst e
    rw [if_neg (by omega), hu, hd]
    exact h0
  · split
    · rename_i e
      subst e
      rw [hu, hd]
      exact h0
    · exact h0
theorem strict_ins {l : List Li} (h : Strict l) {x : Li} (hn : ∀ y ∈ l, ¬ (y.u = x.u ∧ y.d = x.d)) : Strict (insL l x) := fun i j hi hj => by
  have hr := h.rise
  have hi' : i < (insL l x).length := by omega
  rcases insL_at l x j hj with ⟨h1, hj1, e1⟩ | ⟨h1, e1⟩ | ⟨h1, hj1, e1⟩
  · rcases insL_at l x i hi' with ⟨h2, hi2, e2⟩ | ⟨h2, e2⟩ | ⟨h2, hi2, e2⟩
    · rw [e1, e2]; exact h i j hi hj1
    · omega
    · omega
  · rcases insL_at l x i hi' with ⟨h2, hi2, e2⟩ | ⟨h2, e2⟩ | ⟨h2, hi2, e2⟩
    · rw [e1, e2]
      obtain ⟨_, h3⟩ := place_lt h2
      exact h3
    · omega
    · omega
  · rcases insL_at l x i hi' with ⟨h2, hi2, e2⟩ | ⟨h2, e2⟩ | ⟨h2, hi2, e2⟩
    · rw [e1, e2]; exact h i (j - 1) (by omega) hj1
    · rw [e1, e2]
      have h3 := place_ge hr (u := x.u) (d := x.d) (i := j - 1) (by omega) hj1
      have h4 := hn l[j - 1] (List.getElem_mem hj1)
      rw [cmpW_neg] at *
      omega
    · rw [e1, e2]; exact h (i - 1) (j - 1) (by omega) hj1
theorem insL_set (l : List Li) (x x' : Li) : (insL l x).set (placeL l x.u x.d) x' = l.take (placeL l x.u x.d) ++ x' :: l.drop (placeL l x.u x.d) := by
  have hp := place_le l x.u x.d
  have htl : (l.take (placeL l x.u x.d)).length = placeL l x.u x.d := by rw [List.length_take]; omega
  unfold insL
  rw [List.set_append_right _ _ (by omega), htl, Nat.sub_self, List.set_cons_zero]
theorem filter_put (p : Li → Bool) (l : List Li) (k : Nat) (x : Li) : ((l.take k ++ x :: l.drop k).filter p).length = (l.filter p).length + (if p x = true then 1 else 0) := by
  conv => rhs; rw [← List.take_append_drop k l]
  rw [List.filter_append, List.filter_append, List.length_append, List.length_append, List.filter_cons]
  split <;> simp <;> omega
theorem filter_set (p : Li → Bool) {l : List Li} {k : Nat} (hk : k < l.length) (x : Li) : ((l.set k x).filter p).length + (if p l[k] = true then 1 else 0) = (l.filter p).length + (if p x = true then 1 else 0) := by
  have e : l = l.take k ++ l[k] :: l.drop (k + 1) := by
    conv => lhs; rw [← List.take_append_drop k l, List.drop_eq_getElem_cons hk]
  have e2 : l.set k x = l.take k ++ x :: l.drop (k + 1) := by rw [List.set_eq_take_append_cons_drop, if_pos hk]
  rw [e2]
  conv => rhs; rw [e]
  simp only [List.filter_append, List.length_append, List.filter_cons]
  split <;> split <;> simp <;> omega
theorem mem_put {l : List Li} {k : Nat} {x y : Li} : y ∈ l.take k ++ x :: l.drop k ↔ y = x ∨ y ∈ l := by
  conv => rhs; rw [← List.take_append_drop k l]
  simp only [List.mem_append, List.mem_cons]
  constructor
  · rintro (h | h | h)
    · exact .inr (.inl h)
    · exact .inl h
    · exact .inr (.inr h)
  · rintro (h | h | h)
    · exact .inr (.inl h)
    · exact .inl h
    · exact .inr (.inr h)
end Go.Proofs.YtmmhbehlpppdiaaGreatDoor
