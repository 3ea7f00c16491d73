/- WorldLinks, by hand: Dv1, InsL, Rg8, Rg9, RgAu, Sv1, Sv2, Wl1, Wl2. -/
import Derived.Test.YtmmhbehlpppdiaaGreatDoorQ6
import Derived.Test.YtmmhbehlpppdiaaGreatDoorQ0
import Derived.Test.YtmmhbehlpppdiaaGreatDoorProg
import Derived.Lib.SmallJoins
import Derived.Test.YtmmhbehlpppdiaaGreatDoorQ5
import Derived.Test.YtmmhbehlpppdiaaGreatDoorQ3
set_option linter.all false
namespace Go.Proofs.YtmmhbehlpppdiaaGreatDoor.Wl
open Go.RowKit Go.Pw

abbrev dc (PB KB : Nat) (bp lg : Value) : List Value := [.pointer (some ⟨PB, 0, none⟩), .pointer (some ⟨KB, 0, none⟩), bp, lg, .int .u32 0, .pointer none, .int .u64 0, .slice none 0 0]
theorem dc_at {w : World} {DB PB KB : Nat} {bp lg : Value} (h : w.heap[DB]? = some (.cells (dc PB KB bp lg).toArray 98 (0, 0))) : w.cell? ⟨DB, 0, none⟩ = some (.pointer (some ⟨PB, 0, none⟩)) ∧ w.cell? ⟨DB, 1, none⟩ = some (.pointer (some ⟨KB, 0, none⟩)) := ⟨cell_in h 0, cell_in h 1⟩
theorem rnew_any (w : World) : Calls Tryz.prog 84 #[] w fun e w' => (∃ X, e = .returned (.pointer (some ⟨X, 0, none⟩))) ∧ Only w w' [] := by
  go_enter Tryz.func84, Tryz.ntmps84
  go_wp2_with fail
  go_ret
  exact ⟨⟨_, rfl⟩, Only.alloc _ _ _⟩
abbrev devR (DB PB KB : Nat) (u d : Int) (bp lg ag sg : Value) (Y c : Nat) (se si ov : Value) (os : List Pa) (rs : List Res) : List Res :=
  keyR KB u d ag sg Y c se si ov os (blk DB (dc PB KB bp lg) 98 :: rs)
def NewDP (w0 : World) (PB TB TM : Nat) (k : Nat) (m : Int) (sv : Value) (u d : Int) (lg : Value) (rs : List Res) (e : Ending) (w' : World) : Prop :=
  ∃ (DB KB Y c : Nat) (bp ag sg se si ov v' : Value) (os : List Pa) (l' : List Tm) (m' : Int), e = .returned (.pointer (some ⟨DB, 0, none⟩)) ∧ os.length = 4 ∧ k ≤ l'.length ∧ l'.length ≤ k + 11 ∧ m ≤ m' ∧ m' ≤ m + 7 ∧
    Sep w0 w' (primR PB TB TM v' l' sv m' (devR DB PB KB u d bp lg ag sg Y c se si ov os rs))
set_option maxRecDepth 100000 in
set_option maxHeartbeats 4000000 in
theorem dnew_any {w0 : World} {rs : List Res} (PB TB TM : Nat) (v : Value) (l : List Tm) (sv : Value) (m : Int) (u d : Int) (lg : Nat) (w : World) (h : Sep w0 w (primR PB TB TM v l sv m rs)) (hI : ItoaOK w0) (hl : l.length ≤ 600000) (hm : 0 ≤ m ∧ m ≤ 800000) :
    Calls Tryz.prog 43 #[.pointer (some ⟨PB, 0, none⟩), wv u d, .float .f64 lg] w (NewDP w0 PB TB TM l.length m sv u d (.float .f64 lg) rs) := by
  simp only [wv]
  go_enter Tryz.func43, Tryz.ntmps43
  go_wp2_with (first
    | (refine wpList_box_new rfl 40 _ rfl (.agg #[.int .i64 u, .int .i64 d]) rfl ?_; intro WB wX oX lX bX)
    | (refine wpList_load_blk rfl 40 _ rfl WB rfl [.int .i64 u, .int .i64 d] _ bX Tryz.underlying40 (by rfl) (by kernel_rfl) ?_))
  refine (newk_any PB TB TM v l sv m u d wX (h.quiet oX) hI hl hm).mono ?_
  rintro e w2 ⟨KB, Y, c, ag, sg, se, si, ov, v2, os, l2, m2, rfl, ho, a2, b2, c2, d2, s2⟩
  go_wp2_with fail
  refine (rnew_any _).mono ?_
  rintro e w3 ⟨⟨RB, rfl⟩, o3⟩
  have s3 := s2.quiet o3
  clear s2 h bX oX
  go_wp2_with (refine wpList_box_new rfl 98 _ rfl (.agg (dc PB KB (.pointer (some ⟨RB, 0, none⟩)) (.float .f64 lg)).toArray) rfl ?_; intro DB wD oD lD bD)
  have s4 : Sep w0 wD (blk DB (dc PB KB (.pointer (some ⟨RB, 0, none⟩)) (.float .f64 lg)) 98 :: primR PB TB TM v2 l2 sv m2 (keyR KB u d ag sg Y c se si ov os rs)) := s3.add oD bD (fun k hk => by simp [blk] at hk; omega)
  go_ret
  exact ⟨DB, KB, Y, c, _, ag, sg, se, si, ov, v2, os, l2, m2, rfl, ho, a2, b2, c2, d2, s4.sel 14 [1, 2, 3, 4, 5, 6, 7, 8, 9, 10, 11, 12, 13, 0]⟩

set_option maxRecDepth 100000 in
set_option maxHeartbeats 4000000 in
theorem dbundles_any {w0 : World} {rs : List Res} (DB PB TB TM KB : Nat) (v : Value) (l : List Tm) (sv : Value) (m : Int) (u d : Int) (bp lg ag sg : Value) (Y c : Nat) (se si ov : Value) (os : List Pa) (w : World) (h : Sep w0 w (primR PB TB TM v l sv m (devR DB PB KB u d bp lg ag sg Y c se si ov os rs))) (hI : ItoaOK w0) (hl : l.length ≤ 600000) (ho4 : os.length = 4) :
    Calls Tryz.prog 45 #[.pointer (some ⟨DB, 0, none⟩)] w (BundP w0 PB TB TM KB l.length m sv u d ag sg Y c se si ov os (blk DB (dc PB KB bp lg) 98 :: rs)) := by
  go_enter Tryz.func45, Tryz.ntmps45
  go_upto_region 3 with fail
  have sR := h.quiet (Only.drew w [])
  clear h
  refine wp_region_u (S := fun w' => w'.heap[DB]? = some (.cells (dc PB KB bp lg).toArray 98 (0, 0))) 8 [] (by kernel_rfl) (by kernel_rfl) (sR.get 13 rfl) (fun hZ hHeld => ?_)
  refine' wpAnyU_take (i := 0) (v := _) hZ (op_at' rfl) (by kernel_rfl) (by kernel_rfl) (by kernel_rfl) (by kernel_rfl) (by kernel_rfl) (fun _ _ _ h => h) (Or.inl ⟨by rfl, ?hy1⟩) (by assumption) ?rest1
  case hy1 =>
    intro w' hS
    go_simp
    try with_reducible rfl
  try simp only [Act.put, List.setIfInBounds_toArray, List.set_cons_zero, List.set_cons_succ]
  refine' wpAnyU_take (i := 1) (v := _) hZ (op_at' rfl) (by kernel_rfl) (by kernel_rfl) (by kernel_rfl) (by kernel_rfl) (by kernel_rfl) (fun _ _ _ h => h) (Or.inl ⟨by rfl, ?hy2⟩) (by assumption) ?rest2
  case hy2 =>
    intro w' hS
    go_simp
    try with_reducible rfl
  try simp only [Act.put, List.setIfInBounds_toArray, List.set_cons_zero, List.set_cons_succ]
  refine' wpAnyU_take (i := 2) (v := _) hZ (op_at' rfl) (by kernel_rfl) (by kernel_rfl) (by kernel_rfl) (by kernel_rfl) (by kernel_rfl) (fun _ _ _ h => h) (Or.inl ⟨by rfl, ?hy3⟩) (by assumption) ?rest3
  case hy3 =>
    intro w' hS
    go_simp
    try with_reducible rfl
  try simp only [Act.put, List.setIfInBounds_toArray, List.set_cons_zero, List.set_cons_succ]
  refine' wpAnyU_take (i := 3) (v := _) hZ (op_at' rfl) (by kernel_rfl) (by kernel_rfl) (by kernel_rfl) (by kernel_rfl) (by kernel_rfl) (fun _ _ _ h => h) (Or.inl ⟨by rfl, ?hy4⟩) (by assumption) ?rest4
  case hy4 =>
    intro w' hS
    obtain ⟨c0, c1⟩ := dc_at hS
    go_simp
    try with_reducible rfl
  try simp only [Act.put, List.setIfInBounds_toArray, List.set_cons_zero, List.set_cons_succ]
  refine' wpAnyU_take (i := 4) (v := _) hZ (op_at' rfl) (by kernel_rfl) (by kernel_rfl) (by kernel_rfl) (by kernel_rfl) (by kernel_rfl) (fun _ _ _ h => h) (Or.inl ⟨by rfl, ?hy5⟩) (by assumption) ?rest5
  case hy5 =>
    intro w' hS
    go_simp
    try with_reducible rfl
  try simp only [Act.put, List.setIfInBounds_toArray, List.set_cons_zero, List.set_cons_succ]
  refine' wpAnyU_take (i := 5) (v := _) hZ (op_at' rfl) (by kernel_rfl) (by kernel_rfl) (by kernel_rfl) (by kernel_rfl) (by kernel_rfl) (fun _ _ _ h => h) (Or.inl ⟨by rfl, ?hy6⟩) (by assumption) ?rest6
  case hy6 =>
    intro w' hS
    go_simp
    try with_reducible rfl
  try simp only [Act.put, List.setIfInBounds_toArray, List.set_cons_zero, List.set_cons_succ]
  refine' wpAnyU_take (i := 6) (v := _) hZ (op_at' rfl) (by kernel_rfl) (by kernel_rfl) (by kernel_rfl) (by kernel_rfl) (by kernel_rfl) (fun _ _ _ h => h) (Or.inl ⟨by rfl, ?hy7⟩) (by assumption) ?rest7
  case hy7 =>
    intro w' hS
    go_simp
    try with_reducible rfl
  try simp only [Act.put, List.setIfInBounds_toArray, List.set_cons_zero, List.set_cons_succ]
  refine' wpAnyU_take (i := 7) (v := _) hZ (op_at' rfl) (by kernel_rfl) (by kernel_rfl) (by kernel_rfl) (by kernel_rfl) (by kernel_rfl) (fun _ _ _ h => h) (Or.inl ⟨by rfl, ?hy8⟩) (by assumption) ?rest8
  case hy8 =>
    intro w' hS
    obtain ⟨c0, c1⟩ := dc_at hS
    go_simp
    try with_reducible rfl
  try simp only [Act.put, List.setIfInBounds_toArray, List.set_cons_zero, List.set_cons_succ]
  refine wpAnyU_next (i := 8) (by kernel_rfl) (by simp) (op_at' rfl) (fun K hK => ?_)
  go_simp
  refine (kbundles_any PB TB TM KB v l sv m u d ag sg Y c se si ov os _ sR hI hl ho4).mono ?_
  rintro e w8 ⟨Rs, bv, bs, v8, l8, m8, rfl, h1, h2, h3, h4, h5, h6, h7, s8⟩
  go_wp2_with fail
  refine hK.out _ _ ?_
  clear hK K
  try simp only [Act.put, List.setIfInBounds_toArray, List.set_cons_zero, List.set_cons_succ]
  refine wpAnyU_next (i := 9) (by kernel_rfl) (by simp) (op_at' rfl) (fun K hK => ?_)
  go_simp
  go_wp2_with fail
  refine hK.out _ _ ?_
  clear hK K
  try simp only [Act.put, List.setIfInBounds_toArray, List.set_cons_zero, List.set_cons_succ]
  refine wpAnyU_done (by kernel_rfl) ?_ _
  go_wp2_with fail
  go_ret
  exact ⟨Rs, bv, bs, v8, l8, m8, rfl, h1, h2, h3, h4, h5, h6, h7, s8⟩

set_option maxRecDepth 100000 in
theorem dwho_any (DB PB KB : Nat) (u d : Int) (bp lg ag sg kv ov mv : Value) (nx : Int) (w : World) (h1 : w.heap[DB]? = some (.cells (dc PB KB bp lg).toArray 98 (0, 0))) (h2 : w.heap[KB]? = some (.cells (kc u d ag sg kv ov nx mv).toArray 176 (0, 0))) :
    Calls Tryz.prog 13 #[.pointer (some ⟨DB, 0, none⟩)] w fun e w' => e = .returned (wv u d) ∧ Only w w' [] := by
  have c1 : ∀ w', Only w w' [] → w'.cell? ⟨DB, 1, none⟩ = some (.pointer (some ⟨KB, 0, none⟩)) := fun w' o => (dc_at (o.at h1 (by simp))).2
  go_enter Tryz.func13, Tryz.ntmps13
  go_wp2_with (refine wpList_alloc_new rfl 40 rfl (.agg #[.int .i64 0, .int .i64 0]) (fun _ => by kernel_rfl) ?_; intro X wX oX lX bX; have c1 := c1 _ oX)
  refine (kwho_any KB u d ag sg kv ov mv nx _ (oX.at h2 (by simp))).mono ?_
  rintro e w2 ⟨rfl, o2⟩
  have bX := o2.at bX (by simp)
  simp only [wv]
  go_wp2_with (refine wpList_store_blk rfl 40 _ _ rfl X [.int .i64 u, .int .i64 d] rfl rfl bX rfl (by kernel_rfl) (by simp [Value.oneCell']) ?_; intro wY oY bY)
  have d0 := cell_two0 bY
  have d1 := cell_two1 bY
  refine bodyPost_ret (v := wv u d) (by simp [results, Tryz.results13, go_sem, d0, d1, wv]) rfl ?_
  exact ⟨rfl, (oX.trans o2).new oY (fun k hk => by simp only [List.mem_singleton] at hk; omega)⟩
end Go.Proofs.YtmmhbehlpppdiaaGreatDoor.Wl
namespace Go.Proofs.YtmmhbehlpppdiaaGreatDoor
open Go.RowKit Go.Pw

theorem insl_info : (Tryz.prog.info? 90).map (fun i => (i.zero, i.size, i.bytes)) = some (some (.agg #[.int .i64 0, .int .i64 0, .bool false, .int .i64 0, .int .i64 0, .slice none 0 0, .slice none 0 0, .int .u32 0, .slice none 0 0, .slice none 0 0, .bool false, .int .u32 0, .slice none 0 0, .slice none 0 0]), 14, 200) := by kernel_rfl
theorem insl_size : (Tryz.prog.info? 90).map (·.size) = some 14 := by
  obtain ⟨i0, hi, hz0, hz1, hz2⟩ := info_parts insl_info
  rw [hi]; simp [hz1]

set_option maxHeartbeats 4000000 in
set_option maxRecDepth 100000 in
theorem insl_end {w0 : World} {rs : List Res} (v : Value) (n : Nat) (xs vs : List Value) (vb : Nat) (w : World) (h : Sep w0 w (row 90 14 v n xs :: rs)) (hn : n ≤ 1000000)
    (hvl : vs.length = 14) (hvs : ∀ j u, vs[j]? = some u → w.cell? ⟨vb, j, none⟩ = some u) (h1v : ∀ u ∈ vs, u.oneCell' = true) :
    Calls Tryz.prog 134 #[v, .int .i64 n, .slice (some ⟨vb, 0, none⟩) 1 1] w fun e w' => ∃ v', e = .returned v' ∧ Only w w' (Value.ownBlock v).toList ∧ Sep w0 w' (row 90 14 v' (n + 1) (xs ++ vs) :: rs) := by
  obtain ⟨i0, hi, hz0, hz1, hz2⟩ := info_parts insl_info
  have hsrc : Pw.Src w (.slice (some ⟨vb, 0, none⟩) 1 1) 14 1 vs := ⟨_, _, rfl, Nat.le_refl _, by decide, by rw [hvl], by simp, fun b hb j u hj => by
    obtain rfl : b = ⟨vb, 0, none⟩ := by simpa using hb.symm
    rw [Addr.add_lit, Nat.zero_add]; exact hvs j u hj⟩
  obtain ⟨ao, c, rfl⟩ := own_slice (show w.ownsRow 0 _ 14 v n xs from h.head)
  have hr := run_append_src w 91 91 90 i0 _ 14 200 Tryz.underlying91 hi hz0 hz1 hz2 rfl (by decide) _ n xs h.head _ 1 vs hsrc h1v (by unfold maxLen; omega) (by omega)
  obtain ⟨v', w', hrun, g1, g2, g3⟩ := hr
  have s2 := h.app g1 g2 g3
  have oE : Only w w' (Value.ownBlock (.slice ao n c)).toList := Only.grown g2 (fun k hk => by simp [hk])
  rcases (show w.ownsRow 0 _ 14 (.slice ao n c) n xs from h.head).2 with ⟨he, hx⟩ | ⟨g, cap, cur, he, hb, hg, hnc, hcm, hcs, htake⟩
  · simp only [Value.slice.injEq] at he
    obtain ⟨rfl, rfl, rfl⟩ := he
    clear h g1 g2 g3 hsrc
    go_enter Tryz.func134, Tryz.ntmps134
    go_wp2_with (at_builtin; refine wpList_append_run rfl _ _ _ rfl _ _ rfl rfl hrun ?_)
    go_ret
    exact ⟨_, rfl, oE, s2⟩
  · simp only [Value.slice.injEq, true_and] at he
    obtain ⟨rfl, rfl⟩ := he
    clear h g1 g2 g3 hsrc
    go_enter Tryz.func134, Tryz.ntmps134
    go_wp2_with (at_builtin; refine wpList_append_run rfl _ _ _ rfl _ _ rfl rfl hrun ?_)
    all_goals (go_ret; exact ⟨_, rfl, oE, s2⟩)

set_option maxHeartbeats 4000000 in
set_option maxRecDepth 100000 in
theorem insl_shift {w0 : World} {rs : List Res} (g c n i : Nat) (xs vs : List Value) (vb : Nat) (w : World) (h : Sep w0 w (row 90 14 (.slice (some ⟨g, 0, none⟩) n c) n xs :: rs)) (hn : n ≤ 1000000) (hi : i < n) (hroom : n + 1 ≤ c)
    (hvl : vs.length = 14) (hvb : w.heap[vb]? = some (.cells vs.toArray 90 (0, 0))) (hne : vb ≠ g) (h1c : ∀ u ∈ xs, u.oneCell' = true) (h1v : ∀ u ∈ vs, u.oneCell' = true) :
    Calls Tryz.prog 134 #[.slice (some ⟨g, 0, none⟩) n c, .int .i64 i, .slice (some ⟨vb, 0, none⟩) 1 1] w fun e w' => ∃ v', e = .returned v' ∧ Only w w' (Value.ownBlock (.slice (some ⟨g, 0, none⟩) n c)).toList ∧ Sep w0 w' (row 90 14 v' (n + 1) (xs.take (i * 14) ++ vs ++ xs.drop (i * 14)) :: rs) := by
  have hown : w.ownsRow 0 90 14 (.slice (some ⟨g, 0, none⟩) n c) n xs := h.head
  have hc63 : c ≤ 9223372036854775807 := by have := (row_cap hown).2; unfold maxLen at this; omega
  obtain ⟨tB, kB, hsb, hkB⟩ := row_shape hown (by omega) (by decide)
  have hsa := cells_shape hvb
  have hxl : xs.length = n * 14 := hown.1
  obtain ⟨junk, hjl, hmore⟩ := row_more hown 1 hroom
  have hov : ∀ lb cb, (callFunc 205 #[.slice (some ⟨vb, 0, none⟩) 1 1, .slice (some ⟨g, (i + 1) * 14, none⟩) lb cb]).run Tryz.prog w = .ok (.value (.bool false)) w := fun lb cb => by
    rw [run_callFunc_extern Tryz.func205 (by kernel_rfl) (by kernel_rfl) (by kernel_rfl) (e := Extern.SlicesOverlaps.overlaps #[91, 91] #[4]) (by kernel_rfl),
      Lib.run_overlaps_apart w 91 4 90 Tryz.underlying91 14 (by intro w; simp [go_sem]) ⟨vb, 0, none⟩ ⟨g, (i + 1) * 14, none⟩ 1 1 lb cb hne _ _ _ _ hsa hsb hkB (by simp [World.frozen?, hvb]) (by simp [World.frozen?, hvb])]
    rfl
  have hdl : (xs.drop (i * 14)).length = (n - i) * 14 := by rw [List.length_drop, hxl, ← Nat.sub_mul]
  have hw1 : IntKind.i64.wrap ((i : Int) + (1 : Int)) = (i : Int) + (1 : Int) := by rw [IntKind.wrap_i64]; omega
  have hmd : w.drew.ownsRow 0 90 14 (.slice (some ⟨g, 0, none⟩) (n + 1) c) (n + 1) (xs ++ junk) := hmore
  have hcp1 : ∀ ty dc sc, (Builtin.copy_ #[91, 91] ty #[.slice (some ⟨g, (i + 1) * 14, none⟩) (n - i) dc, .slice (some ⟨g, i * 14, none⟩) (n + 1 - i) sc]).run Tryz.prog w.drew = .ok (goInt (n - i : Nat)) (w.drew.setCells g ((i + 1) * 14) (xs.drop (i * 14))) := fun ty dc sc =>
    run_copy_k w.drew _ _ ty 90 14 g _ _ dc _ _ sc (xs.drop (i * 14)) (n - i) Tryz.underlying91 insl_size (by simp only [Nat.min_def]; split <;> omega) hdl
      (fun j u hj => by
        rw [List.getElem?_drop] at hj
        have hlt := (List.getElem?_eq_some_iff.1 hj).1
        rw [Addr.add_lit, hmd.cellAt _ (by omega), List.getElem?_append_left hlt]; exact hj)
      (fun j hj => (row_there hmd _ ((n - i) * 14) (by rw [← Nat.add_mul]; exact Nat.mul_le_mul_right _ (by omega)) j (by omega)).1)
      (fun j hj => hmd.frozenAt _) (fun u hu => h1c u (List.mem_of_mem_drop hu))
  obtain ⟨W1, hW1⟩ : ∃ W1, W1 = w.drew.setCells g ((i + 1) * 14) (xs.drop (i * 14)) := ⟨_, rfl⟩
  have hr1 := row_setCells (w := w) (xs.drop (i * 14)) ((i + 1) * 14) _ _ hmd
  rw [← hW1] at hr1
  have o1 : Only w.drew W1 [g] := by rw [hW1]; exact only_setCells _ _ _
  have hcp2 : ∀ ty dc, (Builtin.copy_ #[91, 91] ty #[.slice (some ⟨g, i * 14, none⟩) (n + 1 - i) dc, .slice (some ⟨vb, 0, none⟩) 1 1]).run Tryz.prog W1 = .ok (goInt (1 : Nat)) (W1.setCells g (i * 14) vs) := fun ty dc =>
    run_copy_k W1 _ _ ty 90 14 g _ _ dc _ _ _ vs 1 Tryz.underlying91 insl_size (by simp only [Nat.min_def]; split <;> omega) hvl
      (fun j u hj => by
        have hb := o1.at (show w.drew.heap[vb]? = _ from hvb) (by simpa using hne)
        rw [Addr.add_lit, Nat.zero_add, cell_in hb]; simpa using hj)
      (fun j hj => (row_there hr1 _ 14 (by omega) j (by omega)).1)
      (fun j hj => hr1.frozenAt _) h1v
  have hr2 := row_setCells (w := w) vs (i * 14) _ _ hr1
  have hAl : (xs.take (i * 14)).length = i * 14 := by rw [List.length_take, hxl, Nat.min_eq_left (by omega)]
  have hset := (setL_ins (xs ++ junk) (xs.take (i * 14)) (xs.drop (i * 14)) vs i 14 hvl hAl (by rw [List.length_append, hxl, hjl, hdl]; omega) (by rw [List.take_append_of_le_length (by omega)])).2
  rw [hset] at hr2
  have sF : Sep w0 (W1.setCells g (i * 14) vs) (row 90 14 (.slice (some ⟨g, 0, none⟩) (n + 1) c) (n + 1) (xs.take (i * 14) ++ vs ++ xs.drop (i * 14)) :: rs) :=
    h.step (L := [g]) ((((Only.drew w [g]).trans o1)).trans (only_setCells _ _ _)) (fun k hk => .inl (by simpa [row, Value.ownBlock] using hk)) hr2 (fun k hk => .inl (by simpa [row, Value.ownBlock] using hk))
  have oE : Only w (W1.setCells g (i * 14) vs) (Value.ownBlock (.slice (some ⟨g, 0, none⟩) n c)).toList := by
    show Only w _ [g]
    exact ((Only.drew w [g]).trans o1).trans (only_setCells _ _ _)
  rw [← hW1] at hcp1
  have hz2 : ¬ ((i : Int) = (n : Int)) := by omega
  have hb1 : (0 : Int) ≤ (i : Int) + (1 : Int) := by omega
  have hin : i ≤ n := by omega
  have htn : ((i : Int) + (1 : Int)).toNat = i + 1 := by omega
  have hb2 : ¬ (c = i + 1) := by omega
  have hb3 : (i : Int) ≤ (n : Int) + (1 : Int) := by omega
  have hb4 : ¬ (c = i) := by omega
  clear h hown hmore hmd hr1 hr2 hset o1 hW1 hsb hsa
  go_enter Tryz.func134, Tryz.ntmps134
  go_wp2_with (simp only [hov])
  go_region_law (refine step_copy_k rfl _ _ 91 91 rfl _ _ (by simp [Act.eval, Act.put]) (by simp [Act.eval, Act.put]) (hcp1 _ _ _) ?_)
  go_wp2_with (at_builtin; refine wpList_copy_k _ rfl _ _ 91 91 rfl _ _ rfl rfl (hcp2 _ _) ?_)
  go_ret
  exact ⟨_, rfl, oE, sF⟩
set_option maxHeartbeats 4000000 in
set_option maxRecDepth 100000 in
theorem insl_grow {w0 : World} {rs : List Res} (g n i : Nat) (xs vs : List Value) (vb : Nat) (w : World) (h : Sep w0 w (row 90 14 (.slice (some ⟨g, 0, none⟩) n n) n xs :: rs)) (hn : n ≤ 1000000) (hi : i < n)
    (hvl : vs.length = 14) (hvb : w.heap[vb]? = some (.cells vs.toArray 90 (0, 0))) (h1c : ∀ u ∈ xs, u.oneCell' = true) (h1v : ∀ u ∈ vs, u.oneCell' = true) :
    Calls Tryz.prog 134 #[.slice (some ⟨g, 0, none⟩) n n, .int .i64 i, .slice (some ⟨vb, 0, none⟩) 1 1] w fun e w' => ∃ v', e = .returned v' ∧ Only w w' (Value.ownBlock (.slice (some ⟨g, 0, none⟩) n n)).toList ∧ Sep w0 w' (row 90 14 v' (n + 1) (xs.take (i * 14) ++ vs ++ xs.drop (i * 14)) :: rs) := by
  obtain ⟨i0, hi0, hz0, hzs, hzb⟩ := info_parts insl_info
  have hown : w.ownsRow 0 90 14 (.slice (some ⟨g, 0, none⟩) n n) n xs := h.head
  have hxl : xs.length = n * 14 := hown.1
  have hAl : (xs.take (i * 14)).length = i * 14 := by rw [List.length_take, hxl, Nat.min_eq_left (by omega)]
  have hdl : (xs.drop (i * 14)).length = (n - i) * 14 := by rw [List.length_drop, hxl, ← Nat.sub_mul]
  have hold : (Builtin.firstCells i0.size i (.slice (some ⟨g, 0, none⟩) i n)).run Tryz.prog w.drew = .ok (xs.take (i * 14)).toArray w.drew := by
    rw [hzs]
    exact run_firstCells_some w.drew 14 i ⟨g, 0, none⟩ i n (xs.take (i * 14)) hAl (fun j v hj => by
      rw [Addr.add_lit, Nat.zero_add]
      rw [List.getElem?_take] at hj
      split at hj
      · exact (hown.cellAt j (by omega)).trans hj
      · cases hj)
  have hik : i + (n + 1 - i) = n + 1 := by omega
  obtain ⟨zz, hzz⟩ : ∃ zz : Value, zz = .agg #[.int .i64 0, .int .i64 0, .bool false, .int .i64 0, .int .i64 0, .slice none 0 0, .slice none 0 0, .int .u32 0, .slice none 0 0, .slice none 0 0, .bool false, .int .u32 0, .slice none 0 0, .slice none 0 0] := ⟨_, rfl⟩
  have hzc : zz.cells.size = 14 := by rw [hzz]; rfl
  rw [← hzz] at hz0
  clear hzz
  obtain ⟨G, hG⟩ : ∃ G, G = grownCap w (n + 1) n 90 := ⟨_, rfl⟩
  have hrz : ∀ ty, (Builtin.append_ #[91, 3] ty #[.slice (some ⟨g, 0, none⟩) i n, .int .i64 ((n : Int) + 1 - (i : Int))]).run Tryz.prog w =
      .ok (.slice (some ⟨w.heap.size, 0, none⟩) (n + 1) G) (w.drew.alloc (.cells ((xs.take (i * 14)).toArray ++ Builtin.zeroCells zz.cells (n + 1 - i) ++ Builtin.zeroCells zz.cells (G - (n + 1))) 90)) := fun ty => by
    have h := Lib.run_append_grow_zeros w 91 3 ty 90 i0 _ .i64 .i64 Tryz.underlying91 Tryz.underlying3 hi0 hz0 (some ⟨g, 0, none⟩) i n (xs.take (i * 14)) hold (n + 1 - i) (by omega) (by omega) (by omega) (by omega) (by rw [hzb]; omega) (by rw [hzb, hik]; exact growslice_fits (by omega) (by omega))
    rw [hik, ← hG] at h
    rw [show (n : Int) + 1 - (i : Int) = ((n + 1 - i : Nat) : Int) by omega]
    exact h
  have hge : n + 1 ≤ G := by rw [hG]; exact grownCap_ge w _ _ _
  have hcm : G ≤ maxLen := by rw [hG]; exact grownCap_le_maxLen w _ _ _ (by unfold maxLen; omega)
  have hG63 : G ≤ 9223372036854775807 := by unfold maxLen at hcm; omega
  obtain ⟨zs, hzl, hz⟩ : ∃ zs : List Value, zs.length = (n + 1 - i) * 14 ∧ Builtin.zeroCells zz.cells (n + 1 - i) = zs.toArray := ⟨(Builtin.zeroCells zz.cells (n + 1 - i)).toList, by rw [Array.length_toList, size_zeroCells, hzc], by simp⟩
  obtain ⟨ys, hyl, hy⟩ : ∃ ys : List Value, ys.length = (G - (n + 1)) * 14 ∧ Builtin.zeroCells zz.cells (G - (n + 1)) = ys.toArray := ⟨(Builtin.zeroCells zz.cells (G - (n + 1))).toList, by rw [Array.length_toList, size_zeroCells, hzc], by simp⟩
  rw [hz, hy] at hrz
  clear hz hy hold hG hi0 hz0 hzs hzb
  obtain ⟨W1, hW1⟩ : ∃ W1, W1 = w.drew.alloc (.cells ((xs.take (i * 14)).toArray ++ zs.toArray ++ ys.toArray) 90) := ⟨_, rfl⟩
  rw [← hW1] at hrz
  have hl1 : (xs.take (i * 14) ++ zs).length = (n + 1) * 14 := by rw [List.length_append, hAl, hzl, ← Nat.add_mul, hik]
  have hr1 : W1.ownsRow 0 90 14 (.slice (some ⟨w.heap.size, 0, none⟩) (n + 1) G) (n + 1) (xs.take (i * 14) ++ zs) := by
    refine ⟨hl1, .inr ⟨w.heap.size, G, _, rfl, Nat.zero_le _, (by rw [hW1]; exact heap_alloc_new w.drew _), hge, hcm, ?_, ?_⟩⟩
    · simp only [Array.size_append, List.size_toArray]
      rw [hAl, hzl, hyl, ← Nat.add_mul, ← Nat.add_mul]
      congr 1
      omega
    · simp only [Array.toList_append]
      rw [← hl1]
      exact List.take_left
  have oA : Only w W1 [] := by rw [hW1]; exact (Only.drew w []).trans (Only.alloc w.drew _ [])
  clear hW1
  obtain ⟨N, hN⟩ : ∃ N, N = w.heap.size := ⟨_, rfl⟩
  rw [← hN] at hrz hr1
  have hvN : vb ≠ N := by have := (Array.getElem?_eq_some_iff.1 hvb).1; omega
  have hcpA : ∀ ty dc, (Builtin.copy_ #[91, 91] ty #[.slice (some ⟨N, i * 14, none⟩) (n + 1 - i) dc, .slice (some ⟨vb, 0, none⟩) 1 1]).run Tryz.prog W1 = .ok (goInt (1 : Nat)) (W1.setCells N (i * 14) vs) := fun ty dc =>
    run_copy_k W1 _ _ ty 90 14 N _ _ dc _ _ _ vs 1 Tryz.underlying91 insl_size (by simp only [Nat.min_def]; split <;> omega) hvl
      (fun j u hj => by
        have hb := oA.at hvb (by simp)
        rw [Addr.add_lit, Nat.zero_add, cell_in hb]; simpa using hj)
      (fun j hj => (row_there hr1 _ 14 (by omega) j (by omega)).1)
      (fun j hj => hr1.frozenAt _) h1v
  have hr2 := row_setCells (w := w) vs (i * 14) _ _ hr1
  obtain ⟨W2, hW2⟩ : ∃ W2, W2 = W1.setCells N (i * 14) vs := ⟨_, rfl⟩
  have o2 : Only w W2 [] := by rw [hW2]; exact oA.new (only_setCells _ _ _ : Only W1 _ [N]) (fun k hk => by simp only [List.mem_singleton] at hk; omega)
  rw [← hW2] at hcpA hr2
  clear hW2
  have hr2d : W2.drew.ownsRow 0 90 14 (.slice (some ⟨N, 0, none⟩) (n + 1) G) (n + 1) (setL (xs.take (i * 14) ++ zs) (i * 14) vs) := hr2
  have hownd : W2.drew.ownsRow 0 90 14 (.slice (some ⟨g, 0, none⟩) n n) n xs := (h.quiet (o2.trans (Only.drew W2 []))).head
  have hcpB : ∀ ty dc sc, (Builtin.copy_ #[91, 91] ty #[.slice (some ⟨N, (i + 1) * 14, none⟩) (n - i) dc, .slice (some ⟨g, i * 14, none⟩) (n - i) sc]).run Tryz.prog W2.drew = .ok (goInt (n - i : Nat)) (W2.drew.setCells N ((i + 1) * 14) (xs.drop (i * 14))) := fun ty dc sc =>
    run_copy_k W2.drew _ _ ty 90 14 N _ _ dc _ _ sc (xs.drop (i * 14)) (n - i) Tryz.underlying91 insl_size (by simp) hdl
      (fun j u hj => by
        rw [List.getElem?_drop] at hj
        have hlt := (List.getElem?_eq_some_iff.1 hj).1
        rw [Addr.add_lit, hownd.cellAt _ (by omega)]; exact hj)
      (fun j hj => (row_there hr2d _ ((n - i) * 14) (by rw [← Nat.add_mul]; exact Nat.mul_le_mul_right _ (by omega)) j (by omega)).1)
      (fun j hj => hr2d.frozenAt _) (fun u hu => h1c u (List.mem_of_mem_drop hu))
  have hr3 := row_setCells (w := w) (xs.drop (i * 14)) ((i + 1) * 14) _ _ hr2d
  have hset := (setL_ins (xs.take (i * 14) ++ zs) (xs.take (i * 14)) (xs.drop (i * 14)) vs i 14 hvl hAl (by rw [hl1, hdl, ← Nat.succ_mul, ← Nat.add_mul]; congr 1; omega) (by rw [List.take_append_of_le_length (by omega), List.take_take, Nat.min_self])).1
  rw [hset] at hr3
  have o3 : Only w (W2.drew.setCells N ((i + 1) * 14) (xs.drop (i * 14))) [] := (o2.trans (Only.drew W2 [])).new (only_setCells _ _ _ : Only W2.drew _ [N]) (fun k hk => by simp only [List.mem_singleton] at hk; omega)
  have sF : Sep w0 (W2.drew.setCells N ((i + 1) * 14) (xs.drop (i * 14))) (row 90 14 (.slice (some ⟨N, 0, none⟩) (n + 1) G) (n + 1) (xs.take (i * 14) ++ vs ++ xs.drop (i * 14)) :: rs) :=
    h.step (L := []) o3 (fun k hk => by simp at hk) hr3 (fun k hk => .inr (by simp [row, Value.ownBlock] at hk; omega))
  have oE : Only w (W2.drew.setCells N ((i + 1) * 14) (xs.drop (i * 14))) (Value.ownBlock (.slice (some ⟨g, 0, none⟩) n n)).toList := o3.mono (by simp)
  have hz2 : ¬ ((i : Int) = (n : Int)) := by omega
  have hz3 : (n : Int) < (n : Int) + (1 : Int) := by omega
  have hw1 : IntKind.i64.wrap ((i : Int) + (1 : Int)) = (i : Int) + (1 : Int) := by rw [IntKind.wrap_i64]; omega
  have hb1 : (0 : Int) ≤ (i : Int) + (1 : Int) := by omega
  have hin : i ≤ n := by omega
  have htn : ((i : Int) + (1 : Int)).toNat = i + 1 := by omega
  have hb3 : (i : Int) ≤ (n : Int) := by omega
  have hGi : ¬ (G = i) := by omega
  have hGim : ¬ (G = i + 1) := by omega
  have hci : ¬ (n = i) := by omega
  clear h hown hr1 hr2 hr2d hownd hr3 hset o2 o3 oA hvb hik hzl hyl hl1 hcm hN hvN
  go_enter Tryz.func134, Tryz.ntmps134
  go_wp2_with (first
    | (at_builtin; refine wpList_append_run2 rfl _ _ _ _ rfl _ _ rfl rfl (hrz _) ?_)
    | (at_builtin; refine wpList_copy_k _ rfl _ _ 91 91 rfl _ _ rfl rfl (hcpA _ _) ?_))
  go_region_law (refine step_copy_k rfl _ _ 91 91 rfl _ _ (by simp [Act.eval, Act.put]) (by simp [Act.eval, Act.put]) (hcpB _ _ _) ?_)
  go_wp2
  go_ret
  exact ⟨_, rfl, oE, sF⟩
theorem insl_any {w0 : World} {rs : List Res} (v : Value) (n i : Nat) (xs vs : List Value) (vb : Nat) (w : World) (h : Sep w0 w (row 90 14 v n xs :: rs)) (hn : n ≤ 1000000) (hi : i ≤ n)
    (hvl : vs.length = 14) (hvb : w.heap[vb]? = some (.cells vs.toArray 90 (0, 0))) (hne : v.ownBlock ≠ some vb) (h1c : ∀ u ∈ xs, u.oneCell' = true) (h1v : ∀ u ∈ vs, u.oneCell' = true) :
    Calls Tryz.prog 134 #[v, .int .i64 i, .slice (some ⟨vb, 0, none⟩) 1 1] w fun e w' => ∃ v', e = .returned v' ∧ Only w w' (Value.ownBlock v).toList ∧ Sep w0 w' (row 90 14 v' (n + 1) (xs.take (i * 14) ++ vs ++ xs.drop (i * 14)) :: rs) := by
  have hxl : xs.length = n * 14 := (show w.ownsRow 0 90 14 v n xs from h.head).1
  by_cases he : i = n
  · subst he
    rw [List.take_of_length_le (by omega), List.drop_of_length_le (by omega), List.append_nil]
    exact insl_end v i xs vs vb w h hn hvl (fun j u hj => by rw [cell_in hvb]; simpa using hj) h1v
  · obtain ⟨ao, c, rfl⟩ := own_slice (show w.ownsRow 0 _ 14 v n xs from h.head)
    obtain ⟨g, rfl, _⟩ := own_some (show w.ownsRow 0 _ 14 (.slice ao n c) n xs from h.head) (by omega)
    have hc := row_cap (show w.ownsRow 0 _ 14 (.slice (some ⟨g, 0, none⟩) n c) n xs from h.head)
    by_cases hr : n + 1 ≤ c
    · exact insl_shift g c n i xs vs vb w h hn (by omega) hr hvl hvb (fun e => hne (by simp [Value.ownBlock, e])) h1c h1v
    · obtain rfl : c = n := by omega
      exact insl_grow g c i xs vs vb w h hn (by omega) hvl hvb h1c h1v
end Go.Proofs.YtmmhbehlpppdiaaGreatDoor
namespace Go.Proofs.YtmmhbehlpppdiaaGreatDoor
open Go.RowKit Go.Pw

theorem cmpW_neg (u d u' d' : Int) : (cmpW u d u' d' < 0) ↔ (u < u' ∨ u = u' ∧ d < d') := by
  simp only [cmpW, orL, cmpI]
  repeat' split
  all_goals simp_all
  all_goals omega
def newL (u d : Int) : Li := ⟨u, d, true, b0, .slice none 0 0, [], rfl⟩
def insL (l : List Li) (x : Li) : List Li := l.take (placeL l x.u x.d) ++ x :: l.drop (placeL l x.u x.d)
theorem place_lt {l : List Li} {u d : Int} {i : Nat} (h : i < placeL l u d) : ∃ hi : i < l.length, cmpW l[i].u l[i].d u d < 0 := by
  have hl := place_le l u d
  refine ⟨by omega, ?_⟩
  have := List.not_of_lt_findIdx (p := fun r : Li => decide (0 ≤ cmpW r.u r.d u d)) (xs := l) (i := i) h
  simp at this
  omega
theorem place_ge {l : List Li} (hr : Rise l) {u d : Int} {i : Nat} (h : placeL l u d ≤ i) (hi : i < l.length) : ¬ cmpW l[i].u l[i].d u d < 0 := by
  intro hlt
  have hp : placeL l u d < l.length := by omega
  have h0 := List.findIdx_getElem (w := hp)
  have h1 : 0 ≤ cmpW l[placeL l u d].u l[placeL l u d].d u d := of_decide_eq_true h0
  by_cases e : placeL l u d = i
  · subst e; omega
  · have := hr u d (placeL l u d) i (by omega) hi hlt
    omega
theorem insL_len (l : List Li) (x : Li) : (insL l x).length = l.length + 1 := by
  have := place_le l x.u x.d
  simp [insL]
  omega
theorem insL_at (l : List Li) (x : Li) (i : Nat) (hi : i < (insL l x).length) : (i < placeL l x.u x.d ∧ ∃ h : i < l.length, (insL l x)[i] = l[i]) ∨ (i = placeL l x.u x.d ∧ (insL l x)[i] = x) ∨ (placeL l x.u x.d < i ∧ ∃ h : i - 1 < l.length, (insL l x)[i] = l[i - 1]) := by
  have hp := place_le l x.u x.d
  have hlen := insL_len l x
  have htl : (l.take (placeL l x.u x.d)).length = placeL l x.u x.d := by rw [List.length_take]; omega
  by_cases h1 : i < placeL l x.u x.d
  · refine .inl ⟨h1, by omega, ?_⟩
    simp only [insL]
    rw [List.getElem_append_left (by omega), List.getElem_take]
  · by_cases h2 : i = placeL l x.u x.d
    · refine .inr (.inl ⟨h2, ?_⟩)
      simp only [insL]
      rw [List.getElem_append_right (by omega)]
      simp [htl, h2]
    · refine .inr (.inr ⟨by omega, by omega, ?_⟩)
      simp only [insL]
      rw [List.getElem_append_right (by omega)]
      obtain ⟨j, hj⟩ : ∃ j, i - (l.take (placeL l x.u x.d)).length = j + 1 := ⟨i - placeL l x.u x.d - 1, by omega⟩
      simp only [hj, List.getElem_cons_succ, List.getElem_drop]
      congr 1
      omega
theorem rise_ins {l : List Li} (hr : Rise l) (x : Li) : Rise (insL l x) := by
  intro p q i j hi hj hlt
  have hlen := insL_len l x
  have hi' : i < (insL l x).length := by omega
  rcases insL_at l x j hj with ⟨h1, hj1, e1⟩ | ⟨h1, e1⟩ | ⟨h1, hj1, e1⟩
  · rcases insL_at l x i hi' with ⟨h2, hi2, e2⟩ | ⟨h2, e2⟩ | ⟨h2, hi2, e2⟩
    · rw [e1] at hlt; rw [e2]
      exact hr p q i j hi hj1 hlt
    · omega
    · omega
  · rcases insL_at l x i hi' with ⟨h2, hi2, e2⟩ | ⟨h2, e2⟩ | ⟨h2, hi2, e2⟩
    · rw [e1] at hlt; rw [e2]
      obtain ⟨_, h3⟩ := place_lt h2
      rw [cmpW_neg] at *
      omega
    · omega
    · omega
  · rcases insL_at l x i hi' with ⟨h2, hi2, e2⟩ | ⟨h2, e2⟩ | ⟨h2, hi2, e2⟩
    · rw [e1] at hlt; rw [e2]
      exact hr p q i (j - 1) (by omega) hj1 hlt
    · rw [e1] at hlt; rw [e2]
      have h3 := place_ge hr (u := x.u) (d := x.d) (i := j - 1) (by omega) hj1
      rw [cmpW_neg] at *
      omega
    · rw [e1] at hlt; rw [e2]
      exact hr p q (i - 1) (j - 1) (by omega) hj1 hlt
theorem place_ins (l : List Li) (x : Li) : placeL (insL l x) x.u x.d = placeL l x.u x.d := by
  have hlen := insL_len l x
  have hp := place_le l x.u x.d
  have hk : placeL l x.u x.d < (insL l x).length := by omega
  show List.findIdx _ _ = _
  rw [List.findIdx_eq hk]
  refine ⟨?_, fun j hj => ?_⟩
  · rcases insL_at l x _ hk with ⟨h2, _⟩ | ⟨_, e2⟩ | ⟨h2, _⟩
    · omega
    · rw [e2]
      have : ¬ cmpW x.u x.d x.u x.d < 0 := by rw [cmpW_neg]; omega
      simp only [decide_eq_true_eq]
      omega
    · omega
  · rcases insL_at l x j (by omega) with ⟨h2, hi2, e2⟩ | ⟨h2, _⟩ | ⟨h2, _⟩
    · rw [e2]
      obtain ⟨_, h3⟩ := place_lt h2
      simp only [decide_eq_false_iff_not]
      omega
    · omega
    · omega
theorem ins_at (l : List Li) (x : Li) : ∃ hk : placeL l x.u x.d < (insL l x).length, (insL l x)[placeL l x.u x.d] = x := by
  have hlen := insL_len l x
  have hp := place_le l x.u x.d
  have hk : placeL l x.u x.d < (insL l x).length := by omega
  refine ⟨hk, ?_⟩
  rcases insL_at l x _ hk with ⟨h2, _⟩ | ⟨_, e2⟩ | ⟨h2, _⟩
  · omega
  · exact e2
  · omega
theorem cmpW_self (u d : Int) : cmpW u d u d = 0 := by simp [cmpW, orL, cmpI]
theorem found_ins (l : List Li) (x : Li) : foundL (insL l x) x.u x.d = true := by
  obtain ⟨hk, e⟩ := ins_at l x
  unfold foundL
  rw [place_ins, List.getElem?_eq_getElem hk, e]
  simp [cmpW_self]
theorem fl_insL (l : List Li) (x : Li) : (fl lc l).take (placeL l x.u x.d * 14) ++ lc x ++ (fl lc l).drop (placeL l x.u x.d * 14) = fl lc (insL l x) := by
  rw [fl_take lc_len, fl_drop lc_len, insL, fl_app, fl_cons, List.append_assoc]
def Added (w0 : World) (rs : List Res) (B : Nat) (l : List Li) (u d : Int) (vb : Value) (bs : List Bu) (e : Ending) (w' : World) : Prop :=
  e = .returned (.int .i64 0) ∧ ∃ (v' : Value) (x' : Li), x'.u = u ∧ x'.d = d ∧ x'.on = true ∧ (x'.b, x'.os) = bs.foldl pubS (b0, []) ∧ x'.os.length ≤ 16 ∧ Sep w0 w' (regR B v' ((insL l (newL u d)).set (placeL l u d) x') (row 88 10 vb bs.length (fl bc bs) :: rs))

set_option maxRecDepth 100000 in
set_option maxHeartbeats 600000 in
theorem add_ok {w0 : World} {rs : List Res} (B : Nat) (l : List Li) (v : Value) (u d : Int) (vb : Value) (bs : List Bu) (w : World) (h : Sep w0 w (regR B v l (row 88 10 vb bs.length (fl bc bs) :: rs))) (hl : l.length ≤ 900000) (hbl : bs.length ≤ 1000000) (hr : Rise l)
    (hn : nextD l u = ((u, d), 0)) (hs : bs.any (fun x => !x.has) = true) (hany : bs.any (other u d) = false) (hnf : foundL l u d = false) :
    Calls Tryz.prog 85 #[.pointer (some ⟨B, 0, none⟩), wv u d, vb] w (Added w0 rs B l u d vb bs) := by
  obtain ⟨i0, hi, hz0, hz1, hz2⟩ := info_parts insl_info
  obtain ⟨vv, hvv⟩ : ∃ vv, vv = v := ⟨_, rfl⟩
  rw [← hvv] at h
  clear hvv
  have hvb : w.ownsRow 0 88 10 vb bs.length (fl bc bs) := (h.sel 4 [3]).head
  obtain ⟨ab, cb, rfl⟩ := own_slice hvb
  clear hvb
  have sB : Sep w0 _ (row 90 14 vv l.length (fl lc l) :: blk B [vv] 93 :: many (l.map ow) :: row 88 10 (.slice ab bs.length cb) bs.length (fl bc bs) :: blk w.heap.size [.int .i64 u, .int .i64 d] 40 :: rs) := (h.box [.int .i64 u, .int .i64 d] 40).sel 5 [1, 2, 3, 4, 0]
  clear h
  have Hnext := next_any B l _ u _ sB (by omega) hr
  rw [hn] at Hnext
  simp only [wv] at *
  have h1c : ([.int .i64 u, .int .i64 d] : List Value).toArray.all (·.oneCell') = true := by simp [Value.oneCell']
  go_enter Tryz.func85, Tryz.ntmps85
  go_wp2_with fail
  refine Hnext.mono ?_
  rintro e w1 ⟨rfl, o1⟩
  have s1 := sB.quiet o1
  clear sB o1 Hnext
  generalize w.heap.size = A4 at *
  have hA4 : w1.heap[A4]? = some (.cells #[.int .i64 u, .int .i64 d] 40 (0, 0)) := (s1.sel 5 [4]).head
  go_wp2_with (first
    | (refine wpList_alloc_new rfl 40 rfl (.agg #[.int .i64 0, .int .i64 0]) (fun _ => by kernel_rfl) ?_; intro X wX oX hXl hX)
    | (refine wpList_store_blk rfl 40 _ _ rfl X [.int .i64 u, .int .i64 d] rfl rfl hX rfl (by kernel_rfl) h1c ?_; intro wY oY hY; have oF := oX.new oY (fun i hi => by simp only [List.mem_singleton] at hi; omega); have s2 := s1.quiet oF; have hy0 := cell_two0 hY; have hy1 := cell_two1 hY; have hA5 := oF.at hA4 (by simp); have ha0 := cell_two0 hA5; have ha1 := cell_two1 hA5; clear s1 hA4 hX oX oY))
  have hrb : RdB wY (.slice ab bs.length cb) bs := own_src (s2.sel 4 [3]).head
  refine (contains_has (fun x => !x.has) _ bs wY hrb hbl (clos_has wY)).mono ?_
  rw [hs]
  rintro e w3 ⟨rfl, o3⟩
  go_wp2_with fail
  refine (contains_o1 A4 (other u d) _ bs w3 (hrb.off o3) hbl (clos_other1 A4 u d w3 (o3.at hA5 (by simp)))).mono ?_
  rw [hany]
  rintro e w4 ⟨rfl, o4⟩
  have s4 := s2.quiet (o3.trans o4)
  clear s2 o3 o4 hrb hY hy0 hy1 hA5 ha0 ha1 oF
  have hA4 : w4.heap[A4]? = some (.cells #[.int .i64 u, .int .i64 d] 40 (0, 0)) := (s4.sel 5 [4]).head
  have ha0 := cell_two0 hA4
  have ha1 := cell_two1 hA4
  go_wp2_with fail
  refine (find_any B l _ u d _ s4 (by omega) hr).mono ?_
  rw [hnf]
  rintro e w2 ⟨rfl, o2⟩
  have s5 := s4.quiet o2
  clear s4 o2 hA4 ha0 ha1
  go_upto_region 7 with fail
  have hB : w2.heap[B]? = some (.cells #[vv] 93 (0, 0)) := (s5.sel 2 [1]).head
  have h4 : w2.heap[A4]? = some (.cells #[.int .i64 u, .int .i64 d] 40 (0, 0)) := (s5.sel 5 [4]).head
  have hBg : B ∉ vv.ownBlock.toList := fun hk => s5.two_at (i := 0) (j := 1) rfl rfl (by decide) B hk (by simp [blk])
  have h4g : A4 ∉ vv.ownBlock.toList := fun hk => s5.two_at (i := 0) (j := 4) rfl rfl (by decide) A4 hk (by simp [blk])
  have hnew : ∀ Y, vv.ownBlock = some Y → w2.heap.size ≤ Y → False := fun Y he hY => by
    have := (row 90 14 vv l.length (fl lc l)).lt w2 s5.head Y (by simp [row, he])
    omega
  have sD := s5.quiet (Only.drew w2 [])
  have hkl := place_le l u d
  have hfi := fl_insL l (newL u d)
  obtain ⟨k, hk⟩ : ∃ k, k = placeL l u d := ⟨_, rfl⟩
  rw [show placeL l (newL u d).u (newL u d).d = placeL l u d from rfl] at hfi
  rw [← hk] at hkl hfi ⊢
  have Hhk := Lib.hid hk
  clear s5 hk
  refine wp_region_t (S := fun w' => Only w2.drew w' vv.ownBlock.toList) 12 (by kernel_rfl) (by kernel_rfl) (Only.refl _ _) (fun hZ hHeld => ?_)
  refine' wpAnyT_take (i := 0) (v := _) hZ (op_at' rfl) (by rfl) (by kernel_rfl) (by kernel_rfl) (by kernel_rfl) (by kernel_rfl) (fun _ _ _ h => h) (Or.inl ⟨by rfl, ?hy1⟩) (by assumption) ?rest1
  case hy1 =>
    intro w' hS
    go_simp
    try with_reducible rfl
  try simp only [Act.put, List.setIfInBounds_toArray, List.set_cons_zero, List.set_cons_succ]
  refine' wpAnyT_take (i := 1) (v := _) hZ (op_at' rfl) (by rfl) (by kernel_rfl) (by kernel_rfl) (by kernel_rfl) (by kernel_rfl) (fun _ _ _ h => h) (Or.inl ⟨by rfl, ?hy2⟩) (by assumption) ?rest2
  case hy2 =>
    intro w' hS
    go_simp
    try with_reducible rfl
  try simp only [Act.put, List.setIfInBounds_toArray, List.set_cons_zero, List.set_cons_succ]
  refine' wpAnyT_take (i := 2) (v := _) hZ (op_at' rfl) (by rfl) (by kernel_rfl) (by kernel_rfl) (by kernel_rfl) (by kernel_rfl) (fun _ _ _ h => h) (Or.inl ⟨by rfl, ?hy3⟩) (by assumption) ?rest3
  case hy3 =>
    intro w' hS
    go_simp
    try with_reducible rfl
  try simp only [Act.put, List.setIfInBounds_toArray, List.set_cons_zero, List.set_cons_succ]
  refine' wpAnyT_take (i := 3) (v := _) hZ (op_at' rfl) (by rfl) (by kernel_rfl) (by kernel_rfl) (by kernel_rfl) (by kernel_rfl) (fun _ _ _ h => h) (Or.inl ⟨by rfl, ?hy4⟩) (by assumption) ?rest4
  case hy4 =>
    intro w' hS
    go_simp
    try with_reducible rfl
  try simp only [Act.put, List.setIfInBounds_toArray, List.set_cons_zero, List.set_cons_succ]
  refine' wpAnyT_take (i := 4) (v := _) hZ (op_at' rfl) (by rfl) (by kernel_rfl) (by kernel_rfl) (by kernel_rfl) (by kernel_rfl) (fun _ _ _ h => h) (Or.inl ⟨by rfl, ?hy5⟩) (by assumption) ?rest5
  case hy5 =>
    intro w' hS
    have hc0 := cell_of_one (hS.at (show w2.drew.heap[B]? = _ from hB) hBg)
    go_simp
    try with_reducible rfl
  try simp only [Act.put, List.setIfInBounds_toArray, List.set_cons_zero, List.set_cons_succ]
  refine' wpAnyT_take (i := 5) (v := _) hZ (op_at' rfl) (by rfl) (by kernel_rfl) (by kernel_rfl) (by kernel_rfl) (by kernel_rfl) (fun _ _ _ h => h) (Or.inl ⟨by rfl, ?hy6⟩) (by assumption) ?rest6
  case hy6 =>
    intro w' hS
    go_simp
    try with_reducible rfl
  try simp only [Act.put, List.setIfInBounds_toArray, List.set_cons_zero, List.set_cons_succ]
  refine' wpAnyT_take (i := 6) (v := _) hZ (op_at' rfl) (by rfl) (by kernel_rfl) (by kernel_rfl) (by kernel_rfl) (by kernel_rfl) (fun _ _ _ h => h) (Or.inl ⟨by rfl, ?hy7⟩) (by assumption) ?rest7
  case hy7 =>
    intro w' hS
    have ht := hS.at (show w2.drew.heap[A4]? = _ from h4) h4g
    have ht0 := cell_two0 ht
    have ht1 := cell_two1 ht
    go_simp
    try with_reducible rfl
  try simp only [Act.put, List.setIfInBounds_toArray, List.set_cons_zero, List.set_cons_succ]
  refine' wpAnyT_take (i := 7) (v := _) hZ (op_at' rfl) (by rfl) (by kernel_rfl) (by kernel_rfl) (by kernel_rfl) (by kernel_rfl) (fun _ _ _ h => h) (Or.inl ⟨by rfl, ?hy8⟩) (by assumption) ?rest8
  case hy8 =>
    intro w' hS
    go_simp
    try with_reducible rfl
  try simp only [Act.put, List.setIfInBounds_toArray, List.set_cons_zero, List.set_cons_succ]
  refine wpAnyT_one (i := 8) (by kernel_rfl) (op_at' rfl) (fun K hK => ?_)
  refine step_buildSlice_one (by rfl) 91 _ (by rfl) 90 i0 _ (lc (newL u d)) (by rfl) Tryz.underlying91 hi hz0 (by rw [hz1, lc_len]) (by rw [lc_len]; rfl) (by rw [lc_len]; decide) (by rw [lc_len]; decide) (fun Y wS oS hYl hYS => ?_)
  go_wp2_with fail
  refine hK.out _ _ (oS.mono (by simp)) (fun hHeld => ?_)
  clear hK K
  try simp only [Act.put, List.setIfInBounds_toArray, List.set_cons_zero, List.set_cons_succ]
  refine wpAnyT_one (i := 9) (by kernel_rfl) (op_at' rfl) (fun K hK => ?_)
  go_simp
  refine (insl_any vv l.length k (fl lc l) (lc (newL u d)) Y _ (sD.quiet oS) (by omega) hkl (lc_len _) hYS (fun he => hnew Y he (by have := hYl; simpa using this)) (fl_one lc_one l) (lc_one _)).mono fun e w12 hq => ?_
  obtain ⟨v12, rfl, o12, s12⟩ := hq
  obtain ⟨a12, c12, rfl⟩ := own_slice (show w12.ownsRow 0 90 14 v12 (l.length + 1) _ from s12.head)
  go_wp2_with fail
  refine hK.out _ _ ((oS.mono (by simp)).trans o12) (fun hHeld => ?_)
  clear hK K
  try simp only [Act.put, List.setIfInBounds_toArray, List.set_cons_zero, List.set_cons_succ]
  refine' wpAnyT_take (i := 10) (v := _) hZ (op_at' rfl) (by rfl) (by kernel_rfl) (by kernel_rfl) (by kernel_rfl) (by kernel_rfl) (fun _ _ _ h => h) (Or.inl ⟨by rfl, ?hy9⟩) (by assumption) ?rest9
  case hy9 =>
    intro w' hS
    go_simp
    try with_reducible rfl
  try simp only [Act.put, List.setIfInBounds_toArray, List.set_cons_zero, List.set_cons_succ]
  refine' wpAnyT_take (i := 11) (v := _) hZ (op_at' rfl) (by rfl) (by kernel_rfl) (by kernel_rfl) (by kernel_rfl) (by kernel_rfl) (fun _ _ _ h => h) (Or.inl ⟨by rfl, ?hy10⟩) (by assumption) ?rest10
  case hy10 =>
    intro w' hS
    go_simp
    try with_reducible rfl
  try simp only [Act.put, List.setIfInBounds_toArray, List.set_cons_zero, List.set_cons_succ]
  refine wpAnyT_last (by kernel_rfl) (op_at' rfl) (by kernel_rfl) (fun K hK => ?_)
  refine step_store_blk (by rfl) 91 _ _ (by rfl) B 0 (.slice a12 (l.length + 1) c12) [.slice a12 (l.length + 1) c12] [vv] 93 (by rfl) (by rfl) (by rfl) (s12.sel 2 [1, 0]) (by simp) (by kernel_rfl) (by simp [Value.oneCell']) (fun w15 o15 s15 => ?_)
  go_wp2_with fail
  refine hK.out _ _ ?_
  clear hK K
  try simp only [Act.put, List.setIfInBounds_toArray, List.set_cons_zero, List.set_cons_succ]
  have q1 : Sep w0 w15 (row 90 14 (.slice a12 (l.length + 1) c12) (insL l (newL u d)).length (fl lc (insL l (newL u d))) :: blk B [.slice a12 (l.length + 1) c12] 93 :: many ((insL l (newL u d)).map ow) :: row 88 10 (.slice ab bs.length cb) bs.length (fl bc bs) :: blk A4 [.int .i64 u, .int .i64 d] 40 :: rs) := by
    have q0 : Sep w0 w15 (ow (newL u d) :: many (l.map ow) :: row 90 14 (.slice a12 (l.length + 1) c12) (l.length + 1) ((fl lc l).take (k * 14) ++ lc (newL u d) ++ (fl lc l).drop (k * 14)) :: blk B [.slice a12 (l.length + 1) c12] 93 :: row 88 10 (.slice ab bs.length cb) bs.length (fl bc bs) :: blk A4 [.int .i64 u, .int .i64 d] 40 :: rs) :=
      (s15.sel 5 [2, 1, 0, 3, 4]).rown _ _
    have q2 := q0.many_ins k
    rw [show (l.map ow).take k ++ ow (newL u d) :: (l.map ow).drop k = (insL l (newL u d)).map ow by
      rw [insL, show placeL l (newL u d).u (newL u d).d = k from Hhk.out.symm, List.map_append, List.map_cons, List.map_take, List.map_drop], hfi] at q2
    rw [insL_len]
    exact q2.sel 5 [1, 2, 0, 3, 4]
  have hA4 : w15.heap[A4]? = some (.cells #[.int .i64 u, .int .i64 d] 40 (0, 0)) := (q1.sel 5 [4]).head
  have ha0 := cell_two0 hA4
  have ha1 := cell_two1 hA4
  have hr2 := rise_ins hr (newL u d)
  have hf2 := found_ins l (newL u d)
  have hp2 := place_ins l (newL u d)
  obtain ⟨hk2, hx2⟩ := ins_at l (newL u d)
  rw [show placeL l (newL u d).u (newL u d).d = placeL l u d from rfl] at hp2 hk2
  have hl2 : (insL l (newL u d)).length ≤ 1000000 := by rw [insL_len]; omega
  clear s15 s12 sD hfi hZ hHeld hB h4 hBg h4g hnew hA4
  go_wp2_with fail
  refine (publish_ok B (insL l (newL u d)) _ u d _ bs k (newL u d) _ q1 hl2 hbl hr2 hf2 (hp2.trans Hhk.out.symm) (by rw [Hhk.out]; exact hk2) (by simp only [Hhk.out]; exact hx2) rfl (by simp [newL]) hany).mono ?_
  rintro e w5 ⟨rfl, x', e1, e2, e3, e4, e5, e6⟩
  have e7 := e6.sel 5 [0, 1, 2, 3]
  clear q1 e6 ha0 ha1
  go_wp2_with fail
  go_ret
  exact ⟨rfl, _, x', e1, e2, e3, e4, e5, by rw [← Hhk.out]; exact e7⟩
end Go.Proofs.YtmmhbehlpppdiaaGreatDoor
namespace Go.Pw
open Go.RowKit
end Go.Pw
namespace Go.Proofs.YtmmhbehlpppdiaaGreatDoor
open Go.RowKit Go.Pw

theorem new_any (w : World) : Calls Tryz.prog 78 #[] w fun e w' => e = .returned (.pointer (some ⟨w.heap.size, 0, none⟩)) ∧ w' = w.alloc (.cells #[.slice none 0 0] 93) := by
  go_enter Tryz.func78, Tryz.ntmps78
  go_wp2
  go_ret
  exact ⟨rfl, rfl⟩

end Go.Proofs.YtmmhbehlpppdiaaGreatDoor
namespace Go.Pw
open Go.RowKit
end Go.Pw
namespace Go.Proofs.YtmmhbehlpppdiaaGreatDoor
open Go.RowKit Go.Pw

end Go.Proofs.YtmmhbehlpppdiaaGreatDoor
namespace Go.Proofs.YtmmhbehlpppdiaaGreatDoor
open Go.RowKit Go.Pw
structure Sn where
  u : Int
  d : Int
  n : Int
  tu : Int
  av : Value
  ok : av.oneCell' = true
def sc (x : Sn) : List Value := [.int .i64 x.u, .int .i64 x.d, .int .u32 x.n, .int .i64 x.tu, x.av]
abbrev sb (RB BM LM : Nat) (lv : Value) : List Value := [.pointer (some ⟨RB, 0, none⟩), .map (some BM), .map (some LM), lv]
abbrev srvR (SB RB BM LM : Nat) (v : Value) (l : List Li) (bm lm : List ((Int × Int) × Value)) (lv : Value) (logs : List Sn) (rs : List Res) : List Res :=
  regR RB v l (blk SB (sb RB BM LM lv) 82 :: mapR BM bm :: mapR LM lm :: row 191 5 lv logs.length (fl sc logs) :: rs)
theorem sb_at {w : World} {SB RB BM LM : Nat} {lv : Value} (h : (blk SB (sb RB BM LM lv) 82).ok w) :
    w.cell? ⟨SB, 0, none⟩ = some (.pointer (some ⟨RB, 0, none⟩)) ∧ w.cell? ⟨SB, 1, none⟩ = some (.map (some BM)) ∧ w.cell? ⟨SB, 2, none⟩ = some (.map (some LM)) ∧ w.cell? ⟨SB, 3, none⟩ = some lv :=
  ⟨cell_in (show w.heap[SB]? = _ from h) 0, cell_in (show w.heap[SB]? = _ from h) 1, cell_in (show w.heap[SB]? = _ from h) 2, cell_in (show w.heap[SB]? = _ from h) 3⟩
theorem box_nil {w0 w : World} {rs : List Res} {X : Nat} (h : Sep w0 w (blk X [.slice none 0 0, .int .u64 0] 129 :: rs)) : Sep w0 w (box X (.slice none 0 0) [] 0 :: rs) := by
  have h1 := (h.many_nil.rown 124 2)
  have h2 : Sep w0 w (row 124 2 (.slice none 0 0) 0 [] :: many [] :: blk X [.slice none 0 0, .int .u64 0] 129 :: rs) := h1
  exact (h2.join.sel 2 [1, 0]).join
theorem regs_none {w0 w : World} {rs : List Res} {B : Nat} (h : Sep w0 w (blk B [.slice none 0 0] 93 :: rs)) : Sep w0 w (regR B (.slice none 0 0) [] rs) :=
  (h.many_nil.rown 90 14).sel 3 [0, 2, 1]

theorem snew_any (w : World) : Calls Tryz.prog 37 #[] w fun e w' => ∃ SB RB BM LM, e = .returned (.pointer (some ⟨SB, 0, none⟩)) ∧ Sep w w' (srvR SB RB BM LM (.slice none 0 0) [] [] [] (.slice none 0 0) [] []) := by
  go_enter Tryz.func37, Tryz.ntmps37
  go_wp2_with fail
  refine (new_any _).mono ?_
  rintro e w1 ⟨rfl, rfl⟩
  have s1 := (Sep.nil w).box [.slice none 0 0] 93
  generalize w.heap.size = RB at *
  generalize w.alloc (.cells [Value.slice none 0 0].toArray 93) = w1 at *
  go_wp2_with (first
    | (refine wpList_makeMap_new rfl 78 rfl ?_; intro BM w2 o2 l2 h2; have s2 := s1.add (b := mapR BM []) o2 ⟨#[], 0, h2, rfl⟩ (fun k hk => by simp [mapR] at hk; omega); clear s1)
    | (refine wpList_makeMap_new rfl 79 rfl ?_; intro LM w3 o3 l3 h3; have s3 := s2.add (b := mapR LM []) o3 ⟨#[], 0, h3, rfl⟩ (fun k hk => by simp [mapR] at hk; omega); clear s2)
    | (refine wpList_box_new rfl 82 _ rfl (.agg (sb RB BM LM (.slice none 0 0)).toArray) rfl ?_; intro SB w4 o4 l4 h4; have s4 := s3.add (b := blk SB (sb RB BM LM (.slice none 0 0)) 82) o4 h4 (fun k hk => by simp [blk] at hk; omega); clear s3))
  have s5 : Sep w w4 (regR RB (.slice none 0 0) [] (blk SB (sb RB BM LM (.slice none 0 0)) 82 :: mapR BM [] :: mapR LM [] :: [])) := regs_none (s4.sel 4 [3, 0, 2, 1])
  have s6 := (s5.rown 191 5).sel 7 [1, 2, 3, 4, 5, 6, 0]
  go_ret
  exact ⟨SB, RB, BM, LM, rfl, s6⟩

end Go.Proofs.YtmmhbehlpppdiaaGreatDoor
namespace Go.Proofs.YtmmhbehlpppdiaaGreatDoor
open Go.RowKit Go.Pw
theorem step_updateW {ops : Array Oper} {o : Oper} {a : Act} {w w0 : World} {rs : List Res} {K : Act → World → Prop} {Q : Exit → Act → World → Prop} {F : Prop}
    (hg : o.guard = none) (T E : TypeId) (m k x : Operand) (hop : o.op = .mapUpdate T m k x) (B : Nat) (mm : List ((Int × Int) × Value)) (p : Int × Int) (v : Value)
    (hm : a.eval m = .map (some B)) (hk : a.eval k = .agg (wc p).toArray) (hx : a.eval x = v) (hs : Sep w0 w (mapR B mm :: rs)) (hT : Tryz.prog.underlying T = some (.map 40 E))
    (hK : ∀ w', Only w w' [B] → Sep w0 w' (mapR B (putM mm p v) :: rs) → K (a.put o.dst undef) w') : if Region.wanted o (yielded ops a.tmps) = true then Oper.wp Tryz.prog o a w K Q else F := by
  have hw : Region.wanted o (yielded ops a.tmps) = true := by simp [Region.wanted, hg]
  rw [if_pos hw]
  obtain ⟨w', hr, h1, h2⟩ := run_updateW T E B mm p v hs hT
  unfold Oper.wp execOp
  simp only [hop, hm, hk, hx, Sem.run_bind, hr, Result.andThen_ok]
  exact hK w' h1 h2
def Lnk (w0 : World) (rs : List Res) (SB RB BM LM : Nat) (l : List Li) (bm lm : List ((Int × Int) × Value)) (lv : Value) (logs : List Sn) (u d : Int) (vb : Value) (bs : List Bu) (e : Ending) (w' : World) : Prop :=
  e = .returned (.int .i64 0) ∧ ∃ (v' : Value) (x' : Li) (X : Nat), x'.u = u ∧ x'.d = d ∧ x'.on = true ∧ (x'.b, x'.os) = bs.foldl pubS (b0, []) ∧ x'.os.length ≤ 16 ∧
    Sep w0 w' (srvR SB RB BM LM v' ((insL l (newL u d)).set (placeL l u d) x') (putM bm (u, d) (.pointer (some ⟨X, 0, none⟩))) lm lv logs (box X (.slice none 0 0) [] 0 :: row 88 10 vb bs.length (fl bc bs) :: rs))

set_option maxRecDepth 100000 in
set_option maxHeartbeats 1600000 in
theorem link_ok {w0 : World} {rs : List Res} (SB RB BM LM : Nat) (v : Value) (l : List Li) (bm lm : List ((Int × Int) × Value)) (lv : Value) (logs : List Sn) (u d : Int) (vb : Value) (bs : List Bu) (w : World) (h : Sep w0 w (srvR SB RB BM LM v l bm lm lv logs (row 88 10 vb bs.length (fl bc bs) :: rs)))
    (hl : l.length ≤ 900000) (hbl : bs.length ≤ 1000000) (hr : Rise l) (hn : nextD l u = ((u, d), 0)) (hs : bs.any (fun x => !x.has) = true) (hany : bs.any (other u d) = false) (hnf : foundL l u d = false) :
    Calls Tryz.prog 44 #[.pointer (some ⟨SB, 0, none⟩), wv u d, vb] w (Lnk w0 rs SB RB BM LM l bm lm lv logs u d vb bs) := by
  obtain ⟨ab, cb, rfl⟩ := own_slice (show w.ownsRow 0 88 10 vb bs.length (fl bc bs) from (h.sel 8 [7]).head)
  have hsb := fun (w' : World) (o : Only w w' []) => sb_at ((h.quiet o).sel 4 [3]).head
  have h2 : Sep w0 w (regR RB v l (row 88 10 (.slice ab bs.length cb) bs.length (fl bc bs) :: blk SB (sb RB BM LM lv) 82 :: mapR BM bm :: mapR LM lm :: row 191 5 lv logs.length (fl sc logs) :: rs)) := h.sel 8 [0, 1, 2, 7, 3, 4, 5, 6]
  clear h
  simp only [wv]
  go_enter Tryz.func44, Tryz.ntmps44
  go_upto_region 3 with ((refine wpList_box_new rfl 40 _ rfl (.agg #[.int .i64 u, .int .i64 d]) rfl ?_; intro Z wZ oZ hZl hZb))
  have hZt := (h2.quiet oZ)
  have sZ : Sep w0 wZ (blk Z [.int .i64 u, .int .i64 d] 40 :: regR RB v l (row 88 10 (.slice ab bs.length cb) bs.length (fl bc bs) :: blk SB (sb RB BM LM lv) 82 :: mapR BM bm :: mapR LM lm :: row 191 5 lv logs.length (fl sc logs) :: rs)) := h2.add oZ hZb (fun k hk => by simp [blk] at hk; omega)
  have sA : Sep w0 wZ.drew (regR RB v l (row 88 10 (.slice ab bs.length cb) bs.length (fl bc bs) :: blk Z [.int .i64 u, .int .i64 d] 40 :: blk SB (sb RB BM LM lv) 82 :: mapR BM bm :: mapR LM lm :: row 191 5 lv logs.length (fl sc logs) :: rs)) := (sZ.quiet (Only.drew wZ [])).sel 5 [1, 2, 3, 4, 0]
  clear h2 hZt sZ
  refine wp_region_held_drew (S := fun w' => (blk SB (sb RB BM LM lv) 82).ok w' ∧ (blk Z [.int .i64 u, .int .i64 d] 40).ok w') (by kernel_rfl) ⟨(sA.sel 6 [5]).head, (sA.sel 5 [4]).head⟩ (fun hHeld => ?_)
  refine' wpAnyH_take (i := 0) (v := _) (op_at rfl) (by kernel_rfl) (by kernel_rfl) (by kernel_rfl) (fun _ _ _ h => h) (Or.inl ⟨by rfl, ?hy1⟩) (by assumption) ?rest1
  case hy1 =>
    intro w' hS
    go_simp
    try with_reducible rfl
  try simp only [Act.put, List.setIfInBounds_toArray, List.set_cons_zero, List.set_cons_succ]
  refine' wpAnyH_take (i := 1) (v := _) (op_at rfl) (by kernel_rfl) (by kernel_rfl) (by kernel_rfl) (fun _ _ _ h => h) (Or.inl ⟨by rfl, ?hy2⟩) (by assumption) ?rest2
  case hy2 =>
    intro w' hS
    go_simp
    try with_reducible rfl
  try simp only [Act.put, List.setIfInBounds_toArray, List.set_cons_zero, List.set_cons_succ]
  refine' wpAnyH_take (i := 2) (v := _) (op_at rfl) (by kernel_rfl) (by kernel_rfl) (by kernel_rfl) (fun _ _ _ h => h) (Or.inl ⟨by rfl, ?hy3⟩) (by assumption) ?rest3
  case hy3 =>
    intro w' hS
    go_simp
    try with_reducible rfl
  try simp only [Act.put, List.setIfInBounds_toArray, List.set_cons_zero, List.set_cons_succ]
  refine' wpAnyH_take (i := 3) (v := _) (op_at rfl) (by kernel_rfl) (by kernel_rfl) (by kernel_rfl) (fun _ _ _ h => h) (Or.inl ⟨by rfl, ?hy4⟩) (by assumption) ?rest4
  case hy4 =>
    intro w' hS
    obtain ⟨c0, c1, c2, c3⟩ := sb_at hS.1
    go_simp
    try with_reducible rfl
  try simp only [Act.put, List.setIfInBounds_toArray, List.set_cons_zero, List.set_cons_succ]
  refine' wpAnyH_take (i := 4) (v := _) (op_at rfl) (by kernel_rfl) (by kernel_rfl) (by kernel_rfl) (fun _ _ _ h => h) (Or.inl ⟨by rfl, ?hy5⟩) (by assumption) ?rest5
  case hy5 =>
    intro w' hS
    have ht := show w'.heap[Z]? = _ from hS.2
    have ht0 := cell_two0 ht
    have ht1 := cell_two1 ht
    go_simp
    try with_reducible rfl
  try simp only [Act.put, List.setIfInBounds_toArray, List.set_cons_zero, List.set_cons_succ]
  refine' wpAnyH_take (i := 5) (v := _) (op_at rfl) (by kernel_rfl) (by kernel_rfl) (by kernel_rfl) (fun _ _ _ h => h) (Or.inl ⟨by rfl, ?hy6⟩) (by assumption) ?rest6
  case hy6 =>
    intro w' hS
    go_simp
    try with_reducible rfl
  try simp only [Act.put, List.setIfInBounds_toArray, List.set_cons_zero, List.set_cons_succ]
  refine wpAnyH_ready (rs := [6]) (by kernel_rfl) (by simp) (AllReadyH.cons (op_at rfl) (fun K hK => ?_) AllReadyH.nil)
  go_simp
  refine (add_ok RB l v u d _ bs _ sA hl hbl hr hn hs hany hnf).mono fun e w3 hq => ?_
  obtain ⟨rfl, v', x', x1, x2, x3, x4, x5, x6⟩ := hq
  go_wp2_with fail
  refine hK.out _ _ ⟨(x6.sel 6 [5]).head, (x6.sel 5 [4]).head⟩ (fun hHeld => ?_)
  clear hK K
  try simp only [Act.put, List.setIfInBounds_toArray, List.set_cons_zero, List.set_cons_succ]
  refine' wpAnyH_take (i := 7) (v := _) (op_at rfl) (by kernel_rfl) (by kernel_rfl) (by kernel_rfl) (fun _ _ _ h => h) (Or.inl ⟨by rfl, ?hy7⟩) (by assumption) ?rest7
  case hy7 =>
    intro w' hS
    go_simp
    try with_reducible rfl
  try simp only [Act.put, List.setIfInBounds_toArray, List.set_cons_zero, List.set_cons_succ]
  refine wpAnyH_done (by kernel_rfl) ?_ _
  have hr4 : Sep w0 w3 (blk Z [.int .i64 u, .int .i64 d] 40 :: blk SB (sb RB BM LM lv) 82 :: mapR BM bm :: mapR LM lm :: row 191 5 lv logs.length (fl sc logs) :: regR RB v' ((insL l (newL u d)).set (placeL l u d) x') (row 88 10 (.slice ab bs.length cb) bs.length (fl bc bs) :: rs)) := x6.sel 9 [4, 5, 6, 7, 8, 0, 1, 2, 3]
  clear x6 sA hsb hHeld oZ hZl hZb
  obtain ⟨l', hl'⟩ : ∃ l', l' = (insL l (newL u d)).set (placeL l u d) x' := ⟨_, rfl⟩
  rw [← hl'] at hr4
  have HL := Lib.hid hl'
  clear hl'
  go_upto_region 5 with fail
  have hZb : w3.heap[Z]? = some (.cells #[.int .i64 u, .int .i64 d] 40 (0, 0)) := hr4.head
  have hsb := fun (w' : World) (o : Only w3.drew w' []) => sb_at (((hr4.quiet (Only.drew w3 [])).quiet o).sel 2 [1]).head
  have sD := (hr4.quiet (Only.drew w3 [])).sel 9 [2, 0, 1, 3, 4, 5, 6, 7, 8]
  clear hr4
  refine wp_region_t (S := fun w' => Only w3.drew w' []) 7 (by kernel_rfl) (by kernel_rfl) (Only.refl _ _) (fun hZ hHeld => ?_)
  refine' wpAnyT_take (i := 0) (v := _) hZ (op_at' rfl) (by rfl) (by kernel_rfl) (by kernel_rfl) (by kernel_rfl) (by kernel_rfl) (fun _ _ _ h => h) (Or.inl ⟨by rfl, ?hy8⟩) (by assumption) ?rest8
  case hy8 =>
    intro w' hS
    go_simp
    try with_reducible rfl
  try simp only [Act.put, List.setIfInBounds_toArray, List.set_cons_zero, List.set_cons_succ]
  refine' wpAnyT_take (i := 1) (v := _) hZ (op_at' rfl) (by rfl) (by kernel_rfl) (by kernel_rfl) (by kernel_rfl) (by kernel_rfl) (fun _ _ _ h => h) (Or.inl ⟨by rfl, ?hy9⟩) (by assumption) ?rest9
  case hy9 =>
    intro w' hS
    go_simp
    try with_reducible rfl
  try simp only [Act.put, List.setIfInBounds_toArray, List.set_cons_zero, List.set_cons_succ]
  refine' wpAnyT_take (i := 2) (v := _) hZ (op_at' rfl) (by rfl) (by kernel_rfl) (by kernel_rfl) (by kernel_rfl) (by kernel_rfl) (fun _ _ _ h => h) (Or.inl ⟨by rfl, ?hy10⟩) (by assumption) ?rest10
  case hy10 =>
    intro w' hS
    go_simp
    try with_reducible rfl
  try simp only [Act.put, List.setIfInBounds_toArray, List.set_cons_zero, List.set_cons_succ]
  refine' wpAnyT_take (i := 3) (v := _) hZ (op_at' rfl) (by rfl) (by kernel_rfl) (by kernel_rfl) (by kernel_rfl) (by kernel_rfl) (fun _ _ _ h => h) (Or.inl ⟨by rfl, ?hy11⟩) (by assumption) ?rest11
  case hy11 =>
    intro w' hS
    obtain ⟨c0, c1, c2, c3⟩ := hsb w' hS
    go_simp
    try with_reducible rfl
  try simp only [Act.put, List.setIfInBounds_toArray, List.set_cons_zero, List.set_cons_succ]
  refine' wpAnyT_take (i := 4) (v := _) hZ (op_at' rfl) (by rfl) (by kernel_rfl) (by kernel_rfl) (by kernel_rfl) (by kernel_rfl) (fun _ _ _ h => h) (Or.inl ⟨by rfl, ?hy12⟩) (by assumption) ?rest12
  case hy12 =>
    intro w' hS
    have ht := ((Only.drew w3 []).trans hS).at hZb (by simp)
    have ht0 := cell_two0 ht
    have ht1 := cell_two1 ht
    go_simp
    try with_reducible rfl
  try simp only [Act.put, List.setIfInBounds_toArray, List.set_cons_zero, List.set_cons_succ]
  refine' wpAnyT_take (i := 5) (v := _) hZ (op_at' rfl) (by rfl) (by kernel_rfl) (by kernel_rfl) (by kernel_rfl) (by kernel_rfl) (fun _ _ _ h => h) (Or.inl ⟨by rfl, ?hy13⟩) (by assumption) ?rest13
  case hy13 =>
    intro w' hS
    go_simp
    try with_reducible rfl
  try simp only [Act.put, List.setIfInBounds_toArray, List.set_cons_zero, List.set_cons_succ]
  refine wpAnyT_one (i := 6) (by kernel_rfl) (op_at' rfl) (fun K hK => ?_)
  refine step_box_new (by rfl) 129 _ (by rfl) (.agg #[.slice none 0 0, .int .u64 0]) (by rfl) (fun X w6 o6 l6 h6 => ?_)
  go_wp2_with fail
  refine hK.out _ _ o6 (fun hHeld => ?_)
  clear hK K
  try simp only [Act.put, List.setIfInBounds_toArray, List.set_cons_zero, List.set_cons_succ]
  refine wpAnyT_last (by kernel_rfl) (op_at' rfl) (by kernel_rfl) (fun K hK => ?_)
  refine step_updateW (by rfl) 78 127 _ _ _ (by rfl) BM bm (u, d) (.pointer (some ⟨X, 0, none⟩)) (by rfl) (by rfl) (by rfl) ((sD.add (b := blk X [.slice none 0 0, .int .u64 0] 129) o6 h6 (fun k hk => by simp [blk] at hk; omega)).sel 10 [1, 0, 2, 3, 4, 5, 6, 7, 8, 9]) Tryz.underlying78 (fun w7 o7 s7 => ?_)
  go_wp2_with fail
  refine hK.out _ _ ?_
  clear hK K
  try simp only [Act.put, List.setIfInBounds_toArray, List.set_cons_zero, List.set_cons_succ]
  have s8 : Sep w0 w7 (srvR SB RB BM LM v' l' (putM bm (u, d) (.pointer (some ⟨X, 0, none⟩))) lm lv logs (box X (.slice none 0 0) [] 0 :: row 88 10 (.slice ab bs.length cb) bs.length (fl bc bs) :: rs)) :=
    (box_nil (s7.sel 10 [1, 0, 2, 3, 4, 5, 6, 7, 8, 9])).sel 10 [6, 7, 8, 3, 1, 4, 5, 0, 9]
  clear s7 sD hsb hZb
  go_wp2_with fail
  go_ret
  exact ⟨rfl, v', x', X, x1, x2, x3, x4, x5, by rw [← HL.out]; exact s8⟩
end Go.Proofs.YtmmhbehlpppdiaaGreatDoor
namespace Go.Proofs.YtmmhbehlpppdiaaGreatDoor.Wl
open Go.RowKit Go.Pw

abbrev nl : Value := .slice none 0 0
theorem tnew_any (w : World) : Calls Tryz.prog 77 #[] w fun e w' => ∃ TB TM, e = .returned (.pointer (some ⟨TB, 0, none⟩)) ∧ Sep w w' (tabR TB TM nl [] []) := by
  go_enter Tryz.func77, Tryz.ntmps77
  go_wp2_with (first
    | (refine wpList_makeMap_new rfl 239 rfl ?_; intro TM w2 o2 l2 h2; have s2 := (Sep.nil w).add (b := mapT TM 0) o2 ⟨#[], 0, h2, fun x hx => by simp at hx⟩ (fun k hk => by simp [mapT] at hk; omega))
    | (refine wpList_box_new rfl 242 _ rfl (.agg #[nl, .map (some TM)]) rfl ?_; intro TB w4 o4 l4 h4; have s4 := s2.add (b := blk TB [nl, .map (some TM)] 242) o4 h4 (fun k hk => by simp [blk] at hk; omega)))
  go_ret
  exact ⟨TB, TM, rfl, ((s4.many_nil).rown 296 4).sel 4 [0, 2, 3, 1]⟩
def PNewP (w : World) (e : Ending) (w' : World) : Prop := ∃ PB TB TM sv, e = .returned (.tuple #[.pointer (some ⟨PB, 0, none⟩), .int .i64 0]) ∧ Sep w w' (primR PB TB TM nl [] sv 0 [])
set_option maxRecDepth 100000 in
set_option maxHeartbeats 1600000 in
theorem pnew_any (p : Value) (xs : List Int) (w : World) (hp : Pw.Src w p 1 xs.length (xs.map (Value.int .u8))) (hl : xs.length ≤ 1000) :
    Calls Tryz.prog 36 #[.int .u8 1, p] w (PNewP w) := by
  obtain ⟨i0, hi, hz0, hz1, hz2⟩ := info_parts info_u8
  obtain ⟨ap, cp, rfl, -⟩ := id hp
  go_enter Tryz.func36, Tryz.ntmps36
  go_wp2_with (at_builtin; refine wpList_append_src rfl _ _ 22 rfl 5 i0 (.int .u8 0) 1 1 Tryz.underlying22 hi hz0 hz1 hz2 rfl (by decide) (.slice none 0 0) 0 [] rfl (World.ownsRow_nil _ _ _ _) _ xs.length _ rfl hp (by simp [Value.oneCell']) (by unfold maxLen; omega) (by omega) ?_; intro v' w' h1 h2 h3; obtain ⟨a9, c9, rfl⟩ := own_slice h1; have o1 : Only w w' [] := Only.grown h2 (by simp [Value.ownBlock]))
  clear h1 h2 h3
  refine (tnew_any _).mono ?_
  rintro e w2 ⟨TB, TM, rfl, s2⟩
  go_wp2_with (refine wpList_box_new rfl 180 _ rfl (.agg (pb TB (.slice a9 (0 + xs.length) c9) 0).toArray) rfl ?_; intro PB w4 o4 l4 h4)
  have s3 : Sep w w2 (tabR TB TM nl [] []) := ((Sep.nil w).quiet o1).more s2
  have s4 : Sep w _ (blk w2.heap.size (pb TB (.slice a9 xs.length c9) 0) 180 :: tabR TB TM nl [] []) := s3.box (pb TB (.slice a9 xs.length c9) 0) 180
  refine bodyPost_ret (v := .tuple #[.pointer (some ⟨w2.heap.size, 0, none⟩), .int .i64 0]) (by simp [results, Tryz.results36, go_sem]) rfl ?_
  exact ⟨_, TB, TM, _, rfl, s4.sel 5 [1, 2, 3, 4, 0]⟩
def ANewP (w : World) (PB TB : Nat) (e : Ending) (w' : World) : Prop := ∃ AB KB, e = .returned (.pointer (some ⟨AB, 0, none⟩)) ∧ Sep w w' (advR AB PB KB TB nl [] [])
theorem cnew_any (TB : Nat) (w : World) : Calls Tryz.prog 79 #[.pointer (some ⟨TB, 0, none⟩)] w fun e w' => ∃ KB, e = .returned (.pointer (some ⟨KB, 0, none⟩)) ∧ Sep w w' [blk KB [.pointer (some ⟨TB, 0, none⟩), nl] 224] := by
  go_enter Tryz.func79, Tryz.ntmps79
  go_wp2_with fail
  go_ret
  exact ⟨_, rfl, (Sep.nil w).box [.pointer (some ⟨TB, 0, none⟩), nl] 224⟩
theorem anew_any (PB TB : Nat) (sv : Value) (m : Int) (w : World) (h : w.heap[PB]? = some (.cells (pb TB sv m).toArray 180 (0, 0))) :
    Calls Tryz.prog 38 #[.pointer (some ⟨PB, 0, none⟩)] w (ANewP w PB TB) := by
  go_enter Tryz.func38, Tryz.ntmps38
  go_wp2_with fail
  refine (table_any PB TB sv m w h).mono ?_
  rintro e w1 ⟨rfl, rfl⟩
  go_wp2_with fail
  refine (cnew_any TB _).mono ?_
  rintro e w2 ⟨KB, rfl, s2⟩
  go_wp2_with fail
  have s4 := s2.box (ab PB KB) 141
  go_ret
  exact ⟨_, KB, rfl, (s4.rown 4 1).sel 3 [2, 0, 1]⟩

abbrev wb (PB SB : Nat) (dv ov : Value) (NB : Nat) (nw lg : Value) (AB : Nat) (mv : Value) : List Value := [.pointer (some ⟨PB, 0, none⟩), .pointer (some ⟨SB, 0, none⟩), dv, ov, .pointer (some ⟨NB, 0, none⟩), nw, lg, .pointer (some ⟨AB, 0, none⟩), mv]
theorem wb_at {w : World} {WB PB SB NB AB : Nat} {dv ov nw lg mv : Value} (h : w.heap[WB]? = some (.cells (wb PB SB dv ov NB nw lg AB mv).toArray 61 (0, 0))) :
    w.cell? ⟨WB, 0, none⟩ = some (.pointer (some ⟨PB, 0, none⟩)) ∧ w.cell? ⟨WB, 1, none⟩ = some (.pointer (some ⟨SB, 0, none⟩)) ∧ w.cell? ⟨WB, 2, none⟩ = some dv ∧ w.cell? ⟨WB, 3, none⟩ = some ov ∧ w.cell? ⟨WB, 6, none⟩ = some lg ∧ w.cell? ⟨WB, 7, none⟩ = some (.pointer (some ⟨AB, 0, none⟩)) ∧ w.cell? ⟨WB, 8, none⟩ = some mv :=
  ⟨cell_in h 0, cell_in h 1, cell_in h 2, cell_in h 3, cell_in h 6, cell_in h 7, cell_in h 8⟩
def WNewP (lg : Nat) (w : World) (e : Ending) (w' : World) : Prop := ∃ (WB PB TB TM AB KB SB RB BM LM NB : Nat) (sv : Value), e = .returned (.tuple #[.pointer (some ⟨WB, 0, none⟩), .int .i64 0]) ∧
  Sep w w' (primR PB TB TM nl [] sv 0 (advR AB PB KB TB nl [] (srvR SB RB BM LM nl [] [] [] nl [] [blk WB (wb PB SB nl nl NB (.float .f64 0) (.float .f64 lg) AB nl) 61])))
set_option maxRecDepth 100000 in
set_option maxHeartbeats 1600000 in
theorem wnew_any (p : Value) (xs : List Int) (lg : Nat) (w : World) (hp : Pw.Src w p 1 xs.length (xs.map (Value.int .u8))) (hl : xs.length ≤ 1000) :
    Calls Tryz.prog 14 #[.int .u8 1, p, .float .f64 lg] w (WNewP lg w) := by
  go_enter Tryz.func14, Tryz.ntmps14
  go_wp2_with fail
  refine (pnew_any p xs w hp hl).mono ?_
  rintro e w1 ⟨PB, TB, TM, sv, rfl, s1⟩
  go_wp2_with fail
  refine (snew_any w1).mono ?_
  rintro e w2 ⟨SB, RB, BM, LM, rfl, s2⟩
  have s3 : Sep w w2 (srvR SB RB BM LM nl [] [] [] nl [] (primR PB TB TM nl [] sv 0 [])) := s1.more s2
  clear s1 s2
  go_wp2_with (refine wpList_box_new rfl 103 _ rfl (.agg #[nl]) rfl ?_; intro NB wN oN lN bN)
  have s4 := s3.quiet oN
  clear s3 bN oN
  refine (anew_any PB TB sv 0 wN (s4.get 11 rfl)).mono ?_
  rintro e w5 ⟨AB, KB, rfl, s5⟩
  have s6 : Sep w w5 (advR AB PB KB TB nl [] (srvR SB RB BM LM nl [] [] [] nl [] (primR PB TB TM nl [] sv 0 []))) := s4.more s5
  clear s4 s5
  go_wp2_with (refine wpList_box_new rfl 61 _ rfl (.agg (wb PB SB nl nl NB (.float .f64 0) (.float .f64 lg) AB nl).toArray) rfl ?_; intro WB w7 o7 l7 b7)
  have s7 : Sep w w7 (blk WB (wb PB SB nl nl NB (.float .f64 0) (.float .f64 lg) AB nl) 61 :: advR AB PB KB TB nl [] (srvR SB RB BM LM nl [] [] [] nl [] (primR PB TB TM nl [] sv 0 []))) := s6.add o7 b7 (fun k hk => by simp [blk] at hk; omega)
  refine bodyPost_ret (v := .tuple #[.pointer (some ⟨WB, 0, none⟩), .int .i64 0]) (by simp [results, Tryz.results14, go_sem]) rfl ?_
  exact ⟨_, PB, TB, TM, AB, KB, SB, RB, BM, LM, NB, sv, rfl, s7.sel 16 [11, 12, 13, 14, 15, 1, 2, 3, 4, 5, 6, 7, 8, 9, 10, 0]⟩
end Go.Proofs.YtmmhbehlpppdiaaGreatDoor.Wl
namespace Go.Pw
open Go.RowKit
theorem run_buildSlice_any {P : Program} (w : World) (t e : TypeId) (i : TypeInfo) (z : Value) (x : Value) (cs : List Value) (hv : x.cells = cs.toArray) (ht : P.underlying t = some (.slice e)) (hi : P.info? e = some i) (hz : i.zero = some z) (hs : i.size = cs.length) (hzs : z.cells.size = cs.length) (h0 : 0 < cs.length) (hb : cs.length ≤ 1000) :
    (Instr.buildSlice t 1 #[(0, x)]).run P w = .ok (.slice (some ⟨w.heap.size, 0, none⟩) 1 1) (w.alloc (.cells cs.toArray e)) := by
  have hne : ¬ (cs.length = 0) := by omega
  have hb2 : ¬ (16777216 < cs.length) := by omega
  have hfold : Array.foldl (fun (a : Array Value) (x : Value × Nat) => a.setIfInBounds (0 + x.2) x.1) ((Array.range cs.length).map (z.cells[· % z.cells.size]!)) cs.toArray.zipIdx = cs.toArray := by
    rw [← Array.foldl_toList]
    have e1 : cs.toArray.zipIdx.toList = cs.zipIdx 0 := by simp
    rw [e1, foldl_setL, setL_all _ _ (by simp)]
  generalize hzc : z.cells = zc at *
  have hfill : Instr.fill (fun i => some (i * cs.length, cs.length)) ((Array.range cs.length).map (zc[· % zc.size]!)) [(0, x)] = some cs.toArray := by
    simp only [Instr.fill, hv, Nat.zero_mul]
    rw [if_neg (by simp)]
    rw [hfold]
  have hnv : ∀ cells : Array Value, (newRow e cells).run P w = .ok ⟨w.heap.size, 0, none⟩ (w.alloc (.cells cells e)) := fun cells => by simp [newRow, newObj, go_sem]; rfl
  have hzv : (zeroValue e).run P w = .ok z w := by simp [zeroValue, typeInfo, hi, hz]
  have hsz : (sizeOf e).run P w = .ok cs.length w := by simp [sizeOf, typeInfo, hi, hs]
  simp only [Instr.buildSlice, Sem.run_bind, run_underlying ht, Result.andThen_ok, hsz, Nat.one_mul]
  rw [if_neg (by omega), if_neg hne]
  simp only [Sem.run_bind, hzv, Result.andThen_ok, Sem.run_pure, hzc, hfill, hnv]
theorem step_buildSlice_any {P : Program} {ops : Array Oper} {o : Oper} {a : Act} {w : World} {K : Act → World → Prop} {Q : Exit → Act → World → Prop} {E : Prop}
    (hg : o.guard = none) (t : TypeId) (x : Operand) (hop : o.op = .buildSlice t 1 #[(0, x)]) (e : TypeId) (i : TypeInfo) (z : Value) (u : Value) (cs : List Value) (hx : a.eval x = u) (hv : u.cells = cs.toArray)
    (ht : P.underlying t = some (.slice e)) (hi : P.info? e = some i) (hz : i.zero = some z) (hs : i.size = cs.length) (hzs : z.cells.size = cs.length) (h0 : 0 < cs.length) (hb : cs.length ≤ 1000)
    (hK : ∀ X w', Only w w' [] → w.heap.size ≤ X → w'.heap[X]? = some (.cells cs.toArray e (0, 0)) → K (a.put o.dst (.slice (some ⟨X, 0, none⟩) 1 1)) w') :
    if Region.wanted o (yielded ops a.tmps) = true then Oper.wp P o a w K Q else E := by
  have hw : Region.wanted o (yielded ops a.tmps) = true := by simp [Region.wanted, hg]
  rw [if_pos hw]
  unfold Oper.wp execOp
  have hr := run_buildSlice_any (P := P) w t e i z u cs hv ht hi hz hs hzs h0 hb
  simp only [hop, List.map_toArray, List.map_cons, List.map_nil, hx, Sem.run_bind, hr, Result.andThen_ok]
  exact hK _ _ (Only.alloc _ _ _) (Nat.le_refl _) (heap_alloc_new w _)
end Go.Pw
namespace Go.Proofs.YtmmhbehlpppdiaaGreatDoor.Wl
open Go.RowKit Go.Pw

theorem info_mark : (Tryz.prog.info? 52).map (fun i => (i.zero, i.size, i.bytes)) = some (some (.agg #[.int .u8 0, .int .i64 0, .int .i64 0, .int .i64 0, .int .i64 0, .int .u32 0, .int .i64 0, .slice none 0 0, .int .i64 0]), 9, 88) := by kernel_rfl
set_option maxRecDepth 100000 in
set_option maxHeartbeats 1600000 in
theorem mark_any {w0 : World} {rs : List Res} (WB PB SB NB AB : Nat) (dv ov nw lg mv : Value) (nM : Nat) (ms mc : List Value) (w : World) (h : Sep w0 w (blk WB (wb PB SB dv ov NB nw lg AB mv) 61 :: row 52 9 mv nM ms :: rs)) (hn : nM ≤ 1000000) (hmc : mc.length = 9) (hone : ∀ u ∈ mc, u.oneCell' = true) :
    Calls Tryz.prog 23 #[.pointer (some ⟨WB, 0, none⟩), .agg mc.toArray] w fun e w' => e = .returned (.tuple #[]) ∧ ∃ mv', Sep w0 w' (blk WB (wb PB SB dv ov NB nw lg AB mv') 61 :: row 52 9 mv' (nM + 1) (ms ++ mc) :: rs) := by
  obtain ⟨i0, hi, hz0, hz1, hz2⟩ := info_parts info_mark
  obtain ⟨am, cm, rfl⟩ := own_slice (show w.ownsRow 0 52 9 mv nM ms from h.get 1 rfl)
  go_enter Tryz.func23, Tryz.ntmps23
  go_upto_region 1 with (refine wpList_box_new rfl 52 _ rfl (.agg mc.toArray) rfl ?_; intro X wX oX lX bX)
  have sR := (h.quiet oX).quiet (Only.drew wX [])
  have hXn : X ∉ (Value.slice am nM cm).ownBlock.toList := fun hk => by
    have := (row 52 9 (.slice am nM cm) nM ms).lt w (h.get 1 rfl) X hk
    omega
  clear h oX lX
  refine wp_region_u (S := fun w' => w'.heap[WB]? = some (.cells (wb PB SB dv ov NB nw lg AB (.slice am nM cm)).toArray 61 (0, 0)) ∧ w'.heap[X]? = some (.cells mc.toArray 52 (0, 0))) 10 [] (by kernel_rfl) (by kernel_rfl) ⟨sR.get 0 rfl, bX⟩ (fun hZ hHeld => ?_)
  refine' wpAnyU_take (i := 0) (v := _) hZ (op_at' rfl) (by kernel_rfl) (by kernel_rfl) (by kernel_rfl) (by kernel_rfl) (by kernel_rfl) (fun _ _ _ h => h) (Or.inl ⟨by rfl, ?hy1⟩) (by assumption) ?rest1
  case hy1 =>
    intro w' hS
    go_simp
    try with_reducible rfl
  try simp only [Act.put, List.setIfInBounds_toArray, List.set_cons_zero, List.set_cons_succ]
  refine' wpAnyU_take (i := 1) (v := _) hZ (op_at' rfl) (by kernel_rfl) (by kernel_rfl) (by kernel_rfl) (by kernel_rfl) (by kernel_rfl) (fun _ _ _ h => h) (Or.inl ⟨by rfl, ?hy2⟩) (by assumption) ?rest2
  case hy2 =>
    intro w' hS
    go_simp
    try with_reducible rfl
  try simp only [Act.put, List.setIfInBounds_toArray, List.set_cons_zero, List.set_cons_succ]
  refine' wpAnyU_take (i := 2) (v := _) hZ (op_at' rfl) (by kernel_rfl) (by kernel_rfl) (by kernel_rfl) (by kernel_rfl) (by kernel_rfl) (fun _ _ _ h => h) (Or.inl ⟨by rfl, ?hy3⟩) (by assumption) ?rest3
  case hy3 =>
    intro w' hS
    go_simp
    try with_reducible rfl
  try simp only [Act.put, List.setIfInBounds_toArray, List.set_cons_zero, List.set_cons_succ]
  refine' wpAnyU_take (i := 3) (v := _) hZ (op_at' rfl) (by kernel_rfl) (by kernel_rfl) (by kernel_rfl) (by kernel_rfl) (by kernel_rfl) (fun _ _ _ h => h) (Or.inl ⟨by rfl, ?hy4⟩) (by assumption) ?rest4
  case hy4 =>
    intro w' hS
    go_simp
    try with_reducible rfl
  try simp only [Act.put, List.setIfInBounds_toArray, List.set_cons_zero, List.set_cons_succ]
  refine' wpAnyU_take (i := 4) (v := _) hZ (op_at' rfl) (by kernel_rfl) (by kernel_rfl) (by kernel_rfl) (by kernel_rfl) (by kernel_rfl) (fun _ _ _ h => h) (Or.inl ⟨by rfl, ?hy5⟩) (by assumption) ?rest5
  case hy5 =>
    intro w' hS
    obtain ⟨c0, c1, c2, c3, c6, c7, c8⟩ := wb_at hS.1
    go_simp
    try with_reducible rfl
  try simp only [Act.put, List.setIfInBounds_toArray, List.set_cons_zero, List.set_cons_succ]
  refine wpAnyU_take (i := 5) hZ (op_at' rfl) (by kernel_rfl) (by kernel_rfl) (by kernel_rfl) (by kernel_rfl) (by kernel_rfl) (fun _ _ _ h => h) (yieldsIf_load_mid (by rfl) _ _ rfl X 0 rfl (mc) _ (fun w' hS => range_of hS.2) Tryz.underlying52 (by rfl) (by rw [hmc]; kernel_rfl)) (by assumption) ?_
  try simp only [Act.put, List.setIfInBounds_toArray, List.set_cons_zero, List.set_cons_succ]
  refine wpAnyU_one (i := 6) (by kernel_rfl) (op_at' rfl) (fun K hK => ?_)
  refine step_buildSlice_one (by rfl) 48 _ (by rfl) 52 i0 _ mc (by rfl) Tryz.underlying48 hi hz0 (by rw [hz1, hmc]) (by rw [hmc]; rfl) (by rw [hmc]; decide) (by rw [hmc]; decide) (fun Y wd od hYl hY => ?_)
  go_wp2_with fail
  refine hK.out _ _ ⟨od.at hHeld.1 (by simp), od.at hHeld.2 (by simp)⟩ (fun hHeld => ?_)
  clear hK K
  try simp only [Act.put, List.setIfInBounds_toArray, List.set_cons_zero, List.set_cons_succ]
  have sd := (sR.quiet od).sel 2 [1, 0]
  refine wpAnyU_one (i := 7) (by kernel_rfl) (op_at' rfl) (fun K hK => ?_)
  refine step_append_sep (by rfl) (.tmp 8) (.tmp 10) 48 (by rfl) 52 i0 _ 9 88 Tryz.underlying48 hi hz0 hz1 hz2 rfl (by decide) _ nM _ (by rfl) sd _ 1 mc (by rfl) (src_blk hY (by rw [hmc])) hone (by unfold maxLen; omega) (by omega) (fun a7 c7 we oe se => ?_)
  go_wp2_with fail
  refine hK.out _ _ ⟨se.get 1 rfl, oe.at hHeld.2 (hXn)⟩ (fun hHeld => ?_)
  clear hK K
  try simp only [Act.put, List.setIfInBounds_toArray, List.set_cons_zero, List.set_cons_succ]
  refine' wpAnyU_take (i := 8) (v := _) hZ (op_at' rfl) (by kernel_rfl) (by kernel_rfl) (by kernel_rfl) (by kernel_rfl) (by kernel_rfl) (fun _ _ _ h => h) (Or.inl ⟨by rfl, ?hy7⟩) (by assumption) ?rest7
  case hy7 =>
    intro w' hS
    go_simp
    try with_reducible rfl
  try simp only [Act.put, List.setIfInBounds_toArray, List.set_cons_zero, List.set_cons_succ]
  refine' wpAnyU_take (i := 9) (v := _) hZ (op_at' rfl) (by kernel_rfl) (by kernel_rfl) (by kernel_rfl) (by kernel_rfl) (by kernel_rfl) (fun _ _ _ h => h) (Or.inl ⟨by rfl, ?hy8⟩) (by assumption) ?rest8
  case hy8 =>
    intro w' hS
    go_simp
    try with_reducible rfl
  try simp only [Act.put, List.setIfInBounds_toArray, List.set_cons_zero, List.set_cons_succ]
  refine wpAnyU_next (i := 10) (by kernel_rfl) (by simp) (op_at' rfl) (fun K hK => ?_)
  refine step_store_blk (by rfl) 48 _ _ (by rfl) WB 8 (.slice a7 (nM + 1) c7) [.slice a7 (nM + 1) c7] (wb PB SB dv ov NB nw lg AB (.slice am nM cm)) 61 (by rfl) (by rfl) (by rfl) (se.sel 2 [1, 0]) (by simp) (by kernel_rfl) (by simp [Value.oneCell']) (fun wf of sf => ?_)
  go_wp2_with fail
  refine hK.out _ _ ?_
  clear hK K
  try simp only [Act.put, List.setIfInBounds_toArray, List.set_cons_zero, List.set_cons_succ]
  refine wpAnyU_done (by kernel_rfl) ?_ _
  go_wp2_with fail
  refine bodyPost_end (v := .tuple #[]) (by simp [results, Tryz.results23, go_sem]) rfl ?_
  exact ⟨rfl, .slice a7 (nM + 1) c7, sf⟩

theorem devices_any (WB PB SB NB AB : Nat) (dv ov nw lg mv : Value) (n : Nat) (xs : List Value) (w : World) (h : w.heap[WB]? = some (.cells (wb PB SB dv ov NB nw lg AB mv).toArray 61 (0, 0))) (hd : w.ownsRow 0 41 1 dv n xs) :
    Calls Tryz.prog 7 #[.pointer (some ⟨WB, 0, none⟩)] w fun e w' => e = .returned (.int .i64 n) ∧ Only w w' [] := by
  obtain ⟨ad, cd, rfl⟩ := own_slice hd
  obtain ⟨c0, c1, c2, c3, c6, c7, c8⟩ := wb_at h
  go_enter Tryz.func7, Tryz.ntmps7
  go_wp2_with fail
  go_ret
  exact ⟨rfl, Only.refl _ _⟩
theorem server_any (WB PB SB NB AB : Nat) (dv ov nw lg mv : Value) (w : World) (h : w.heap[WB]? = some (.cells (wb PB SB dv ov NB nw lg AB mv).toArray 61 (0, 0))) :
    Calls Tryz.prog 9 #[.pointer (some ⟨WB, 0, none⟩)] w fun e w' => e = .returned (.pointer (some ⟨SB, 0, none⟩)) ∧ Only w w' [] := by
  obtain ⟨c0, c1, c2, c3, c6, c7, c8⟩ := wb_at h
  go_enter Tryz.func9, Tryz.ntmps9
  go_wp2_with fail
  go_ret
  exact ⟨rfl, Only.refl _ _⟩
theorem registry_any (SB RB BM LM : Nat) (lv : Value) (w : World) (h : (blk SB (sb RB BM LM lv) 82).ok w) :
    Calls Tryz.prog 10 #[.pointer (some ⟨SB, 0, none⟩)] w fun e w' => e = .returned (.pointer (some ⟨RB, 0, none⟩)) ∧ Only w w' [] := by
  obtain ⟨c0, c1, c2, c3⟩ := sb_at h
  go_enter Tryz.func10, Tryz.ntmps10
  go_wp2_with fail
  go_ret
  exact ⟨rfl, Only.refl _ _⟩
def devAt (ds : List Nat) (i : Int) : Value := if i < 0 then .pointer none else match ds[i.toNat]? with
  | some D => .pointer (some ⟨D, 0, none⟩)
  | none => .pointer none
def dpL (ds : List Nat) : List Value := ds.map fun D => .pointer (some ⟨D, 0, none⟩)
set_option maxRecDepth 100000 in
set_option maxHeartbeats 1600000 in
theorem device_any (WB PB SB NB AB : Nat) (dv ov nw lg mv : Value) (ds : List Nat) (i : Int) (w : World) (h : w.heap[WB]? = some (.cells (wb PB SB dv ov NB nw lg AB mv).toArray 61 (0, 0))) (hd : (row 41 1 dv ds.length (dpL ds)).ok w) :
    Calls Tryz.prog 12 #[.pointer (some ⟨WB, 0, none⟩), .int .i64 i] w fun e w' => e = .returned (devAt ds i) ∧ Only w w' [] := by
  have hd' : w.ownsRow 0 41 1 dv ds.length (dpL ds) := hd
  obtain ⟨ad, cd, rfl⟩ := own_slice hd'
  by_cases hneg : i < 0
  · have e1 : decide (i < 0) = true := by simpa using hneg
    have e2 : devAt ds i = .pointer none := if_pos hneg
    rw [e2]
    go_enter Tryz.func12, Tryz.ntmps12
    go_wp2_with fail
    go_ret
    exact ⟨rfl, Only.refl _ _⟩
  · obtain ⟨k, rfl⟩ := Int.eq_ofNat_of_zero_le (show 0 ≤ i by omega)
    have e1 : decide ((k : Int) < 0) = false := by simp
    have e3 : devAt ds k = match ds[k]? with
      | some D => .pointer (some ⟨D, 0, none⟩)
      | none => .pointer none := by rw [devAt, if_neg (by omega)]; rfl
    rw [e3]
    clear e3 hneg
    by_cases hk : k < ds.length
    · rw [List.getElem?_eq_getElem hk]
      have e2 : decide ((ds.length : Int) ≤ k) = false := by simpa using hk
      have e4 : (k : Int) < ds.length := by omega
      obtain ⟨g, rfl, _⟩ := own_some hd' (by omega)
      have ck : ∀ w', Only w w' [] → w'.cell? ⟨g, k, none⟩ = some (.pointer (some ⟨ds[k], 0, none⟩)) := fun w' o => by
        have hq : w'.ownsRow 0 41 1 (.slice (some ⟨g, 0, none⟩) ds.length cd) ds.length (dpL ds) := Res.only hd o (by simp)
        rw [hq.cellAt k (by omega), dpL, List.getElem?_map, List.getElem?_eq_getElem hk]
        rfl
      have c2 : ∀ w', Only w w' [] → w'.cell? ⟨WB, 2, none⟩ = _ := fun w' o => (wb_at (o.at h (by simp))).2.2.1
      generalize ds[k] = D at *
      go_enter Tryz.func12, Tryz.ntmps12
      go_wp2_with fail
      refine (devices_any WB PB SB NB AB _ ov nw lg mv ds.length _ w h hd').mono ?_
      rintro e w1 ⟨rfl, o1⟩
      have c2 := c2 _ o1
      have ck := ck _ o1
      go_wp2_with fail
      go_ret
      exact ⟨rfl, o1⟩
    · rw [List.getElem?_eq_none (by omega)]
      have e2 : decide ((ds.length : Int) ≤ k) = true := by simpa using (show (ds.length : Int) ≤ k by omega)
      go_enter Tryz.func12, Tryz.ntmps12
      go_wp2_with fail
      refine (devices_any WB PB SB NB AB _ ov nw lg mv ds.length _ w h hd').mono ?_
      rintro e w1 ⟨rfl, o1⟩
      go_wp2_with fail
      go_ret
      exact ⟨rfl, o1⟩
end Go.Proofs.YtmmhbehlpppdiaaGreatDoor.Wl
