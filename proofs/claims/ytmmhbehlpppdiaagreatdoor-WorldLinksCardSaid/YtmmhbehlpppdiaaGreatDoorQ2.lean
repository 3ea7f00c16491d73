/- WorldLinks, by hand: Tm4, Tm5, Tm6, Pm1, Pm2, Zer, Kn1, Kn2, Kn3. -/
import Derived.Test.YtmmhbehlpppdiaaGreatDoorQ1
import Derived.Laws.CopyOwn
import Derived.Laws.OwnMore
import Derived.IntWalk
import Derived.Test.YtmmhbehlpppdiaaGreatDoorQ0
import Derived.Lib.AppendZerosOnto
set_option linter.all false
namespace Go.Proofs.YtmmhbehlpppdiaaGreatDoor.Wl
open Go.RowKit Go.Pw

theorem free_in {w : World} {b : Nat} {cs : Array Value} {t : TypeId} (h : w.heap[b]? = some (.cells cs t (0, 0))) (i : Nat) : w.frozen? ⟨b, i, none⟩ = false := by simp [World.frozen?, h]
theorem info_int : (Tryz.prog.info? 3).map (fun i => (i.zero, i.size, i.bytes)) = some (some (.int .i64 0), 1, 8) := by kernel_rfl
theorem info_term : (Tryz.prog.info? 296).map (fun i => (i.zero, i.size, i.bytes)) = some (some (.agg (tc tZ).toArray), 4, 56) := by kernel_rfl
theorem iclone_any (p : Value) (xs : List Int) (w : World) (hp : Pw.Src w p 1 xs.length (xs.map (Value.int .i64))) (hl : xs.length ≤ 1000000) :
    Calls Tryz.prog 246 #[p] w (fun e w' => ∃ ao c, e = .returned (.slice ao xs.length c) ∧ Sep w w' [row 3 1 (.slice ao xs.length c) xs.length (xs.map (Value.int .i64))]) := by
  obtain ⟨i0, hi, hz0, hz1, hz2⟩ := info_parts info_int
  obtain ⟨ao, c, rfl, h1, h2, h3, h4, _⟩ := id hp
  have hn := Lib.run_eql_slice_nil (P := Tryz.prog) w 294 3 ao xs.length c 0 0 Tryz.underlying294
  cases ao with
  | none =>
    have h0 := (h4 rfl).1
    obtain rfl : xs = [] := List.eq_nil_of_length_eq_zero h0
    obtain rfl : c = 0 := (h4 rfl).2
    simp only [Option.isNone_none, List.length_nil] at hn ⊢
    clear hp h1 h2 h3 h4 h0 hl
    go_enter Tryz.func246, Tryz.ntmps246
    go_wp2
    go_ret
    exact ⟨_, _, rfl, (Sep.nil w).rown _ _⟩
  | some a =>
    simp only [Option.isNone_some] at hn
    have hs := hp.off (Only.alloc w (.cells #[] 3) []) (fun _ _ _ => by simp)
    have hown : (w.alloc (.cells #[] 3)).ownsRow 0 3 1 (.slice (some ⟨w.heap.size, 0, none⟩) 0 0) 0 [] := World.ownsRow_made w #[] 0 (Nat.zero_le _) (Nat.zero_le _) rfl
    have s0 : Sep w (w.alloc (.cells #[] 3)) [row 3 1 (.slice (some ⟨w.heap.size, 0, none⟩) 0 0) 0 []] := (Sep.nil w).add (Only.alloc w _ []) hown (fun k hk => by simp [row, Value.ownBlock] at hk; omega)
    clear hp hown h1 h2 h3 h4
    go_enter Tryz.func246, Tryz.ntmps246
    go_wp2_with (at_builtin; refine wpList_append_sep rfl _ _ 294 rfl 3 i0 _ 1 8 Tryz.underlying294 hi hz0 hz1 hz2 rfl (by decide) (.slice (some ⟨w.heap.size, 0, none⟩) 0 0) 0 [] rfl s0 _ xs.length _ rfl hs (by simp [Value.oneCell']) (by unfold maxLen; omega) (by omega) ?_; intro a7 c7 w7 o7 s7; simp only [Nat.zero_add, List.nil_append] at s7 ⊢)
    go_ret
    exact ⟨a7, c7, rfl, s7⟩
def PutP (w0 : World) (TB TM : Nat) (n : Nat) (rs : List Res) (e : Ending) (w' : World) : Prop :=
  ∃ (i : Nat) (v' : Value) (l' : List Tm), e = .returned (.int .i64 i) ∧ i < l'.length ∧ n ≤ l'.length ∧ l'.length ≤ n + 1 ∧ Sep w0 w' (tabR TB TM v' l' rs)

set_option maxRecDepth 100000 in
set_option maxHeartbeats 1600000 in
theorem put_any {w0 : World} {rs : List Res} (TB TM : Nat) (v : Value) (l : List Tm) (x : Tm) (w : World) (h : Sep w0 w (tabR TB TM v l rs)) (hI : ItoaOK w0) (hl : l.length ≤ 900000)
    (hs : Pw.Src w x.ov 1 x.os.length (x.os.map (Value.int .i64))) :
    Calls Tryz.prog 177 #[.pointer (some ⟨TB, 0, none⟩), .agg (tc x).toArray] w (PutP w0 TB TM l.length rs) := by
  obtain ⟨i0, hi, hz0, hz1, hz2⟩ := info_parts info_term
  obtain ⟨ao, c, rfl⟩ := own_slice (h.get 0 rfl)
  have hb : w.heap[TB]? = _ := h.get 1 rfl
  have hxl := x.hl
  have g1 : (tc x).toArray[1]? = some x.ov := rfl
  go_enter Tryz.func177, Tryz.ntmps177
  go_upto_region 3 with (refine wpList_box_new rfl 296 _ rfl (.agg (tc x).toArray) rfl ?_; intro X wX oX lX bX)
  have hb3 := oX.at hb (by simp)
  have sX : Sep w0 wX.drew (blk X (tc x) 296 :: tabR TB TM (.slice ao l.length c) l rs) := (h.add oX bX (fun k hk => by simp [blk] at hk; omega)).quiet (Only.drew _ _)
  have hsX := (hs.off oX (fun _ _ _ => by simp)).drew
  refine wp_region_u (S := fun w' => w'.heap[TB]? = some (.cells #[.slice ao l.length c, .map (some TM)] 242 (0, 0)) ∧ w'.heap[X]? = some (.cells (tc x).toArray 296 (0, 0))) 12 [] (by kernel_rfl) (by kernel_rfl) ⟨hb3, bX⟩ (fun hZ hHeld => ?_)
  refine' wpAnyU_take (i := 0) (v := _) hZ (op_at' rfl) (by kernel_rfl) (by kernel_rfl) (by kernel_rfl) (by kernel_rfl) (by kernel_rfl) (fun _ _ _ h => h) (Or.inl ⟨by rfl, ?hy1⟩) (by assumption) ?rest1
  case hy1 =>
    intro w' hS
    go_simp
    try with_reducible rfl
  try simp only [Act.put, List.setIfInBounds_toArray, List.set_cons_zero, List.set_cons_succ]
  refine' wpAnyU_take (i := 1) (v := _) hZ (op_at' rfl) (by kernel_rfl) (by kernel_rfl) (by kernel_rfl) (by kernel_rfl) (by kernel_rfl) (fun _ _ _ h => h) (Or.inl ⟨by rfl, ?hy2⟩) (by assumption) ?rest2
  case hy2 =>
    intro w' hS
    go_simp
    try with_reducible rfl
  try simp only [Act.put, List.setIfInBounds_toArray, List.set_cons_zero, List.set_cons_succ]
  refine' wpAnyU_take (i := 2) (v := _) hZ (op_at' rfl) (by kernel_rfl) (by kernel_rfl) (by kernel_rfl) (by kernel_rfl) (by kernel_rfl) (fun _ _ _ h => h) (Or.inl ⟨by rfl, ?hy3⟩) (by assumption) ?rest3
  case hy3 =>
    intro w' hS
    go_simp
    try with_reducible rfl
  try simp only [Act.put, List.setIfInBounds_toArray, List.set_cons_zero, List.set_cons_succ]
  refine' wpAnyU_take (i := 3) (v := _) hZ (op_at' rfl) (by kernel_rfl) (by kernel_rfl) (by kernel_rfl) (by kernel_rfl) (by kernel_rfl) (fun _ _ _ h => h) (Or.inl ⟨by rfl, ?hy4⟩) (by assumption) ?rest4
  case hy4 =>
    intro w' hS
    have c0 := cell_two0 hS.1
    have c1 := cell_two1 hS.1
    go_simp
    try with_reducible rfl
  try simp only [Act.put, List.setIfInBounds_toArray, List.set_cons_zero, List.set_cons_succ]
  refine wpAnyU_take (i := 4) hZ (op_at' rfl) (by kernel_rfl) (by kernel_rfl) (by kernel_rfl) (by kernel_rfl) (by kernel_rfl) (fun _ _ _ h => h) (yieldsIf_load_mid (by rfl) _ _ rfl X 0 rfl (tc x) _ (fun w' hS => range_of hS.2) Tryz.underlying296 (by rfl) (by kernel_rfl)) (by assumption) ?_
  try simp only [Act.put, List.setIfInBounds_toArray, List.set_cons_zero, List.set_cons_succ]
  refine wpAnyU_one (i := 5) (by kernel_rfl) (op_at' rfl) (fun K hK => ?_)
  go_simp
  refine (name_any x _ (hI.mono sX.only) hsX).mono ?_
  rintro e w3 ⟨⟨s3, rfl⟩, o3⟩
  go_wp2_with fail
  refine hK.out _ _ ⟨o3.at hHeld.1 (by simp), o3.at hHeld.2 (by simp)⟩ (fun hHeld => ?_)
  clear hK K
  try simp only [Act.put, List.setIfInBounds_toArray, List.set_cons_zero, List.set_cons_succ]
  have s4 := sX.quiet o3
  obtain ⟨vv, bb, hlk, hcase⟩ := lookup_T (P := Tryz.prog) (mty := 239) Tryz.underlying239 Tryz.underlying9 (s4.get 3 rfl) ⟨s3, rfl⟩ (z := .int .i64 0) (fun _ => by kernel_rfl)
  refine wpAnyU_one (i := 6) (by kernel_rfl) (op_at' rfl) (fun K hK => ?_)
  go_simp
  go_wp2_with fail
  refine hK.out _ _ hHeld (fun hHeld => ?_)
  clear hK K
  try simp only [Act.put, List.setIfInBounds_toArray, List.set_cons_zero, List.set_cons_succ]
  refine' wpAnyU_take (i := 7) (v := _) hZ (op_at' rfl) (by kernel_rfl) (by kernel_rfl) (by kernel_rfl) (by kernel_rfl) (by kernel_rfl) (fun _ _ _ h => h) (Or.inl ⟨by rfl, ?hy6⟩) (by assumption) ?rest6
  case hy6 =>
    intro w' hS
    go_simp
    try with_reducible rfl
  try simp only [Act.put, List.setIfInBounds_toArray, List.set_cons_zero, List.set_cons_succ]
  refine' wpAnyU_take (i := 8) (v := _) hZ (op_at' rfl) (by kernel_rfl) (by kernel_rfl) (by kernel_rfl) (by kernel_rfl) (by kernel_rfl) (fun _ _ _ h => h) (Or.inl ⟨by rfl, ?hy7⟩) (by assumption) ?rest7
  case hy7 =>
    intro w' hS
    go_simp
    try with_reducible rfl
  try simp only [Act.put, List.setIfInBounds_toArray, List.set_cons_zero, List.set_cons_succ]
  refine' wpAnyU_take (i := 9) (v := _) hZ (op_at' rfl) (by kernel_rfl) (by kernel_rfl) (by kernel_rfl) (by kernel_rfl) (by kernel_rfl) (fun _ _ _ h => h) (Or.inl ⟨by rfl, ?hy8⟩) (by assumption) ?rest8
  case hy8 =>
    intro w' hS
    go_simp
    try with_reducible rfl
  try simp only [Act.put, List.setIfInBounds_toArray, List.set_cons_zero, List.set_cons_succ]
  refine' wpAnyU_take (i := 10) (v := _) hZ (op_at' rfl) (by kernel_rfl) (by kernel_rfl) (by kernel_rfl) (by kernel_rfl) (by kernel_rfl) (fun _ _ _ h => h) (Or.inl ⟨by rfl, ?hy9⟩) (by assumption) ?rest9
  case hy9 =>
    intro w' hS
    go_simp
    try with_reducible rfl
  try simp only [Act.put, List.setIfInBounds_toArray, List.set_cons_zero, List.set_cons_succ]
  refine' wpAnyU_take (i := 11) (v := _) hZ (op_at' rfl) (by kernel_rfl) (by kernel_rfl) (by kernel_rfl) (by kernel_rfl) (by kernel_rfl) (fun _ _ _ h => h) (Or.inl ⟨by rfl, ?hy10⟩) (by assumption) ?rest10
  case hy10 =>
    intro w' hS
    go_simp
    try with_reducible rfl
  try simp only [Act.put, List.setIfInBounds_toArray, List.set_cons_zero, List.set_cons_succ]
  refine wpAnyU_done (by kernel_rfl) ?_ _
  rcases hcase with ⟨rfl, rfl⟩ | ⟨rfl, z, rfl, hz0', hzn⟩
  · have bX4 : w3.heap[X]? = _ := s4.get 0 rfl
    have d1 := cell_in bX4 1
    rw [show (tc x).toArray[1]? = some x.ov from rfl] at d1
    have hb4 : w3.heap[TB]? = _ := s4.get 2 rfl
    have c0 := cell_two0 hb4
    have hs4 := (hsX.off o3 (fun _ _ _ => by simp))
    go_wp2_with fail
    refine (iclone_any _ x.os _ hs4 hxl).mono ?_
    rintro e w5 ⟨ac, cc, rfl, sc5⟩
    have s5 := s4.more sc5
    have bX5 : w5.heap[X]? = _ := s5.get 1 rfl
    have d1' := (cell_in bX5 1).trans g1
    have f1' := free_in bX5 1
    obtain ⟨x2, hx2, hov2, hos2⟩ : ∃ x2 : Tm, tc x2 = (tc x).set 1 (.slice ac x.os.length cc) ∧ x2.ov = .slice ac x.os.length cc ∧ x2.os = x.os := ⟨⟨x.k, .slice ac x.os.length cc, x.os, x.s, x.n, rfl, x.hk, x.hn, x.ho, x.hs, x.hl⟩, rfl, rfl, rfl⟩
    have sP : Sep w0 (w5.setCell ⟨X, 1, none⟩ (.slice ac x.os.length cc)) (blk X (tc x2) 296 :: row 3 1 (.slice ac x.os.length cc) x.os.length (x.os.map (Value.int .i64)) :: tabR TB TM (.slice ao l.length c) l rs) := by
      rw [hx2]
      exact (s5.sel 2 [1, 0]).put 1 _
    clear s5 sc5 s4 hs4 hsX hs h sX
    go_upto_region 7 with fail
    generalize w5.setCell ⟨X, 1, none⟩ (.slice ac x.os.length cc) = wR at *
    have sR := sP.quiet (Only.drew wR [])
    have hN : Pw.Src wR.drew x2.ov 1 x2.os.length (x2.os.map (Value.int .i64)) := by
      have hh : wR.drew.ownsRow 0 3 1 (.slice ac x.os.length cc) x.os.length (x.os.map (Value.int .i64)) := sR.get 1 rfl
      rw [hov2, hos2]
      exact own_src hh
    have HV := Lib.hid hov2
    have HO := Lib.hid hos2
    clear hx2 hov2 hos2
    clear d1 d1' f1' bX5 bX4 hb4 c0 hb3 hb
    refine wp_region_held_drew (S := fun _ => True) (by kernel_rfl) trivial (fun _ => ?_)
    refine' wpAnyH_take (i := 14) (v := _) (op_at rfl) (by kernel_rfl) (by kernel_rfl) (by kernel_rfl) (fun _ _ _ h => h) (Or.inl ⟨by rfl, ?hy11⟩) (by trivial) ?rest11
    case hy11 =>
      intro w' _
      go_simp
      try with_reducible rfl
    try simp only [Act.put, List.setIfInBounds_toArray, List.set_cons_zero, List.set_cons_succ]
    refine wpAnyU_in (S := fun w' => w'.heap[TB]? = some (.cells #[.slice ao l.length c, .map (some TM)] 242 (0, 0)) ∧ w'.heap[X]? = some (.cells (tc x2).toArray 296 (0, 0))) 15 [14] (by kernel_rfl) ⟨sR.get 3 rfl, sR.get 0 rfl⟩ (fun hZ hHeld => ?_)
    refine' wpAnyU_take (i := 0) (v := _) hZ (op_at' rfl) (by kernel_rfl) (by kernel_rfl) (by kernel_rfl) (by kernel_rfl) (by kernel_rfl) (fun _ _ _ h => h) (Or.inl ⟨by rfl, ?hy12⟩) (by assumption) ?rest12
    case hy12 =>
      intro w' hS
      go_simp
      try with_reducible rfl
    try simp only [Act.put, List.setIfInBounds_toArray, List.set_cons_zero, List.set_cons_succ]
    refine' wpAnyU_take (i := 1) (v := _) hZ (op_at' rfl) (by kernel_rfl) (by kernel_rfl) (by kernel_rfl) (by kernel_rfl) (by kernel_rfl) (fun _ _ _ h => h) (Or.inl ⟨by rfl, ?hy13⟩) (by assumption) ?rest13
    case hy13 =>
      intro w' hS
      go_simp
      try with_reducible rfl
    try simp only [Act.put, List.setIfInBounds_toArray, List.set_cons_zero, List.set_cons_succ]
    refine' wpAnyU_take (i := 2) (v := _) hZ (op_at' rfl) (by kernel_rfl) (by kernel_rfl) (by kernel_rfl) (by kernel_rfl) (by kernel_rfl) (fun _ _ _ h => h) (Or.inl ⟨by rfl, ?hy14⟩) (by assumption) ?rest14
    case hy14 =>
      intro w' hS
      go_simp
      try with_reducible rfl
    try simp only [Act.put, List.setIfInBounds_toArray, List.set_cons_zero, List.set_cons_succ]
    refine' wpAnyU_take (i := 3) (v := _) hZ (op_at' rfl) (by kernel_rfl) (by kernel_rfl) (by kernel_rfl) (by kernel_rfl) (by kernel_rfl) (fun _ _ _ h => h) (Or.inl ⟨by rfl, ?hy15⟩) (by assumption) ?rest15
    case hy15 =>
      intro w' hS
      go_simp
      try with_reducible rfl
    try simp only [Act.put, List.setIfInBounds_toArray, List.set_cons_zero, List.set_cons_succ]
    refine' wpAnyU_take (i := 4) (v := _) hZ (op_at' rfl) (by kernel_rfl) (by kernel_rfl) (by kernel_rfl) (by kernel_rfl) (by kernel_rfl) (fun _ _ _ h => h) (Or.inl ⟨by rfl, ?hy16⟩) (by assumption) ?rest16
    case hy16 =>
      intro w' hS
      have c0 := cell_two0 hS.1
      have c1 := cell_two1 hS.1
      go_simp
      try with_reducible rfl
    try simp only [Act.put, List.setIfInBounds_toArray, List.set_cons_zero, List.set_cons_succ]
    refine wpAnyU_take (i := 5) hZ (op_at' rfl) (by kernel_rfl) (by kernel_rfl) (by kernel_rfl) (by kernel_rfl) (by kernel_rfl) (fun _ _ _ h => h) (yieldsIf_load_mid (by rfl) _ _ rfl X 0 rfl (tc x2) _ (fun w' hS => range_of hS.2) Tryz.underlying296 (by rfl) (by kernel_rfl)) (by assumption) ?_
    try simp only [Act.put, List.setIfInBounds_toArray, List.set_cons_zero, List.set_cons_succ]
    refine' wpAnyU_take (i := 7) (v := _) hZ (op_at' rfl) (by kernel_rfl) (by kernel_rfl) (by kernel_rfl) (by kernel_rfl) (by kernel_rfl) (fun _ _ _ h => h) (Or.inl ⟨by rfl, ?hy18⟩) (by assumption) ?rest18
    case hy18 =>
      intro w' hS
      go_simp
      try with_reducible rfl
    try simp only [Act.put, List.setIfInBounds_toArray, List.set_cons_zero, List.set_cons_succ]
    refine' wpAnyU_take (i := 8) (v := _) hZ (op_at' rfl) (by kernel_rfl) (by kernel_rfl) (by kernel_rfl) (by kernel_rfl) (by kernel_rfl) (fun _ _ _ h => h) (Or.inl ⟨by rfl, ?hy19⟩) (by assumption) ?rest19
    case hy19 =>
      intro w' hS
      go_simp
      try with_reducible rfl
    try simp only [Act.put, List.setIfInBounds_toArray, List.set_cons_zero, List.set_cons_succ]
    refine' wpAnyU_take (i := 9) (v := _) hZ (op_at' rfl) (by kernel_rfl) (by kernel_rfl) (by kernel_rfl) (by kernel_rfl) (by kernel_rfl) (fun _ _ _ h => h) (Or.inl ⟨by rfl, ?hy20⟩) (by assumption) ?rest20
    case hy20 =>
      intro w' hS
      go_simp
      try with_reducible rfl
    try simp only [Act.put, List.setIfInBounds_toArray, List.set_cons_zero, List.set_cons_succ]
    refine' wpAnyU_take (i := 10) (v := _) hZ (op_at' rfl) (by kernel_rfl) (by kernel_rfl) (by kernel_rfl) (by kernel_rfl) (by kernel_rfl) (fun _ _ _ h => h) (Or.inl ⟨by rfl, ?hy21⟩) (by assumption) ?rest21
    case hy21 =>
      intro w' hS
      have c0 := cell_two0 hS.1
      have c1 := cell_two1 hS.1
      go_simp
      try with_reducible rfl
    try simp only [Act.put, List.setIfInBounds_toArray, List.set_cons_zero, List.set_cons_succ]
    refine wpAnyU_take (i := 11) hZ (op_at' rfl) (by kernel_rfl) (by kernel_rfl) (by kernel_rfl) (by kernel_rfl) (by kernel_rfl) (fun _ _ _ h => h) (yieldsIf_load_mid (by rfl) _ _ rfl X 0 rfl (tc x2) _ (fun w' hS => range_of hS.2) Tryz.underlying296 (by rfl) (by kernel_rfl)) (by assumption) ?_
    try simp only [Act.put, List.setIfInBounds_toArray, List.set_cons_zero, List.set_cons_succ]
    refine wpAnyU_two (i := 6) (k := 12) (by kernel_rfl) (op_at' rfl) (op_at' rfl) (fun K hK => ?bt23a) (fun K hK => ?bt23b)
    case bt23a =>
      go_simp
      refine (name_any x2 _ (hI.mono sR.only) hN).mono ?_
      rintro e w6 ⟨⟨q6, rfl⟩, o6⟩
      go_wp2_with fail
      refine hK.out _ _ ⟨o6.at hHeld.1 (by simp), o6.at hHeld.2 (by simp)⟩ (fun hHeld => ?_)
      clear hK K
      try simp only [Act.put, List.setIfInBounds_toArray, List.set_cons_zero, List.set_cons_succ]
      have s6 := sR.quiet o6
      refine wpAnyU_one (i := 12) (by kernel_rfl) (op_at' rfl) (fun K hK => ?_)
      refine step_buildSlice_one (by rfl) 240 _ (by rfl) 296 i0 _ (tc x2) (by rfl) Tryz.underlying240 hi hz0 (by rw [hz1, tc_len]) (by rw [tc_len]; rfl) (by rw [tc_len]; decide) (by rw [tc_len]; decide) (fun Y w12 o12 hYl hY => ?_)
      go_wp2_with fail
      refine hK.out _ _ ⟨o12.at hHeld.1 (by simp), o12.at hHeld.2 (by simp)⟩ (fun hHeld => ?_)
      clear hK K
      try simp only [Act.put, List.setIfInBounds_toArray, List.set_cons_zero, List.set_cons_succ]
      have s12 := s6.add (b := blk Y (tc x2) 296) o12 hY (fun k hk => by simp [blk] at hk; omega)
      refine wpAnyU_one (i := 13) (by kernel_rfl) (op_at' rfl) (fun K hK => ?_)
      have sa : Sep w0 _ (row 296 4 (.slice ao l.length c) l.length (fl tc l) :: blk Y (tc x2) 296 :: blk X (tc x2) 296 :: row 3 1 (.slice ac x.os.length cc) x.os.length (x.os.map (Value.int .i64)) :: blk TB [.slice ao l.length c, .map (some TM)] 242 :: mapT TM l.length :: many (l.map ofR) :: rs) := s12.sel 7 [3, 0, 1, 2, 4, 5, 6]
      refine step_append_sep (by rfl) (.tmp 40) (.tmp 42) 240 (by rfl) 296 i0 _ 4 56 Tryz.underlying240 hi hz0 hz1 hz2 rfl (by decide) _ l.length _ (by rfl) sa _ 1 (tc x2) (by rfl) (src_blk (show _ = _ from sa.tail.head) (tc_len x2)) (tc_one _) (by unfold maxLen; omega) (by omega) (fun a13 c13 w13 o13 s13 => ?_)
      go_wp2_with fail
      refine hK.out _ _ ⟨s13.get 4 rfl, s13.get 2 rfl⟩ (fun hHeld => ?_)
      clear hK K
      try simp only [Act.put, List.setIfInBounds_toArray, List.set_cons_zero, List.set_cons_succ]
      refine wpAnyU_next (i := 15) (by kernel_rfl) (by simp) (op_at' rfl) (fun K hK => ?_)
      go_simp
      go_wp2_with fail
      refine hK.out _ _ ?_
      clear hK K
      try simp only [Act.put, List.setIfInBounds_toArray, List.set_cons_zero, List.set_cons_succ]
      refine wpAnyU_next (i := 16) (by kernel_rfl) (by simp) (op_at' rfl) (fun K hK => ?_)
      go_simp
      go_wp2_with fail
      refine hK.out _ _ ?_
      clear hK K
      try simp only [Act.put, List.setIfInBounds_toArray, List.set_cons_zero, List.set_cons_succ]
      refine wpAnyU_next (i := 17) (by kernel_rfl) (by simp) (op_at' rfl) (fun K hK => ?_)
      refine step_store_blk (by rfl) 240 _ _ (by rfl) TB 0 (.slice a13 (l.length + 1) c13) [.slice a13 (l.length + 1) c13] [.slice ao l.length c, .map (some TM)] 242 (by rfl) (by rfl) (by rfl) (s13.sel 7 [4, 0, 1, 2, 3, 5, 6]) (by simp) (by kernel_rfl) (by simp [Value.oneCell']) (fun w17 o17 s17 => ?_)
      go_wp2_with fail
      refine hK.out _ _ ?_
      clear hK K
      try simp only [Act.put, List.setIfInBounds_toArray, List.set_cons_zero, List.set_cons_succ]
      refine wpAnyU_next (i := 18) (by kernel_rfl) (by simp) (op_at' rfl) (fun K hK => ?_)
      have s18 : Sep w0 w17 (mapT TM (l.length + 1) :: _) := (s17.sel 7 [5, 0, 1, 2, 3, 4, 6]).step (b := mapT TM (l.length + 1)) (L := []) (Only.refl _ _) (by simp) (mapT_mono (Nat.le_succ _) (s17.get 5 rfl)) (fun k hk => .inl hk)
      obtain ⟨ev, es, w18, hrun, o18, m18, hst⟩ := entry_T (P := Tryz.prog) (mty := 239) Tryz.underlying239 Tryz.underlying9 s18.head (by omega) (key := .string q6) ⟨q6, rfl⟩ (fun _ => by kernel_rfl)
      go_simp
      go_wp2_with fail
      refine hK.out _ _ ?_
      clear hK K
      try simp only [Act.put, List.setIfInBounds_toArray, List.set_cons_zero, List.set_cons_succ]
      refine wpAnyU_next (i := 19) (by kernel_rfl) (by simp) (op_at' rfl) (fun K hK => ?_)
      go_simp
      go_wp2_with fail
      refine hK.out _ _ ?_
      clear hK K
      try simp only [Act.put, List.setIfInBounds_toArray, List.set_cons_zero, List.set_cons_succ]
      refine wpAnyU_next (i := 20) (by kernel_rfl) (by simp) (op_at' rfl) (fun K hK => ?_)
      obtain ⟨w20, hrun20, o20, m20⟩ := hst w18 (.int .i64 l.length) rfl ⟨l.length, rfl, by omega, by omega⟩
      go_simp
      go_wp2_with fail
      refine hK.out _ _ ?_
      clear hK K
      try simp only [Act.put, List.setIfInBounds_toArray, List.set_cons_zero, List.set_cons_succ]
      refine wpAnyU_done (by kernel_rfl) ?_ _
      have s20 := (s18.step (b := mapT TM (l.length + 1)) (L := [TM]) o18 (fun k hk => .inl hk) m18 (fun k hk => .inl hk)).step (b := mapT TM (l.length + 1)) (L := [TM]) o20 (fun k hk => .inl hk) m20 (fun k hk => .inl hk)
      have s21 := ((s20.sel 7 [6, 5, 2, 1, 0]).many_snoc).sel 4 [1, 2, 3, 0]
      go_wp2_with fail
      go_ret
      refine ⟨l.length, .slice a13 (l.length + 1) c13, l ++ [x2], rfl, by simp, by simp, by simp, ?_⟩
      rw [tabR, fl_snoc, List.map_append, List.length_append, List.map_singleton, show ofR x2 = row 3 1 (.slice ac x.os.length cc) x.os.length (x.os.map (Value.int .i64)) by simp only [ofR, HV.out, HO.out]]
      exact s21
    case bt23b =>
      refine step_buildSlice_one (by rfl) 240 _ (by rfl) 296 i0 _ (tc x2) (by rfl) Tryz.underlying240 hi hz0 (by rw [hz1, tc_len]) (by rw [tc_len]; rfl) (by rw [tc_len]; decide) (by rw [tc_len]; decide) (fun Y w12 o12 hYl hY => ?_)
      go_wp2_with fail
      refine hK.out _ _ ⟨o12.at hHeld.1 (by simp), o12.at hHeld.2 (by simp)⟩ (fun hHeld => ?_)
      clear hK K
      try simp only [Act.put, List.setIfInBounds_toArray, List.set_cons_zero, List.set_cons_succ]
      have s12 := sR.add (b := blk Y (tc x2) 296) o12 hY (fun k hk => by simp [blk] at hk; omega)
      have hN := hN.off o12 (fun _ _ _ => by simp)
      refine wpAnyU_one (i := 6) (by kernel_rfl) (op_at' rfl) (fun K hK => ?_)
      go_simp
      refine (name_any x2 _ (hI.mono s12.only) hN).mono ?_
      rintro e w6 ⟨⟨q6, rfl⟩, o6⟩
      go_wp2_with fail
      refine hK.out _ _ ⟨o6.at hHeld.1 (by simp), o6.at hHeld.2 (by simp)⟩ (fun hHeld => ?_)
      clear hK K
      try simp only [Act.put, List.setIfInBounds_toArray, List.set_cons_zero, List.set_cons_succ]
      have s6 := s12.quiet o6
      have hY := o6.at hY (by simp)
      refine wpAnyU_one (i := 13) (by kernel_rfl) (op_at' rfl) (fun K hK => ?_)
      have sa : Sep w0 _ (row 296 4 (.slice ao l.length c) l.length (fl tc l) :: blk Y (tc x2) 296 :: blk X (tc x2) 296 :: row 3 1 (.slice ac x.os.length cc) x.os.length (x.os.map (Value.int .i64)) :: blk TB [.slice ao l.length c, .map (some TM)] 242 :: mapT TM l.length :: many (l.map ofR) :: rs) := s6.sel 7 [3, 0, 1, 2, 4, 5, 6]
      refine step_append_sep (by rfl) (.tmp 40) (.tmp 42) 240 (by rfl) 296 i0 _ 4 56 Tryz.underlying240 hi hz0 hz1 hz2 rfl (by decide) _ l.length _ (by rfl) sa _ 1 (tc x2) (by rfl) (src_blk (show _ = _ from sa.tail.head) (tc_len x2)) (tc_one _) (by unfold maxLen; omega) (by omega) (fun a13 c13 w13 o13 s13 => ?_)
      go_wp2_with fail
      refine hK.out _ _ ⟨s13.get 4 rfl, s13.get 2 rfl⟩ (fun hHeld => ?_)
      clear hK K
      try simp only [Act.put, List.setIfInBounds_toArray, List.set_cons_zero, List.set_cons_succ]
      refine wpAnyU_next (i := 15) (by kernel_rfl) (by simp) (op_at' rfl) (fun K hK => ?_)
      go_simp
      go_wp2_with fail
      refine hK.out _ _ ?_
      clear hK K
      try simp only [Act.put, List.setIfInBounds_toArray, List.set_cons_zero, List.set_cons_succ]
      refine wpAnyU_next (i := 16) (by kernel_rfl) (by simp) (op_at' rfl) (fun K hK => ?_)
      go_simp
      go_wp2_with fail
      refine hK.out _ _ ?_
      clear hK K
      try simp only [Act.put, List.setIfInBounds_toArray, List.set_cons_zero, List.set_cons_succ]
      refine wpAnyU_next (i := 17) (by kernel_rfl) (by simp) (op_at' rfl) (fun K hK => ?_)
      refine step_store_blk (by rfl) 240 _ _ (by rfl) TB 0 (.slice a13 (l.length + 1) c13) [.slice a13 (l.length + 1) c13] [.slice ao l.length c, .map (some TM)] 242 (by rfl) (by rfl) (by rfl) (s13.sel 7 [4, 0, 1, 2, 3, 5, 6]) (by simp) (by kernel_rfl) (by simp [Value.oneCell']) (fun w17 o17 s17 => ?_)
      go_wp2_with fail
      refine hK.out _ _ ?_
      clear hK K
      try simp only [Act.put, List.setIfInBounds_toArray, List.set_cons_zero, List.set_cons_succ]
      refine wpAnyU_next (i := 18) (by kernel_rfl) (by simp) (op_at' rfl) (fun K hK => ?_)
      have s18 : Sep w0 w17 (mapT TM (l.length + 1) :: _) := (s17.sel 7 [5, 0, 1, 2, 3, 4, 6]).step (b := mapT TM (l.length + 1)) (L := []) (Only.refl _ _) (by simp) (mapT_mono (Nat.le_succ _) (s17.get 5 rfl)) (fun k hk => .inl hk)
      obtain ⟨ev, es, w18, hrun, o18, m18, hst⟩ := entry_T (P := Tryz.prog) (mty := 239) Tryz.underlying239 Tryz.underlying9 s18.head (by omega) (key := .string q6) ⟨q6, rfl⟩ (fun _ => by kernel_rfl)
      go_simp
      go_wp2_with fail
      refine hK.out _ _ ?_
      clear hK K
      try simp only [Act.put, List.setIfInBounds_toArray, List.set_cons_zero, List.set_cons_succ]
      refine wpAnyU_next (i := 19) (by kernel_rfl) (by simp) (op_at' rfl) (fun K hK => ?_)
      go_simp
      go_wp2_with fail
      refine hK.out _ _ ?_
      clear hK K
      try simp only [Act.put, List.setIfInBounds_toArray, List.set_cons_zero, List.set_cons_succ]
      refine wpAnyU_next (i := 20) (by kernel_rfl) (by simp) (op_at' rfl) (fun K hK => ?_)
      obtain ⟨w20, hrun20, o20, m20⟩ := hst w18 (.int .i64 l.length) rfl ⟨l.length, rfl, by omega, by omega⟩
      go_simp
      go_wp2_with fail
      refine hK.out _ _ ?_
      clear hK K
      try simp only [Act.put, List.setIfInBounds_toArray, List.set_cons_zero, List.set_cons_succ]
      refine wpAnyU_done (by kernel_rfl) ?_ _
      have s20 := (s18.step (b := mapT TM (l.length + 1)) (L := [TM]) o18 (fun k hk => .inl hk) m18 (fun k hk => .inl hk)).step (b := mapT TM (l.length + 1)) (L := [TM]) o20 (fun k hk => .inl hk) m20 (fun k hk => .inl hk)
      have s21 := ((s20.sel 7 [6, 5, 2, 1, 0]).many_snoc).sel 4 [1, 2, 3, 0]
      go_wp2_with fail
      go_ret
      refine ⟨l.length, .slice a13 (l.length + 1) c13, l ++ [x2], rfl, by simp, by simp, by simp, ?_⟩
      rw [tabR, fl_snoc, List.map_append, List.length_append, List.map_singleton, show ofR x2 = row 3 1 (.slice ac x.os.length cc) x.os.length (x.os.map (Value.int .i64)) by simp only [ofR, HV.out, HO.out]]
      exact s21
  · go_wp2_with fail
    go_ret
    obtain ⟨i, rfl⟩ := Int.eq_ofNat_of_zero_le hz0'
    exact ⟨i, _, l, rfl, by omega, Nat.le_refl _, Nat.le_succ _, s4.tail⟩
end Go.Proofs.YtmmhbehlpppdiaaGreatDoor.Wl
namespace Go.Proofs.YtmmhbehlpppdiaaGreatDoor.Wl
open Go.RowKit Go.Pw

theorem or_nn (a b : Int) : 0 ≤ bits .or .u64 a b := by
  unfold bits
  simp only [IntKind.wrap_u64]
  omega
def PlaceP (n : Nat) (w : World) (e : Ending) (w' : World) : Prop := ∃ (i : Nat) (b : Bool), e = .returned (.tuple #[.int .i64 i, .bool b]) ∧ (b = true → i < n) ∧ Only w w' []
set_option maxRecDepth 100000 in
set_option maxHeartbeats 1600000 in
theorem place_any {w0 : World} {rs : List Res} (TB TM : Nat) (v : Value) (l : List Tm) (p : Value) (xs : List Int) (w : World) (h : Sep w0 w (tabR TB TM v l rs)) (hl : l.length ≤ 900000)
    (hp : Pw.Src w p 1 xs.length (xs.map (Value.int .u8))) (hb : Byt xs) (hxl : xs.length ≤ 1000000) :
    Calls Tryz.prog 187 #[.pointer (some ⟨TB, 0, none⟩), p] w (PlaceP l.length w) := by
  obtain ⟨ao, c, rfl, hlc, hcm, _⟩ := id hp
  by_cases h32 : xs.length < 32
  · have d1 : decide ((xs.length : Int) < 32) = true := by simpa using (show (xs.length : Int) < 32 by omega)
    go_enter Tryz.func187, Tryz.ntmps187
    go_wp2_with fail
    refine bodyPost_ret (v := .tuple #[.int .i64 0, .bool false]) (by simp [results, Tryz.results187, go_sem]) rfl ?_
    exact ⟨0, false, rfl, by simp, Only.refl _ _⟩
  · obtain ⟨b, o, rfl, hc⟩ := src_new hp (show 0 < xs.length by omega)
    have hcx : ∀ w', Only w w' [] → ∀ j (hj : j < xs.length), w'.cell? ⟨b, o + j, none⟩ = some (.int .u8 xs[j]) := fun w' ho j hj => hc w' ho j _ (by simp [hj])
    have c0 := hcx w (Only.refl _ _) 0 (by omega)
    rw [Nat.add_zero] at c0
    have d1 : decide ((xs.length : Int) < 32) = false := by simpa using (show ¬ (xs.length : Int) < 32 by omega)
    have d0 : (0 : Int) < (xs.length : Int) := by omega
    generalize xs[0] = x0 at *
    by_cases hT : x0 = 84
    · subst hT
      go_enter Tryz.func187, Tryz.ntmps187
      go_wp2_with fail
      go_loopw [6, 19] (fun x y wr => ∃ (z : Int) (k : Nat), x = .int .u64 z ∧ 0 ≤ z ∧ y = .int .i64 k ∧ k ≤ 8 ∧ Only w wr []) (fun _ y _ => 8 - (intOf y).toNat)
      case atStart => exact ⟨0, 0, rfl, by decide, rfl, by decide, Only.refl _ _⟩
      case round =>
        obtain ⟨z, k, rfl, hz, rfl, hk, ho⟩ := hrel
        by_cases hk8 : k < 8
        · have e1 : decide ((k : Int) < 8) = true := by simpa using (show (k : Int) < 8 by omega)
          have e2 : IntKind.i64.wrap (1 + (k : Int)) = ((1 + k : Nat) : Int) := by rw [IntWalk.i64_in _ (by omega)]; omega
          have e3 : (1 : Int) + k < xs.length := by omega
          have ck := hcx wr ho (1 + k) (by omega)
          generalize xs[1 + k] = xk at *
          go_wp2_with fail
          exact ⟨⟨_, k + 1, rfl, or_nn _ _, by simp, by omega, ho⟩, by simp [intOf]; omega⟩
        · obtain rfl : k = 8 := by omega
          have e1 : decide (((8 : Nat) : Int) < 8) = false := by simp
          go_wp2_with fail
          go_loopw [37] (fun y wr2 => ∃ (k : Nat), y = .int .i64 k ∧ k ≤ xs.length - 9 ∧ Only w wr2 []) (fun y _ => (xs.length - 9) - (intOf y).toNat)
          case atStart => exact ⟨0, rfl, Nat.zero_le _, ho⟩
          case round =>
            obtain ⟨k, rfl, hk9, ho2⟩ := hrel
            by_cases hkl : k < xs.length - 9
            · have e3 : decide ((k : Int) < ((xs.length - 9 : Nat) : Int)) = true := by simpa using hkl
              have ck : wr.cell? ⟨b, o + 9 + k, none⟩ = some (.int .u8 (xs[9 + k]'(by omega))) := by
                rw [Nat.add_assoc]
                exact hcx wr ho2 (9 + k) (by omega)
              generalize xs[9 + k]'(by omega) = xk at *
              go_wp2_with fail
              all_goals first
                | exact ⟨⟨k + 1, by simp, by omega, ho2⟩, by simp [intOf]; omega⟩
                | (refine bodyPost_ret (v := .tuple #[.int .i64 0, .bool false]) (by simp [results, Tryz.results187, go_sem]) rfl ?_; exact ⟨0, false, rfl, by simp, ho2⟩)
            · obtain rfl : k = xs.length - 9 := by omega
              have e3 : decide (((xs.length - 9 : Nat) : Int) < ((xs.length - 9 : Nat) : Int)) = false := by simp
              go_wp2_with fail
              refine (len_any TB TM v l _ (h.quiet ho2)).mono ?_
              rintro e w5 ⟨rfl, o5⟩
              obtain ⟨zn, rfl⟩ := Int.eq_ofNat_of_zero_le hz
              by_cases hzl : l.length ≤ zn
              · have e4 : decide ((l.length : Int) ≤ (zn : Int)) = true := by simpa using hzl
                go_wp2_with fail
                refine bodyPost_ret (v := .tuple #[.int .i64 0, .bool false]) (by simp [results, Tryz.results187, go_sem]) rfl ?_
                exact ⟨0, false, rfl, by simp, ho2.trans o5⟩
              · have e4 : decide ((l.length : Int) ≤ (zn : Int)) = false := by simpa using hzl
                go_wp2_with fail
                refine bodyPost_ret (v := .tuple #[.int .i64 zn, .bool true]) (by simp [results, Tryz.results187, go_sem]) rfl ?_
                exact ⟨zn, true, rfl, by simp; omega, ho2.trans o5⟩
    · have dT : decide (x0 ≠ 84) = true := by simpa using hT
      go_enter Tryz.func187, Tryz.ntmps187
      go_wp2_with fail
      all_goals first
        | (refine bodyPost_ret (v := .tuple #[.int .i64 0, .bool false]) (by simp [results, Tryz.results187, go_sem]) rfl ?_; exact ⟨0, false, rfl, by simp, Only.refl _ _⟩)
        | trace_state
end Go.Proofs.YtmmhbehlpppdiaaGreatDoor.Wl
namespace Go.Proofs.YtmmhbehlpppdiaaGreatDoor.Wl
open Go.RowKit Go.Pw

theorem str_size (xs : List Int) : (strOfNums xs).size = xs.length := by simp [strOfNums, ByteArray.size]
theorem src_nil {w : World} {size : Nat} : Pw.Src w (.slice none 0 0) size 0 [] := ⟨none, 0, rfl, Nat.le_refl _, Nat.zero_le _, by simp, by simp, by simp⟩

set_option maxRecDepth 100000 in
set_option maxHeartbeats 1600000 in
theorem tread_any {w0 : World} {rs : List Res} (TB TM : Nat) (v : Value) (l : List Tm) (p : Value) (xs : List Int) (w : World) (h : Sep w0 w (tabR TB TM v l rs)) (hI : ItoaOK w0) (hl : l.length ≤ 900000)
    (hp : Pw.Src w p 1 xs.length (xs.map (Value.int .u8))) (hb : Byt xs) (hxl : xs.length ≤ 1000000) :
    Calls Tryz.prog 115 #[.pointer (some ⟨TB, 0, none⟩), p] w (PutP w0 TB TM l.length rs) := by
  obtain ⟨ao, c, rfl, _⟩ := id hp
  go_enter Tryz.func115, Tryz.ntmps115
  go_wp2_with fail
  refine (place_any TB TM v l _ xs _ h hl hp hb hxl).mono ?_
  rintro e w1 ⟨i, b, rfl, hi, o1⟩
  have h1 := h.quiet o1
  have hst := run_str (P := Tryz.prog) (S := 22) (T := 9) Tryz.underlying22 Tryz.underlying5 Tryz.underlying9 (hp.off o1 (fun _ _ _ => by simp)) rfl
  cases b with
  | true =>
    go_wp2_with fail
    go_ret
    exact ⟨i, v, l, rfl, hi trivial, Nat.le_refl _, Nat.le_succ _, h1⟩
  | false =>
    go_wp2_with fail
    have hz : (strOfNums xs).size ≤ 1000000 := by rw [str_size]; exact hxl
    refine (put_any TB TM v l ⟨2, .slice none 0 0, [], strOfNums xs, 0, rfl, by decide, by decide, by simp, hz, by decide⟩ _ h1 hI hl src_nil).mono ?_
    rintro e w2 ⟨j, v', l', rfl, q1, q2, q3, q4⟩
    go_wp2_with fail
    go_ret
    exact ⟨j, v', l', rfl, q1, q2, q3, q4⟩
end Go.Proofs.YtmmhbehlpppdiaaGreatDoor.Wl
namespace Go.Proofs.YtmmhbehlpppdiaaGreatDoor.Wl
open Go.RowKit Go.Pw

abbrev pb (TB : Nat) (sv : Value) (m : Int) : List Value := [.int .u8 1, sv, .int .i64 m, .pointer (some ⟨TB, 0, none⟩)]
abbrev primR (PB TB TM : Nat) (v : Value) (l : List Tm) (sv : Value) (m : Int) (rs : List Res) : List Res := tabR TB TM v l (blk PB (pb TB sv m) 180 :: rs)
theorem pb_at {w : World} {PB TB : Nat} {sv : Value} {m : Int} (h : w.heap[PB]? = some (.cells (pb TB sv m).toArray 180 (0, 0))) :
    w.cell? ⟨PB, 0, none⟩ = some (.int .u8 1) ∧ w.cell? ⟨PB, 1, none⟩ = some sv ∧ w.cell? ⟨PB, 2, none⟩ = some (.int .i64 m) ∧ w.cell? ⟨PB, 3, none⟩ = some (.pointer (some ⟨TB, 0, none⟩)) :=
  ⟨cell_in h 0, cell_in h 1, cell_in h 2, cell_in h 3⟩
def PrP (w0 : World) (PB TB TM : Nat) (k : Nat) (m : Int) (sv : Value) (c : Nat) (d : Int) (R : Value → List Res) (e : Ending) (w' : World) : Prop :=
  ∃ (r v' : Value) (l' : List Tm) (m' : Int), e = .returned r ∧ k ≤ l'.length ∧ l'.length ≤ k + c ∧ m ≤ m' ∧ m' ≤ m + d ∧ Sep w0 w' (primR PB TB TM v' l' sv m' (R r))
theorem by_src {w : World} {p : Value} {n : Nat} (h : (byR p n).ok w) : ∃ xs : List Int, xs.length = n ∧ Byt xs ∧ Pw.Src w p 1 xs.length (xs.map (Value.int .u8)) := by
  obtain ⟨xs, ⟨h1, h2⟩, h3⟩ := h
  exact ⟨xs, h1, h2, by rw [h1]; exact own_src h3⟩

theorem table_any (PB TB : Nat) (sv : Value) (m : Int) (w : World) (h : w.heap[PB]? = some (.cells (pb TB sv m).toArray 180 (0, 0))) :
    Calls Tryz.prog 80 #[.pointer (some ⟨PB, 0, none⟩)] w fun e w' => e = .returned (.pointer (some ⟨TB, 0, none⟩)) ∧ w' = w := by
  obtain ⟨c0, c1, c2, c3⟩ := pb_at h
  go_enter Tryz.func80, Tryz.ntmps80
  go_wp2_with fail
  go_ret
  exact ⟨rfl, rfl⟩

set_option maxRecDepth 100000 in
set_option maxHeartbeats 800000 in
theorem pread_any {w0 : World} {rs : List Res} (PB TB TM : Nat) (v : Value) (l : List Tm) (sv : Value) (m : Int) (p : Value) (n : Nat) (w : World) (h : Sep w0 w (primR PB TB TM v l sv m rs)) (hI : ItoaOK w0) (hl : l.length ≤ 900000)
    (hp : (byR p n).ok w) (hn : n ≤ 1000000) :
    Calls Tryz.prog 180 #[.pointer (some ⟨PB, 0, none⟩), p] w (PutP w0 TB TM l.length (blk PB (pb TB sv m) 180 :: rs)) := by
  obtain ⟨c0, c1, c2, c3⟩ := pb_at (show w.heap[PB]? = _ from h.get 4 rfl)
  obtain ⟨xs, h1, h2, h3⟩ := by_src hp
  go_enter Tryz.func180, Tryz.ntmps180
  go_wp2_with fail
  refine (tread_any TB TM v l p xs _ h hI hl h3 h2 (by omega)).mono ?_
  rintro e w1 ⟨i, v1, l1, rfl, q1, q2, q3, q4⟩
  go_wp2_with fail
  go_ret
  exact ⟨i, v1, l1, rfl, q1, q2, q3, q4⟩

set_option maxRecDepth 100000 in
set_option maxHeartbeats 1600000 in
theorem fresh_any {w0 : World} {rs : List Res} (PB TB TM : Nat) (v : Value) (l : List Tm) (sv : Value) (m : Int) (w : World) (h : Sep w0 w (primR PB TB TM v l sv m rs)) (hI : ItoaOK w0) (hl : l.length ≤ 900000) (hm : 0 ≤ m ∧ m ≤ 1000000) :
    Calls Tryz.prog 107 #[.pointer (some ⟨PB, 0, none⟩)] w (PrP w0 PB TB TM l.length m sv 1 1 fun r => byR r 32 :: rs) := by
  have hb : w.heap[PB]? = _ := h.get 4 rfl
  obtain ⟨c0, c1, c2, c3⟩ := pb_at hb
  have f2 := free_in hb 2
  have e1 : IntKind.i64.wrap (m + 1) = m + 1 := IntWalk.i64_in _ (by omega)
  have hP : Sep w0 (w.setCell ⟨PB, 2, none⟩ (.int .i64 (m + 1))) (blk PB (pb TB sv (m + 1)) 180 :: tabR TB TM v l rs) := (h.sel 5 [4, 0, 1, 2, 3]).put 2 _
  have hQ : Sep w0 (w.setCell ⟨PB, 2, none⟩ (.int .i64 (m + 1))) (primR PB TB TM v l sv (m + 1) rs) := hP.sel 5 [1, 2, 3, 4, 0]
  clear hP h
  go_enter Tryz.func107, Tryz.ntmps107
  go_upto_region 12 with fail
  generalize w.setCell ⟨PB, 2, none⟩ (.int .i64 (m + 1)) = wR at *
  have sR := hQ.quiet (Only.drew wR [])
  clear hQ hb c0 c1 c2 c3 f2 e1
  refine wp_region_u (S := fun w' => w'.heap[PB]? = some (.cells (pb TB sv (m + 1)).toArray 180 (0, 0))) 12 [] (by kernel_rfl) (by kernel_rfl) (sR.get 4 rfl) (fun hZ hHeld => ?_)
  refine' wpAnyU_take (i := 0) (v := _) hZ (op_at' rfl) (by kernel_rfl) (by kernel_rfl) (by kernel_rfl) (by kernel_rfl) (by kernel_rfl) (fun _ _ _ h => h) (Or.inl ⟨by rfl, ?hy1⟩) (by assumption) ?rest1
  case hy1 =>
    intro w' hS
    go_simp
    try with_reducible rfl
  try simp only [Act.put, List.setIfInBounds_toArray, List.set_cons_zero, List.set_cons_succ]
  refine' wpAnyU_take (i := 1) (v := _) hZ (op_at' rfl) (by kernel_rfl) (by kernel_rfl) (by kernel_rfl) (by kernel_rfl) (by kernel_rfl) (fun _ _ _ h => h) (Or.inl ⟨by rfl, ?hy2⟩) (by assumption) ?rest2
  case hy2 =>
    intro w' hS
    go_simp
    try with_reducible rfl
  try simp only [Act.put, List.setIfInBounds_toArray, List.set_cons_zero, List.set_cons_succ]
  refine' wpAnyU_take (i := 2) (v := _) hZ (op_at' rfl) (by kernel_rfl) (by kernel_rfl) (by kernel_rfl) (by kernel_rfl) (by kernel_rfl) (fun _ _ _ h => h) (Or.inl ⟨by rfl, ?hy3⟩) (by assumption) ?rest3
  case hy3 =>
    intro w' hS
    go_simp
    try with_reducible rfl
  try simp only [Act.put, List.setIfInBounds_toArray, List.set_cons_zero, List.set_cons_succ]
  refine' wpAnyU_take (i := 3) (v := _) hZ (op_at' rfl) (by kernel_rfl) (by kernel_rfl) (by kernel_rfl) (by kernel_rfl) (by kernel_rfl) (fun _ _ _ h => h) (Or.inl ⟨by rfl, ?hy4⟩) (by assumption) ?rest4
  case hy4 =>
    intro w' hS
    obtain ⟨c0, c1, c2, c3⟩ := pb_at hS
    go_simp
    try with_reducible rfl
  try simp only [Act.put, List.setIfInBounds_toArray, List.set_cons_zero, List.set_cons_succ]
  refine' wpAnyU_take (i := 4) (v := _) hZ (op_at' rfl) (by kernel_rfl) (by kernel_rfl) (by kernel_rfl) (by kernel_rfl) (by kernel_rfl) (fun _ _ _ h => h) (Or.inl ⟨by rfl, ?hy5⟩) (by assumption) ?rest5
  case hy5 =>
    intro w' hS
    go_simp
    try with_reducible rfl
  try simp only [Act.put, List.setIfInBounds_toArray, List.set_cons_zero, List.set_cons_succ]
  refine' wpAnyU_take (i := 5) (v := _) hZ (op_at' rfl) (by kernel_rfl) (by kernel_rfl) (by kernel_rfl) (by kernel_rfl) (by kernel_rfl) (fun _ _ _ h => h) (Or.inl ⟨by rfl, ?hy6⟩) (by assumption) ?rest6
  case hy6 =>
    intro w' hS
    go_simp
    try with_reducible rfl
  try simp only [Act.put, List.setIfInBounds_toArray, List.set_cons_zero, List.set_cons_succ]
  refine' wpAnyU_take (i := 6) (v := _) hZ (op_at' rfl) (by kernel_rfl) (by kernel_rfl) (by kernel_rfl) (by kernel_rfl) (by kernel_rfl) (fun _ _ _ h => h) (Or.inl ⟨by rfl, ?hy7⟩) (by assumption) ?rest7
  case hy7 =>
    intro w' hS
    go_simp
    try with_reducible rfl
  try simp only [Act.put, List.setIfInBounds_toArray, List.set_cons_zero, List.set_cons_succ]
  refine' wpAnyU_take (i := 7) (v := _) hZ (op_at' rfl) (by kernel_rfl) (by kernel_rfl) (by kernel_rfl) (by kernel_rfl) (by kernel_rfl) (fun _ _ _ h => h) (Or.inl ⟨by rfl, ?hy8⟩) (by assumption) ?rest8
  case hy8 =>
    intro w' hS
    obtain ⟨c0, c1, c2, c3⟩ := pb_at hS
    go_simp
    try with_reducible rfl
  try simp only [Act.put, List.setIfInBounds_toArray, List.set_cons_zero, List.set_cons_succ]
  refine' wpAnyU_take (i := 8) (v := _) hZ (op_at' rfl) (by kernel_rfl) (by kernel_rfl) (by kernel_rfl) (by kernel_rfl) (by kernel_rfl) (fun _ _ _ h => h) (Or.inl ⟨by rfl, ?hy9⟩) (by assumption) ?rest9
  case hy9 =>
    intro w' hS
    go_simp
    try with_reducible rfl
  try simp only [Act.put, List.setIfInBounds_toArray, List.set_cons_zero, List.set_cons_succ]
  refine wpAnyU_one (i := 9) (by kernel_rfl) (op_at' rfl) (fun K hK => ?_)
  go_simp
  refine (put_any TB TM v l ⟨1, .slice none 0 0, [], ⟨#[]⟩, (m + 1), rfl, by decide, ⟨by omega, by omega⟩, by simp, by decide, by decide⟩ _ sR hI hl src_nil).mono ?_
  rintro e w9 ⟨i9, v9, l9, rfl, a9, b9, c9, s9⟩
  go_wp2_with fail
  refine hK.out _ _ (s9.get 4 rfl) (fun hHeld => ?_)
  clear hK K
  try simp only [Act.put, List.setIfInBounds_toArray, List.set_cons_zero, List.set_cons_succ]
  refine wpAnyU_one (i := 10) (by kernel_rfl) (op_at' rfl) (fun K hK => ?_)
  go_simp
  refine (tbytes_any i9 _).mono ?_
  rintro e w10 ⟨r10, rfl, s10⟩
  have s11 := s9.more s10
  go_wp2_with fail
  refine hK.out _ _ (s11.get 5 rfl) (fun hHeld => ?_)
  clear hK K
  try simp only [Act.put, List.setIfInBounds_toArray, List.set_cons_zero, List.set_cons_succ]
  refine' wpAnyU_take (i := 11) (v := _) hZ (op_at' rfl) (by kernel_rfl) (by kernel_rfl) (by kernel_rfl) (by kernel_rfl) (by kernel_rfl) (fun _ _ _ h => h) (Or.inl ⟨by rfl, ?hy10⟩) (by assumption) ?rest10
  case hy10 =>
    intro w' hS
    go_simp
    try with_reducible rfl
  try simp only [Act.put, List.setIfInBounds_toArray, List.set_cons_zero, List.set_cons_succ]
  refine wpAnyU_done (by kernel_rfl) ?_ _
  go_wp2_with fail
  go_ret
  exact ⟨r10, v9, l9, m + 1, rfl, b9, c9, by omega, Int.le_refl _, s11.sel 6 [1, 2, 3, 4, 5, 0]⟩

set_option maxRecDepth 100000 in
set_option maxHeartbeats 1600000 in
theorem public_held {w0 : World} {rs : List Res} (PB TB TM : Nat) (v : Value) (l : List Tm) (sv : Value) (m : Int) (p : Value) (n : Nat) (w : World) (h : Sep w0 w (primR PB TB TM v l sv m rs)) (hI : ItoaOK w0) (hl : l.length ≤ 800000)
    (hin : ∀ w', (∀ r ∈ rs, r.ok w') → (byR p n).ok w') (hn : n ≤ 1000000) :
    Calls Tryz.prog 110 #[.pointer (some ⟨PB, 0, none⟩), p] w (PrP w0 PB TB TM l.length m sv 2 0 fun r => byR r 32 :: rs) := by
  have hb : w.heap[PB]? = _ := h.get 4 rfl
  obtain ⟨c0, c1, c2, c3⟩ := pb_at hb
  go_enter Tryz.func110, Tryz.ntmps110
  go_upto_region 5 with fail
  have sR := h.quiet (Only.drew w [])
  clear h hb c0 c1 c2 c3
  refine wp_region_u (S := fun w' => w'.heap[PB]? = some (.cells (pb TB sv m).toArray 180 (0, 0))) 12 [] (by kernel_rfl) (by kernel_rfl) (sR.get 4 rfl) (fun hZ hHeld => ?_)
  refine' wpAnyU_take (i := 0) (v := _) hZ (op_at' rfl) (by kernel_rfl) (by kernel_rfl) (by kernel_rfl) (by kernel_rfl) (by kernel_rfl) (fun _ _ _ h => h) (Or.inl ⟨by rfl, ?hy11⟩) (by assumption) ?rest11
  case hy11 =>
    intro w' hS
    go_simp
    try with_reducible rfl
  try simp only [Act.put, List.setIfInBounds_toArray, List.set_cons_zero, List.set_cons_succ]
  refine' wpAnyU_take (i := 1) (v := _) hZ (op_at' rfl) (by kernel_rfl) (by kernel_rfl) (by kernel_rfl) (by kernel_rfl) (by kernel_rfl) (fun _ _ _ h => h) (Or.inl ⟨by rfl, ?hy12⟩) (by assumption) ?rest12
  case hy12 =>
    intro w' hS
    go_simp
    try with_reducible rfl
  try simp only [Act.put, List.setIfInBounds_toArray, List.set_cons_zero, List.set_cons_succ]
  refine' wpAnyU_take (i := 2) (v := _) hZ (op_at' rfl) (by kernel_rfl) (by kernel_rfl) (by kernel_rfl) (by kernel_rfl) (by kernel_rfl) (fun _ _ _ h => h) (Or.inl ⟨by rfl, ?hy13⟩) (by assumption) ?rest13
  case hy13 =>
    intro w' hS
    go_simp
    try with_reducible rfl
  try simp only [Act.put, List.setIfInBounds_toArray, List.set_cons_zero, List.set_cons_succ]
  refine' wpAnyU_take (i := 3) (v := _) hZ (op_at' rfl) (by kernel_rfl) (by kernel_rfl) (by kernel_rfl) (by kernel_rfl) (by kernel_rfl) (fun _ _ _ h => h) (Or.inl ⟨by rfl, ?hy14⟩) (by assumption) ?rest14
  case hy14 =>
    intro w' hS
    obtain ⟨c0, c1, c2, c3⟩ := pb_at hS
    go_simp
    try with_reducible rfl
  try simp only [Act.put, List.setIfInBounds_toArray, List.set_cons_zero, List.set_cons_succ]
  refine' wpAnyU_take (i := 4) (v := _) hZ (op_at' rfl) (by kernel_rfl) (by kernel_rfl) (by kernel_rfl) (by kernel_rfl) (by kernel_rfl) (fun _ _ _ h => h) (Or.inl ⟨by rfl, ?hy15⟩) (by assumption) ?rest15
  case hy15 =>
    intro w' hS
    go_simp
    try with_reducible rfl
  try simp only [Act.put, List.setIfInBounds_toArray, List.set_cons_zero, List.set_cons_succ]
  refine' wpAnyU_take (i := 5) (v := _) hZ (op_at' rfl) (by kernel_rfl) (by kernel_rfl) (by kernel_rfl) (by kernel_rfl) (by kernel_rfl) (fun _ _ _ h => h) (Or.inl ⟨by rfl, ?hy16⟩) (by assumption) ?rest16
  case hy16 =>
    intro w' hS
    go_simp
    try with_reducible rfl
  try simp only [Act.put, List.setIfInBounds_toArray, List.set_cons_zero, List.set_cons_succ]
  refine wpAnyU_one (i := 6) (by kernel_rfl) (op_at' rfl) (fun K hK => ?_)
  go_simp
  refine (pread_any PB TB TM v l sv m p n _ sR hI (by omega) (hin _ (fun r hr => sR.ok r (by simp [hr]))) hn).mono ?_
  rintro e w6 ⟨i6, v6, l6, rfl, a6, b6, c6, s6⟩
  go_wp2_with fail
  refine hK.out _ _ (s6.get 4 rfl) (fun hHeld => ?_)
  clear hK K
  try simp only [Act.put, List.setIfInBounds_toArray, List.set_cons_zero, List.set_cons_succ]
  refine wpAnyU_one (i := 7) (by kernel_rfl) (op_at' rfl) (fun K hK => ?_)
  go_simp
  go_wp2_with fail
  refine hK.out _ _ ((Only.alloc w6 _ []).at hHeld (by simp)) (fun hHeld => ?_)
  clear hK K
  try simp only [Act.put, List.setIfInBounds_toArray, List.set_cons_zero, List.set_cons_succ]
  have hY := heap_alloc_new w6 (.cells #[.int .i64 i6] 3)
  have o7 := Only.alloc w6 (.cells #[.int .i64 i6] 3) []
  generalize w6.alloc (.cells #[.int .i64 i6] 3) = w7 at *
  generalize w6.heap.size = Y at *
  have s7 := s6.quiet o7
  refine' wpAnyU_take (i := 8) (v := _) hZ (op_at' rfl) (by kernel_rfl) (by kernel_rfl) (by kernel_rfl) (by kernel_rfl) (by kernel_rfl) (fun _ _ _ h => h) (Or.inl ⟨by rfl, ?hy17⟩) (by assumption) ?rest17
  case hy17 =>
    intro w' hS
    go_simp
    try with_reducible rfl
  try simp only [Act.put, List.setIfInBounds_toArray, List.set_cons_zero, List.set_cons_succ]
  refine wpAnyU_one (i := 9) (by kernel_rfl) (op_at' rfl) (fun K hK => ?_)
  go_simp
  refine (put_any TB TM v6 l6 ⟨3, .slice (some ⟨Y, 0, none⟩) 1 1, [(i6 : Int)], ⟨#[]⟩, 0, rfl, by decide, by decide, by simp; omega, by decide, by simp⟩ _ s7 hI (by omega) (src_blk hY rfl)).mono ?_
  rintro e w9 ⟨i9, v9, l9, rfl, a9, b9, c9, s9⟩
  go_wp2_with fail
  refine hK.out _ _ (s9.get 4 rfl) (fun hHeld => ?_)
  clear hK K
  try simp only [Act.put, List.setIfInBounds_toArray, List.set_cons_zero, List.set_cons_succ]
  refine wpAnyU_one (i := 10) (by kernel_rfl) (op_at' rfl) (fun K hK => ?_)
  go_simp
  refine (tbytes_any i9 _).mono ?_
  rintro e w10 ⟨r10, rfl, s10⟩
  have s11 := s9.more s10
  go_wp2_with fail
  refine hK.out _ _ (s11.get 5 rfl) (fun hHeld => ?_)
  clear hK K
  try simp only [Act.put, List.setIfInBounds_toArray, List.set_cons_zero, List.set_cons_succ]
  refine' wpAnyU_take (i := 11) (v := _) hZ (op_at' rfl) (by kernel_rfl) (by kernel_rfl) (by kernel_rfl) (by kernel_rfl) (by kernel_rfl) (fun _ _ _ h => h) (Or.inl ⟨by rfl, ?hy18⟩) (by assumption) ?rest18
  case hy18 =>
    intro w' hS
    go_simp
    try with_reducible rfl
  try simp only [Act.put, List.setIfInBounds_toArray, List.set_cons_zero, List.set_cons_succ]
  refine wpAnyU_done (by kernel_rfl) ?_ _
  go_wp2_with fail
  go_ret
  exact ⟨r10, v9, l9, m, rfl, by omega, by omega, Int.le_refl _, by omega, s11.sel 6 [1, 2, 3, 4, 5, 0]⟩

theorem public_any {w0 : World} {rs : List Res} (PB TB TM : Nat) (v : Value) (l : List Tm) (sv : Value) (m : Int) (p : Value) (n : Nat) (w : World) (h : Sep w0 w (primR PB TB TM v l sv m rs)) (hI : ItoaOK w0) (hl : l.length ≤ 800000)
    (hin : byR p n ∈ rs) (hn : n ≤ 1000000) :
    Calls Tryz.prog 110 #[.pointer (some ⟨PB, 0, none⟩), p] w (PrP w0 PB TB TM l.length m sv 2 0 fun r => byR r 32 :: rs) :=
  public_held PB TB TM v l sv m p n w h hI hl (fun _ hr => hr _ hin) hn

set_option maxRecDepth 100000 in
set_option maxHeartbeats 1600000 in
theorem signkey_any {w0 : World} {rs : List Res} (PB TB TM : Nat) (v : Value) (l : List Tm) (sv : Value) (m : Int) (p : Value) (n : Nat) (w : World) (h : Sep w0 w (primR PB TB TM v l sv m rs)) (hI : ItoaOK w0) (hl : l.length ≤ 800000)
    (hin : byR p n ∈ rs) (hn : n ≤ 1000000) :
    Calls Tryz.prog 209 #[.pointer (some ⟨PB, 0, none⟩), p] w (PrP w0 PB TB TM l.length m sv 2 0 fun r => byR r 32 :: rs) := by
  obtain ⟨c0, c1, c2, c3⟩ := pb_at (show w.heap[PB]? = _ from h.get 4 rfl)
  go_enter Tryz.func209, Tryz.ntmps209
  go_wp2_with fail
  refine (public_any PB TB TM v l sv m p n _ h hI hl hin hn).mono ?_
  rintro e w1 ⟨r, v1, l1, m1, rfl, q1, q2, q3, q5, q4⟩
  go_wp2_with fail
  go_ret
  exact ⟨r, v1, l1, m1, rfl, q1, q2, q3, q5, q4⟩
end Go.Proofs.YtmmhbehlpppdiaaGreatDoor.Wl
namespace Go.Proofs.YtmmhbehlpppdiaaGreatDoor.Wl
open Go.RowKit Go.Pw
def fitL (xs : List Int) (n : Nat) : List Int := xs.take n ++ List.replicate (n - xs.length) 0
theorem fitL_len (xs : List Int) (n : Nat) : (fitL xs n).length = n := by simp [fitL]; omega
theorem fitL_byt {xs : List Int} (h : Byt xs) (n : Nat) : Byt (fitL xs n) := by
  intro x hx
  rcases List.mem_append.1 hx with hx | hx
  · exact h x (List.mem_of_mem_take hx)
  · rw [List.eq_of_mem_replicate hx]; decide
set_option maxHeartbeats 800000 in
set_option maxRecDepth 100000 in
theorem pfit_any (p : Value) (xs : List Int) (n : Nat) (w : World) (hp : Pw.Src w p 1 xs.length (xs.map (Value.int .u8))) (hb : Byt xs) (hn : n ≤ 1000000) :
    Calls Tryz.prog 179 #[p, .int .i64 n] w fun e w' => ∃ r, e = .returned r ∧ Sep w w' [byR r n] := by
  obtain ⟨ao, c, rfl, h1, h2, h3, h4, h5⟩ := id hp
  have hmk := make_bytes w n hn
  have hg := heap_alloc_new w (.cells ((List.replicate n (Value.int .u8 0)).toArray) 5)
  have hoW : Only w (w.alloc (.cells ((List.replicate n (Value.int .u8 0)).toArray) 5)) [] := Only.alloc _ _ _
  have hpW := hp.off hoW (fun _ _ _ => by simp)
  generalize hV : w.alloc (.cells ((List.replicate n (Value.int .u8 0)).toArray) 5) = V at *
  have hcs : ((xs.take n).map (Value.int .u8)).length = Nat.min xs.length n := by simp; exact Nat.min_comm _ _
  have hfit : 0 + ((xs.take n).map (Value.int .u8)).length ≤ (List.replicate n (Value.int .u8 0)).length := by simp; omega
  have hpos : 0 < ((xs.take n).map (Value.int .u8)).length → (some (⟨w.heap.size, 0, none⟩ : Addr) = some ⟨w.heap.size, 0, none⟩ ∧ ∃ ad, ao = some ad ∧ ∀ j v, ((xs.take n).map (Value.int .u8))[j]? = some v → V.cell? (ad.add j) = some v) := fun hl => by
    refine ⟨rfl, ?_⟩
    obtain ⟨_, _, he, _, _, _, k4, k5⟩ := hpW
    simp only [Value.slice.injEq] at he
    obtain ⟨rfl, _, rfl⟩ := he
    cases ao with
    | none =>
      have := (k4 rfl).1
      simp at hl
      omega
    | some ad =>
      refine ⟨ad, rfl, fun j v hj => k5 ad rfl j v ?_⟩
      rw [List.map_take, List.getElem?_take] at hj
      split at hj
      · exact hj
      · cases hj
  have hzs : (w.heap.size : Nat) < V.heap.size := (Array.getElem?_eq_some_iff.1 hg).1
  have HV := Lib.hid hV
  clear hV h3 h4 h5
  have hfin : Hid (splice (List.replicate n (Value.int .u8 0)) 0 ((xs.take n).map (Value.int .u8)) = (fitL xs n).map (Value.int .u8)) := by
    show splice _ _ _ = _
    simp only [splice, List.take_zero, List.nil_append, Nat.zero_add, List.drop_replicate, List.length_map, List.length_take, fitL, List.map_append, List.map_replicate]
    congr 2
    omega
  go_enter Tryz.func179, Tryz.ntmps179
  go_wp2_with (refine wpList_copy_splice rfl _ _ 22 22 rfl 5 Tryz.underlying22 (by kernel_rfl) (some ⟨w.heap.size, 0, none⟩) ao n n xs.length c rfl rfl w.heap.size 0 (List.replicate n (Value.int .u8 0)) 5 hg ((xs.take n).map (Value.int .u8)) hcs hpos hfit (one_ints _ _) w.heap.size V (Below.refl _ _) (Nat.le_refl _) ?_; intro w4 hg4 hb4)
  go_ret
  have hg5 := hg4.out
  rw [hfin.out] at hg5
  have ho : Only V w4 [w.heap.size] := ⟨hb4.os, hb4.tape, hb4.output, hb4.size, fun k hk hn => hb4.block k (by have := HV.out; rw [← this] at hk; simp at hk hn; omega)⟩
  refine ⟨_, rfl, by_up ((Sep.nil w).add (hoW.new ho (by simp)) (b := row 5 1 (.slice (some ⟨w.heap.size, 0, none⟩) n n) n ((fitL xs n).map (Value.int .u8))) ⟨by simp [fitL_len], .inr ⟨w.heap.size, n, _, rfl, Nat.zero_le _, hg5, Nat.le_refl _, by unfold maxLen; omega, by simp [fitL_len], by rw [List.take_of_length_le (by simp [fitL_len])]⟩⟩ (fun k hk => by simp [row, Value.ownBlock] at hk; omega)) (fitL_len _ _) (fitL_byt hb _)⟩

set_option maxRecDepth 100000 in
set_option maxHeartbeats 1600000 in
theorem sign_any {w0 : World} {rs : List Res} (PB TB TM : Nat) (v : Value) (l : List Tm) (sv : Value) (m : Int) (p mv : Value) (n : Nat) (ms : List Int) (w : World) (h : Sep w0 w (primR PB TB TM v l sv m rs)) (hI : ItoaOK w0) (hl : l.length ≤ 800000)
    (hin : byR p n ∈ rs) (hn : n ≤ 1000000) (hin2 : row 5 1 mv ms.length (ms.map (Value.int .u8)) ∈ rs) (hml : ms.length ≤ 1000000) :
    Calls Tryz.prog 108 #[.pointer (some ⟨PB, 0, none⟩), p, mv] w (PrP w0 PB TB TM l.length m sv 2 0 fun r => byR r 64 :: rs) := by
  have hb : w.heap[PB]? = _ := h.get 4 rfl
  obtain ⟨c0, c1, c2, c3⟩ := pb_at hb
  have hM : ∀ w', (row 5 1 mv ms.length (ms.map (Value.int .u8))).ok w' → Pw.Src w' mv 1 ms.length (ms.map (Value.int .u8)) := fun _ hh => own_src hh
  obtain ⟨ma, mc, rfl⟩ := own_slice (show w.ownsRow 0 5 1 mv ms.length (ms.map (Value.int .u8)) from h.ok (row 5 1 mv ms.length (ms.map (Value.int .u8))) (by simp [hin2]))
  go_enter Tryz.func108, Tryz.ntmps108
  go_upto_region 5 with fail
  have sR := h.quiet (Only.drew w [])
  clear h hb c0 c1 c2 c3
  refine wp_region_u (S := fun w' => w'.heap[PB]? = some (.cells (pb TB sv m).toArray 180 (0, 0)) ∧ Pw.Src w' (.slice ma ms.length mc) 1 ms.length (ms.map (Value.int .u8))) 15 [] (by kernel_rfl) (by kernel_rfl) ⟨sR.get 4 rfl, hM _ (sR.ok _ (by simp [hin2]))⟩ (fun hZ hHeld => ?_)
  refine' wpAnyU_take (i := 0) (v := _) hZ (op_at' rfl) (by kernel_rfl) (by kernel_rfl) (by kernel_rfl) (by kernel_rfl) (by kernel_rfl) (fun _ _ _ h => h) (Or.inl ⟨by rfl, ?hy1⟩) (by assumption) ?rest1
  case hy1 =>
    intro w' hS
    go_simp
    try with_reducible rfl
  try simp only [Act.put, List.setIfInBounds_toArray, List.set_cons_zero, List.set_cons_succ]
  refine' wpAnyU_take (i := 1) (v := _) hZ (op_at' rfl) (by kernel_rfl) (by kernel_rfl) (by kernel_rfl) (by kernel_rfl) (by kernel_rfl) (fun _ _ _ h => h) (Or.inl ⟨by rfl, ?hy2⟩) (by assumption) ?rest2
  case hy2 =>
    intro w' hS
    go_simp
    try with_reducible rfl
  try simp only [Act.put, List.setIfInBounds_toArray, List.set_cons_zero, List.set_cons_succ]
  refine' wpAnyU_take (i := 2) (v := _) hZ (op_at' rfl) (by kernel_rfl) (by kernel_rfl) (by kernel_rfl) (by kernel_rfl) (by kernel_rfl) (fun _ _ _ h => h) (Or.inl ⟨by rfl, ?hy3⟩) (by assumption) ?rest3
  case hy3 =>
    intro w' hS
    go_simp
    try with_reducible rfl
  try simp only [Act.put, List.setIfInBounds_toArray, List.set_cons_zero, List.set_cons_succ]
  refine' wpAnyU_take (i := 3) (v := _) hZ (op_at' rfl) (by kernel_rfl) (by kernel_rfl) (by kernel_rfl) (by kernel_rfl) (by kernel_rfl) (fun _ _ _ h => h) (Or.inl ⟨by rfl, ?hy4⟩) (by assumption) ?rest4
  case hy4 =>
    intro w' hS
    obtain ⟨c0, c1, c2, c3⟩ := pb_at hS.1
    go_simp
    try with_reducible rfl
  try simp only [Act.put, List.setIfInBounds_toArray, List.set_cons_zero, List.set_cons_succ]
  refine' wpAnyU_take (i := 4) (v := _) hZ (op_at' rfl) (by kernel_rfl) (by kernel_rfl) (by kernel_rfl) (by kernel_rfl) (by kernel_rfl) (fun _ _ _ h => h) (Or.inl ⟨by rfl, ?hy5⟩) (by assumption) ?rest5
  case hy5 =>
    intro w' hS
    go_simp
    try with_reducible rfl
  try simp only [Act.put, List.setIfInBounds_toArray, List.set_cons_zero, List.set_cons_succ]
  refine' wpAnyU_take (i := 5) (v := _) hZ (op_at' rfl) (by kernel_rfl) (by kernel_rfl) (by kernel_rfl) (by kernel_rfl) (by kernel_rfl) (fun _ _ _ h => h) (Or.inl ⟨by rfl, ?hy6⟩) (by assumption) ?rest6
  case hy6 =>
    intro w' hS
    go_simp
    try with_reducible rfl
  try simp only [Act.put, List.setIfInBounds_toArray, List.set_cons_zero, List.set_cons_succ]
  refine' wpAnyU_take (i := 8) (v := _) hZ (op_at' rfl) (by kernel_rfl) (by kernel_rfl) (by kernel_rfl) (by kernel_rfl) (by kernel_rfl) (fun _ _ _ h => h) (Or.inl ⟨by rfl, ?hy7⟩) (by assumption) ?rest7
  case hy7 =>
    intro w' hS
    go_simp
    try with_reducible rfl
  try simp only [Act.put, List.setIfInBounds_toArray, List.set_cons_zero, List.set_cons_succ]
  refine' wpAnyU_take (i := 9) (v := _) hZ (op_at' rfl) (by kernel_rfl) (by kernel_rfl) (by kernel_rfl) (by kernel_rfl) (by kernel_rfl) (fun _ _ _ h => h) (Or.inl ⟨by rfl, ?hy8⟩) (by assumption) ?rest8
  case hy8 =>
    intro w' hS
    have hst := run_str (P := Tryz.prog) (S := 22) (T := 9) Tryz.underlying22 Tryz.underlying5 Tryz.underlying9 hS.2 rfl
    go_simp
    try with_reducible rfl
  try simp only [Act.put, List.setIfInBounds_toArray, List.set_cons_zero, List.set_cons_succ]
  refine wpAnyU_one (i := 6) (by kernel_rfl) (op_at' rfl) (fun K hK => ?_)
  go_simp
  refine (pread_any PB TB TM v l sv m p n _ sR hI (by omega) (sR.ok _ (by simp [hin])) hn).mono ?_
  rintro e w6 ⟨i6, v6, l6, rfl, a6, b6, c6, s6⟩
  go_wp2_with fail
  refine hK.out _ _ ⟨s6.get 4 rfl, hM _ (s6.ok _ (by simp [hin2]))⟩ (fun hHeld => ?_)
  clear hK K
  try simp only [Act.put, List.setIfInBounds_toArray, List.set_cons_zero, List.set_cons_succ]
  refine wpAnyU_one (i := 7) (by kernel_rfl) (op_at' rfl) (fun K hK => ?_)
  go_simp
  go_wp2_with fail
  refine hK.out _ _ ⟨(Only.alloc w6 _ []).at hHeld.1 (by simp), hHeld.2.off (Only.alloc w6 _ []) (fun _ _ _ => by simp)⟩ (fun hHeld => ?_)
  clear hK K
  try simp only [Act.put, List.setIfInBounds_toArray, List.set_cons_zero, List.set_cons_succ]
  have hY := heap_alloc_new w6 (.cells #[.int .i64 i6] 3)
  have o7 := Only.alloc w6 (.cells #[.int .i64 i6] 3) []
  generalize w6.alloc (.cells #[.int .i64 i6] 3) = w7 at *
  generalize w6.heap.size = Y at *
  have s7 := s6.quiet o7
  refine' wpAnyU_take (i := 10) (v := _) hZ (op_at' rfl) (by kernel_rfl) (by kernel_rfl) (by kernel_rfl) (by kernel_rfl) (by kernel_rfl) (fun _ _ _ h => h) (Or.inl ⟨by rfl, ?hy9⟩) (by assumption) ?rest9
  case hy9 =>
    intro w' hS
    go_simp
    try with_reducible rfl
  try simp only [Act.put, List.setIfInBounds_toArray, List.set_cons_zero, List.set_cons_succ]
  refine wpAnyU_one (i := 11) (by kernel_rfl) (op_at' rfl) (fun K hK => ?_)
  go_simp
  refine (put_any TB TM v6 l6 ⟨7, .slice (some ⟨Y, 0, none⟩) 1 1, [(i6 : Int)], strOfNums ms, 0, rfl, by decide, by decide, by simp; omega, by rw [str_size]; omega, by simp⟩ _ s7 hI (by omega) (src_blk hY rfl)).mono ?_
  rintro e w9 ⟨i9, v9, l9, rfl, a9, b9, c9, s9⟩
  go_wp2_with fail
  refine hK.out _ _ ⟨s9.get 4 rfl, hM _ (s9.ok _ (by simp [hin2]))⟩ (fun hHeld => ?_)
  clear hK K
  try simp only [Act.put, List.setIfInBounds_toArray, List.set_cons_zero, List.set_cons_succ]
  refine wpAnyU_one (i := 12) (by kernel_rfl) (op_at' rfl) (fun K hK => ?_)
  go_simp
  refine (tbytes_any i9 _).mono ?_
  rintro e w10 ⟨r10, rfl, s10⟩
  have s11 := s9.more s10
  go_wp2_with fail
  refine hK.out _ _ ⟨s11.get 5 rfl, hM _ (s11.ok _ (by simp [hin2]))⟩ (fun hHeld => ?_)
  clear hK K
  try simp only [Act.put, List.setIfInBounds_toArray, List.set_cons_zero, List.set_cons_succ]
  obtain ⟨xs, x1, x2, x3⟩ := by_src (s11.get 0 rfl)
  refine wpAnyU_one (i := 13) (by kernel_rfl) (op_at' rfl) (fun K hK => ?_)
  go_simp
  refine (pfit_any r10 xs 64 _ x3 x2 (by decide)).mono ?_
  rintro e w13 ⟨r13, rfl, s13⟩
  have s14 := s11.more s13
  go_wp2_with fail
  refine hK.out _ _ ⟨s14.get 6 rfl, hM _ (s14.ok _ (by simp [hin2]))⟩ (fun hHeld => ?_)
  clear hK K
  try simp only [Act.put, List.setIfInBounds_toArray, List.set_cons_zero, List.set_cons_succ]
  refine' wpAnyU_take (i := 14) (v := _) hZ (op_at' rfl) (by kernel_rfl) (by kernel_rfl) (by kernel_rfl) (by kernel_rfl) (by kernel_rfl) (fun _ _ _ h => h) (Or.inl ⟨by rfl, ?hy10⟩) (by assumption) ?rest10
  case hy10 =>
    intro w' hS
    go_simp
    try with_reducible rfl
  try simp only [Act.put, List.setIfInBounds_toArray, List.set_cons_zero, List.set_cons_succ]
  refine wpAnyU_done (by kernel_rfl) ?_ _
  go_wp2_with fail
  go_ret
  exact ⟨r13, v9, l9, m, rfl, by omega, by omega, Int.le_refl _, by omega, (s14.sel 7 [2, 3, 4, 5, 6, 0])⟩
end Go.Proofs.YtmmhbehlpppdiaaGreatDoor.Wl
namespace Go.Pw
open Go.RowKit

theorem zeroCells_one (z : Value) (k : Nat) : (Builtin.zeroCells #[z] k).toList = List.replicate k z := by
  apply List.ext_getElem?
  intro j
  by_cases hj : j < k
  · simp [Builtin.zeroCells, hj, Nat.mod_one]
  · simp [Builtin.zeroCells, hj]

theorem run_append_zeros {P : Program} (w : World) (t tn ty e : TypeId) (i : TypeInfo) (z : Value) (kn : IntKind) (ht : P.underlying t = some (.slice e)) (htn : P.underlying tn = some (.int kn)) (hi : P.info? e = some i) (hz : i.zero = some z)
    (hsize : i.size = 1) (hby : i.bytes = 1) (hzc : z.cells = #[z]) (h1 : z.oneCell' = true)
    (v : Value) (n : Nat) (xs : List Value) (hown : w.ownsRow 0 e 1 v n xs) (k : Nat) (hl : n + k ≤ 1000000000) :
    ∃ v' w', (Builtin.append_ #[t, tn] ty #[v, .int .i64 (k : Int)]).run P w = .ok v' w' ∧ w'.ownsRow 0 e 1 v' (n + k) (xs ++ List.replicate k z) ∧ w.grownBy w' v.ownBlock ∧ SoN w v v' := by
  have hxl : xs.length = n := by simpa using hown.1
  have hlen : (xs ++ List.replicate k z).length = (n + k) * 1 := by simp [hxl]
  have hwk : IntKind.i64.wrap (k : Int) = k := by rw [IntKind.wrap_i64]; omega
  have hneg : ¬ ((k : Int) < 0) := by omega
  have h48 : ¬ (281474976710656 < (k : Int)) := by omega
  by_cases hk0 : k = 0
  · subst hk0
    have hw0 : IntKind.i64.wrap (0 : Int) = 0 := by decide
    rcases hown.2 with ⟨rfl, rfl⟩ | ⟨g, cap, cur, rfl, hbg, hg, hnc, hcm, hcs, htake⟩
    · refine ⟨.slice none 0 0, w, ?_, by simpa using hown, ⟨rfl, rfl, rfl, Nat.le_refl _, fun _ _ _ => rfl⟩, SoN.refl _ _⟩
      simp [Builtin.append_, run_underlying ht, run_underlying htn, sizeOf, typeInfo, hi, hsize, hby, asInt, asIntOf, hw0]
    · refine ⟨.slice (some ⟨g, 0, none⟩) n cap, w, ?_, by simpa using hown, ⟨rfl, rfl, rfl, Nat.le_refl _, fun _ _ _ => rfl⟩, SoN.refl _ _⟩
      simp [Builtin.append_, run_underlying ht, run_underlying htn, sizeOf, typeInfo, hi, hsize, hby, asInt, asIntOf, hw0, hnc, storeCells]
  · have hfresh : ∀ (old : Nat), old < n + k → ∀ (row : Option Nat),
        (w.drew.alloc (.cells (xs.toArray ++ Builtin.zeroCells z.cells k ++ Builtin.zeroCells z.cells (grownCap w (n + k) old e - (n + k))) e)).ownsRow 0 e 1
          (.slice (some ⟨w.heap.size, 0, none⟩) (n + k) (grownCap w (n + k) old e)) (n + k) (xs ++ List.replicate k z) ∧
        w.grownBy (w.drew.alloc (.cells (xs.toArray ++ Builtin.zeroCells z.cells k ++ Builtin.zeroCells z.cells (grownCap w (n + k) old e - (n + k))) e)) row := by
      intro old ho row
      have hge := grownCap_ge w (n + k) old e
      have hcm : grownCap w (n + k) old e ≤ maxLen := grownCap_le_maxLen w (n + k) old e (by unfold maxLen; omega)
      refine ⟨⟨hlen, .inr ⟨w.heap.size, _, _, rfl, Nat.zero_le _, heap_alloc_new w.drew _, hge, hcm, ?_, ?_⟩⟩, ⟨rfl, rfl, rfl, by simp, fun k hk _ => Below.heap_alloc w.drew _ k hk⟩⟩
      · simp only [Array.size_append, List.size_toArray, size_zeroCells, hzc, hxl]
        simp
        omega
      · rw [hzc, Array.toList_append, Array.toList_append, zeroCells_one, ← hlen]
        exact List.take_left
    rcases hown.2 with ⟨rfl, rfl⟩ | ⟨g, cap, cur, rfl, hbg, hg, hnc, hcm, hcs, htake⟩
    · have hx : xs = [] := List.eq_nil_of_length_eq_zero hxl
      subst hx
      have hr := Lib.run_append_nil_zeros (P := P) w t tn ty e i z .i64 kn ht htn hi hz k (by omega) (by omega) (by omega) (by rw [hby]; omega)
      have hgr := hfresh 0 (by omega) (Value.ownBlock (.slice none 0 0))
      simp only [Nat.zero_add, List.nil_append, Array.empty_append] at hgr ⊢
      exact ⟨_, _, hr, hgr.1, hgr.2, fun k hk => .inr (by simp [Value.ownBlock] at hk; omega)⟩
    · by_cases hroom : n + k ≤ cap
      · have hcs' : cur.size = cap := by simpa using hcs
        have hst := run_storeCells_at P g n e (List.replicate k z) 0 cur w hg (by simp; omega) (fun u hu => by rw [List.eq_of_mem_replicate hu]; exact h1)
        simp only [Nat.add_zero] at hst
        refine ⟨.slice (some ⟨g, 0, none⟩) (n + k) cap, _, ?_, ⟨hlen, .inr ⟨g, cap, _, rfl, hbg, setRow_heap w g cur (cur.toList.take n ++ List.replicate k z ++ cur.toList.drop (n + (List.replicate k z).length)).toArray e _ hg, hroom, hcm, ?_, ?_⟩⟩, ⟨rfl, rfl, rfl, by simp, fun k _ hk => setRow_other w g k _ (fun e => hk (by simp [Value.ownBlock, e]))⟩, fun k hk => .inl hk⟩
        · simp [Builtin.append_, run_underlying ht, run_underlying htn, sizeOf, typeInfo, zeroValue, hi, hz, hsize, hby, asInt, asIntOf, hwk, hneg, h48, hk0, hroom, hzc, zeroCells_one, Addr.add_lit, hst]
        · simp; omega
        · have ht' : cur.toList.take n = xs := by simpa using htake
          rw [← hlen, ht']
          exact List.take_left
      · have holds : ∀ j u, xs[j]? = some u → w.cell? ((⟨g, 0, none⟩ : Addr).add j) = some u := hown.cells (g := g) rfl
        have hf := run_firstCells_some (P := P) w.drew i.size n ⟨g, 0, none⟩ n cap xs (by rw [hsize]; simpa using hown.1) (by simpa using holds)
        have hr := Lib.run_append_grow_zeros (P := P) w t tn ty e i z .i64 kn ht htn hi hz (some ⟨g, 0, none⟩) n cap xs hf k (by omega) (by omega) (by omega) (by omega) (by rw [hby]; omega) (growslice_fits (by omega) (by rw [hby]; omega))
        have hgr := hfresh cap (by omega) (Value.ownBlock (.slice (some ⟨g, 0, none⟩) n cap))
        exact ⟨_, _, hr, hgr.1, hgr.2, fun k hk => .inr (by simp [Value.ownBlock] at hk; omega)⟩
end Go.Pw
namespace Go.Pw
open Go.RowKit
theorem step_append_zeros {P : Program} {ops : Array Oper} {o : Oper} {a : Act} {w w0 : World} {rs : List Res} {K : Act → World → Prop} {Q : Exit → Act → World → Prop} {E : Prop}
    (hg : o.guard = none) (s x : Operand) (t tn : TypeId) (hop : o.op = Op.call { callee := Callee.builtin Builtin.append, args := #[s, x], argTypes := #[t, tn] })
    (e : TypeId) (i : TypeInfo) (z : Value) (kn : IntKind) (ht : P.underlying t = some (.slice e)) (htn : P.underlying tn = some (.int kn)) (hi : P.info? e = some i) (hz : i.zero = some z)
    (hsize : i.size = 1) (hby : i.bytes = 1) (hzc : z.cells = #[z]) (h1 : z.oneCell' = true)
    (v : Value) (n : Nat) (xs : List Value) (hs : a.eval s = v) (hsep : Sep w0 w (row e 1 v n xs :: rs)) (k : Nat) (hx : a.eval x = .int .i64 (k : Int)) (hl : n + k ≤ 1000000000)
    (hK : ∀ ao c w', Only w w' v.ownBlock.toList → Sep w0 w' (row e 1 (.slice ao (n + k) c) (n + k) (xs ++ List.replicate k z) :: rs) → K (a.put o.dst (.slice ao (n + k) c)) w') :
    if Region.wanted o (yielded ops a.tmps) = true then Oper.wp P o a w K Q else E := by
  have hw : Region.wanted o (yielded ops a.tmps) = true := by simp [Region.wanted, hg]
  rw [if_pos hw]
  obtain ⟨v', w', hrun, r1, r2, r3⟩ := run_append_zeros (P := P) w t tn o.type e i z kn ht htn hi hz hsize hby hzc h1 v n xs hsep.head k hl
  obtain ⟨ao, c, rfl⟩ := own_slice r1
  unfold Oper.wp
  simp [execOp, hop, resolve, invoke, builtin, hs, hx, hrun, Result.andThen]
  exact hK ao c w' (Only.grown r2 (fun k hk => by simp [hk])) (hsep.app r1 r2 r3)
end Go.Pw
namespace Go.Proofs.YtmmhbehlpppdiaaGreatDoor.Wl
open Go.RowKit Go.Pw

theorem info_bool : (Tryz.prog.info? 4).map (fun i => (i.zero, i.size, i.bytes)) = some (some (.bool false), 1, 1) := by kernel_rfl
def bl (hs : List Bool) : List Value := hs.map Value.bool
abbrev knR (KB TB : Nat) (hv : Value) (hs : List Bool) (rs : List Res) : List Res := blk KB [.pointer (some ⟨TB, 0, none⟩), hv] 224 :: row 4 1 hv hs.length (bl hs) :: rs
def BoolP (w : World) (e : Ending) (w' : World) : Prop := (∃ b, e = .returned (.bool b)) ∧ Only w w' []
theorem bl_at {w : World} {g c n : Nat} {hs : List Bool} (h : w.ownsRow 0 4 1 (.slice (some ⟨g, 0, none⟩) n c) n (bl hs)) {k : Nat} (hk : k < hs.length) : w.cell? ⟨g, k, none⟩ = some (.bool hs[k]) := by
  have hl : hs.length = n := by simpa [bl] using h.1
  rw [h.cellAt k (by omega), bl, List.getElem?_map, List.getElem?_eq_getElem hk]
  rfl

set_option maxRecDepth 100000 in
set_option maxHeartbeats 800000 in
theorem is_any (KB TB : Nat) (hv : Value) (hs : List Bool) (i : Int) (w : World) (h1 : (blk KB [.pointer (some ⟨TB, 0, none⟩), hv] 224).ok w) (h2 : (row 4 1 hv hs.length (bl hs)).ok w) :
    Calls Tryz.prog 262 #[.pointer (some ⟨KB, 0, none⟩), .int .i64 i] w (BoolP w) := by
  have hb : w.heap[KB]? = _ := h1
  have c0 := cell_two0 hb
  have c1 := cell_two1 hb
  obtain ⟨ao, c, rfl⟩ := own_slice (show w.ownsRow 0 4 1 hv hs.length (bl hs) from h2)
  by_cases hi : i < 0
  · have d1 : decide (0 ≤ i) = false := by simpa using hi
    go_enter Tryz.func262, Tryz.ntmps262
    go_wp2_with fail
    go_ret
    exact ⟨⟨_, rfl⟩, Only.refl _ _⟩
  · obtain ⟨k, rfl⟩ := Int.eq_ofNat_of_zero_le (show 0 ≤ i by omega)
    have d1 : decide (0 ≤ (k : Int)) = true := by simp
    by_cases hk : k < hs.length
    · have d2 : decide ((k : Int) < hs.length) = true := by simpa using hk
      have d3 : (k : Int) < hs.length := by omega
      obtain ⟨g, rfl, _⟩ := own_some (show w.ownsRow 0 _ 1 (.slice ao hs.length c) hs.length (bl hs) from h2) (by omega)
      have ck := bl_at h2 hk
      go_enter Tryz.func262, Tryz.ntmps262
      go_wp2_with fail
      go_ret
      exact ⟨⟨_, rfl⟩, Only.refl _ _⟩
    · have d2 : decide ((k : Int) < hs.length) = false := by simpa using hk
      go_enter Tryz.func262, Tryz.ntmps262
      go_wp2_with fail
      go_ret
      exact ⟨⟨_, rfl⟩, Only.refl _ _⟩
theorem lacks_any (KB TB : Nat) (hv : Value) (hs : List Bool) (i : Int) (w : World) (h1 : (blk KB [.pointer (some ⟨TB, 0, none⟩), hv] 224).ok w) (h2 : (row 4 1 hv hs.length (bl hs)).ok w) :
    Calls Tryz.prog 261 #[.pointer (some ⟨KB, 0, none⟩), .int .i64 i] w (BoolP w) := by
  go_enter Tryz.func261, Tryz.ntmps261
  go_wp2_with fail
  refine (is_any KB TB hv hs i w h1 h2).mono ?_
  rintro e w1 ⟨⟨b, rfl⟩, o1⟩
  go_wp2_with fail
  go_ret
  exact ⟨⟨_, rfl⟩, o1⟩
end Go.Proofs.YtmmhbehlpppdiaaGreatDoor.Wl
namespace Go.Proofs.YtmmhbehlpppdiaaGreatDoor.Wl
open Go.RowKit Go.Pw
def IntP (w : World) (e : Ending) (w' : World) : Prop := (∃ i : Int, e = .returned (.int .i64 i)) ∧ Only w w' []
abbrev lacksV (KB : Nat) : Value := .func (.func 261) #[.pointer (some ⟨KB, 0, none⟩)] #[]
set_option maxRecDepth 100000 in
set_option maxHeartbeats 800000 in
theorem index_any (KB TB : Nat) (hv : Value) (hs : List Bool) (p : Value) (xs : List Int) (w : World) (h1 : (blk KB [.pointer (some ⟨TB, 0, none⟩), hv] 224).ok w) (h2 : (row 4 1 hv hs.length (bl hs)).ok w) (hp : Pw.Src w p 1 xs.length (xs.map (Value.int .i64))) (hxl : xs.length ≤ 1000000) :
    Calls Tryz.prog 322 #[p, lacksV KB] w (IntP w) := by
  obtain ⟨ao, c, rfl, _⟩ := id hp
  go_enter Tryz.func322, Tryz.ntmps322
  go_wp2_with fail
  go_loopw [8] (fun y wr => ∃ k : Nat, y = .int .i64 k ∧ k ≤ xs.length ∧ Only w wr []) (fun y _ => xs.length - (intOf y).toNat)
  case atStart => exact ⟨0, rfl, Nat.zero_le _, Only.refl _ _⟩
  case round =>
    obtain ⟨k, rfl, hk, ho⟩ := hrel
    by_cases hkl : k < xs.length
    · have e1 : decide ((k : Int) < xs.length) = true := by simpa using hkl
      obtain ⟨b, o, rfl, hc⟩ := src_new hp (show k < xs.length from hkl)
      have ck := hc wr ho k (.int .i64 xs[k]) (by simp [hkl])
      generalize xs[k] = z at *
      clear hc
      go_wp2_with fail
      refine (lacks_any KB TB hv hs z wr (Res.only h1 ho (by simp)) (Res.only h2 ho (by simp))).mono ?_
      rintro e w1 ⟨⟨bb, rfl⟩, o1⟩
      cases bb
      · go_wp2_with fail
        exact ⟨⟨k + 1, by simp, by omega, ho.trans o1⟩, by simp [intOf]; omega⟩
      · go_wp2_with fail
        go_ret
        exact ⟨⟨_, rfl⟩, ho.trans o1⟩
    · obtain rfl : k = xs.length := by omega
      have e1 : decide ((xs.length : Int) < xs.length) = false := by simp
      go_wp2_with fail
      go_ret
      exact ⟨⟨_, rfl⟩, ho⟩
theorem contains_any (KB TB : Nat) (hv : Value) (hs : List Bool) (p : Value) (xs : List Int) (w : World) (h1 : (blk KB [.pointer (some ⟨TB, 0, none⟩), hv] 224).ok w) (h2 : (row 4 1 hv hs.length (bl hs)).ok w) (hp : Pw.Src w p 1 xs.length (xs.map (Value.int .i64))) (hxl : xs.length ≤ 1000000) :
    Calls Tryz.prog 260 #[p, lacksV KB] w (BoolP w) := by
  go_enter Tryz.func260, Tryz.ntmps260
  go_wp2_with fail
  refine (index_any KB TB hv hs p xs w h1 h2 hp hxl).mono ?_
  rintro e w1 ⟨⟨i, rfl⟩, o1⟩
  go_wp2_with fail
  go_ret
  exact ⟨⟨_, rfl⟩, o1⟩

set_option maxRecDepth 100000 in
set_option maxHeartbeats 1600000 in
theorem made_any {w0 : World} {rs : List Res} (KB TB TM : Nat) (v hv : Value) (l : List Tm) (hs : List Bool) (i : Int) (w : World) (h : Sep w0 w (tabR TB TM v l rs)) (hl : l.length ≤ 900000)
    (h1 : (blk KB [.pointer (some ⟨TB, 0, none⟩), hv] 224).ok w) (h2 : (row 4 1 hv hs.length (bl hs)).ok w) :
    Calls Tryz.prog 189 #[.pointer (some ⟨KB, 0, none⟩), .int .i64 i] w (BoolP w) := by
  have hb : w.heap[KB]? = _ := h1
  have c0 := cell_two0 hb
  go_enter Tryz.func189, Tryz.ntmps189
  go_wp2_with fail
  refine (get_any TB TM v l i w h (by omega)).mono ?_
  rintro e w1 ⟨x, bb, rfl, o1, hx⟩
  have g0 : (tc x).toArray[0]? = some (.int .u8 x.k) := rfl
  have g1 : (tc x).toArray[1]? = some x.ov := rfl
  have hxs : ∀ w', Only w1 w' [] → Pw.Src w' x.ov 1 x.os.length (x.os.map (Value.int .i64)) := fun w' o => by
    rcases hx with ⟨_, rfl⟩ | ⟨_, hx⟩
    · exact src_nil
    · exact own_src (many_ok (show (many (l.map ofR)).ok w' from (h.quiet (o1.trans o)).get 3 rfl) (List.mem_map.2 ⟨x, hx, rfl⟩))
  have hk := x.hk
  have hxl := x.hl
  go_wp2_with (first
    | (refine wpList_alloc_new rfl 296 rfl (.agg (tc tZ).toArray) (fun _ => by kernel_rfl) ?_; intro X wX oX lX bX)
    | (refine wpList_store_blk rfl 296 _ _ rfl X (tc x) rfl rfl bX rfl (by kernel_rfl) (tc_arr _) ?_; intro wY oY bY; have y0 := (cell_in bY 0).trans g0; have y1 := (cell_in bY 1).trans g1))
  have oF : Only w1 wY [] := oX.new oY (fun k hk => by simp only [List.mem_singleton] at hk; omega)
  refine (contains_any KB TB hv hs x.ov x.os wY (Res.only h1 (o1.trans oF) (by simp)) (Res.only h2 (o1.trans oF) (by simp)) (hxs _ oF) hxl).mono ?_
  rintro e w2 ⟨⟨b2, rfl⟩, o2⟩
  have z0 := (cell_in (o2.at bY (by simp)) 0).trans g0
  have z4 : decide (x.k = 4) = false := by simpa using hk.2.2
  have oG := (o1.trans oF).trans o2
  clear y0 y1 bX bY oX oY hxs hx
  generalize x.k = kk at *
  go_wp2_with fail
  all_goals first
    | (go_ret; exact ⟨⟨_, rfl⟩, oG⟩)
    | trace_state
end Go.Proofs.YtmmhbehlpppdiaaGreatDoor.Wl
namespace Go.Proofs.YtmmhbehlpppdiaaGreatDoor.Wl
open Go.RowKit Go.Pw

def grL (hs : List Bool) (n : Nat) : List Bool := hs ++ List.replicate (n - hs.length) false
theorem grL_len {hs : List Bool} {n : Nat} (h : hs.length ≤ n) : (grL hs n).length = n := by simp [grL]; omega
def GrowP (w0 : World) (KB TB TM : Nat) (v : Value) (l : List Tm) (hs : List Bool) (rs : List Res) (e : Ending) (w' : World) : Prop :=
  e = .returned (.tuple #[]) ∧ ∃ hv', Sep w0 w' (tabR TB TM v l (knR KB TB hv' (grL hs l.length) rs))
set_option maxRecDepth 100000 in
set_option maxHeartbeats 1600000 in
theorem grow_any {w0 : World} {rs : List Res} (KB TB TM : Nat) (v hv : Value) (l : List Tm) (hs : List Bool) (w : World) (h : Sep w0 w (tabR TB TM v l (knR KB TB hv hs rs))) (hl : l.length ≤ 900000) (hh : hs.length ≤ l.length) :
    Calls Tryz.prog 116 #[.pointer (some ⟨KB, 0, none⟩)] w (GrowP w0 KB TB TM v l hs rs) := by
  obtain ⟨i0, hi, hz0, hz1, hz2⟩ := info_parts info_bool
  obtain ⟨ao, c, rfl⟩ := own_slice (show w.ownsRow 0 4 1 hv hs.length (bl hs) from h.get 5 rfl)
  have e0 : IntKind.i64.wrap ((l.length : Int) - hs.length) = ((l.length - hs.length : Nat) : Int) := by rw [IntWalk.i64_in _ (by omega)]; omega
  have HL : Hid (bl hs ++ List.replicate (l.length - hs.length) (.bool false) = bl (grL hs l.length)) := by simp [Hid, bl, grL]
  have HK : Hid (hs.length + (l.length - hs.length) = l.length) := by rw [Hid]; omega
  go_enter Tryz.func116, Tryz.ntmps116
  go_upto_region 0 with fail
  have sR := h.quiet (Only.drew w [])
  clear h
  refine wp_region_u (S := fun w' => w'.heap[KB]? = some (.cells #[.pointer (some ⟨TB, 0, none⟩), .slice ao hs.length c] 224 (0, 0))) 19 [] (by kernel_rfl) (by kernel_rfl) (sR.get 4 rfl) (fun hZ hHeld => ?_)
  refine' wpAnyU_take (i := 0) (v := _) hZ (op_at' rfl) (by kernel_rfl) (by kernel_rfl) (by kernel_rfl) (by kernel_rfl) (by kernel_rfl) (fun _ _ _ h => h) (Or.inl ⟨by rfl, ?hy1⟩) (by assumption) ?rest1
  case hy1 =>
    intro w' hS
    go_simp
    try with_reducible rfl
  try simp only [Act.put, List.setIfInBounds_toArray, List.set_cons_zero, List.set_cons_succ]
  refine' wpAnyU_take (i := 1) (v := _) hZ (op_at' rfl) (by kernel_rfl) (by kernel_rfl) (by kernel_rfl) (by kernel_rfl) (by kernel_rfl) (fun _ _ _ h => h) (Or.inl ⟨by rfl, ?hy2⟩) (by assumption) ?rest2
  case hy2 =>
    intro w' hS
    go_simp
    try with_reducible rfl
  try simp only [Act.put, List.setIfInBounds_toArray, List.set_cons_zero, List.set_cons_succ]
  refine' wpAnyU_take (i := 2) (v := _) hZ (op_at' rfl) (by kernel_rfl) (by kernel_rfl) (by kernel_rfl) (by kernel_rfl) (by kernel_rfl) (fun _ _ _ h => h) (Or.inl ⟨by rfl, ?hy3⟩) (by assumption) ?rest3
  case hy3 =>
    intro w' hS
    go_simp
    try with_reducible rfl
  try simp only [Act.put, List.setIfInBounds_toArray, List.set_cons_zero, List.set_cons_succ]
  refine' wpAnyU_take (i := 3) (v := _) hZ (op_at' rfl) (by kernel_rfl) (by kernel_rfl) (by kernel_rfl) (by kernel_rfl) (by kernel_rfl) (fun _ _ _ h => h) (Or.inl ⟨by rfl, ?hy4⟩) (by assumption) ?rest4
  case hy4 =>
    intro w' hS
    go_simp
    try with_reducible rfl
  try simp only [Act.put, List.setIfInBounds_toArray, List.set_cons_zero, List.set_cons_succ]
  refine' wpAnyU_take (i := 4) (v := _) hZ (op_at' rfl) (by kernel_rfl) (by kernel_rfl) (by kernel_rfl) (by kernel_rfl) (by kernel_rfl) (fun _ _ _ h => h) (Or.inl ⟨by rfl, ?hy5⟩) (by assumption) ?rest5
  case hy5 =>
    intro w' hS
    have c0 := cell_two0 hS
    have c1 := cell_two1 hS
    go_simp
    try with_reducible rfl
  try simp only [Act.put, List.setIfInBounds_toArray, List.set_cons_zero, List.set_cons_succ]
  refine' wpAnyU_take (i := 5) (v := _) hZ (op_at' rfl) (by kernel_rfl) (by kernel_rfl) (by kernel_rfl) (by kernel_rfl) (by kernel_rfl) (fun _ _ _ h => h) (Or.inl ⟨by rfl, ?hy6⟩) (by assumption) ?rest6
  case hy6 =>
    intro w' hS
    go_simp
    try with_reducible rfl
  try simp only [Act.put, List.setIfInBounds_toArray, List.set_cons_zero, List.set_cons_succ]
  refine' wpAnyU_take (i := 6) (v := _) hZ (op_at' rfl) (by kernel_rfl) (by kernel_rfl) (by kernel_rfl) (by kernel_rfl) (by kernel_rfl) (fun _ _ _ h => h) (Or.inl ⟨by rfl, ?hy7⟩) (by assumption) ?rest7
  case hy7 =>
    intro w' hS
    go_simp
    try with_reducible rfl
  try simp only [Act.put, List.setIfInBounds_toArray, List.set_cons_zero, List.set_cons_succ]
  refine' wpAnyU_take (i := 7) (v := _) hZ (op_at' rfl) (by kernel_rfl) (by kernel_rfl) (by kernel_rfl) (by kernel_rfl) (by kernel_rfl) (fun _ _ _ h => h) (Or.inl ⟨by rfl, ?hy8⟩) (by assumption) ?rest8
  case hy8 =>
    intro w' hS
    go_simp
    try with_reducible rfl
  try simp only [Act.put, List.setIfInBounds_toArray, List.set_cons_zero, List.set_cons_succ]
  refine' wpAnyU_take (i := 8) (v := _) hZ (op_at' rfl) (by kernel_rfl) (by kernel_rfl) (by kernel_rfl) (by kernel_rfl) (by kernel_rfl) (fun _ _ _ h => h) (Or.inl ⟨by rfl, ?hy9⟩) (by assumption) ?rest9
  case hy9 =>
    intro w' hS
    have c0 := cell_two0 hS
    have c1 := cell_two1 hS
    go_simp
    try with_reducible rfl
  try simp only [Act.put, List.setIfInBounds_toArray, List.set_cons_zero, List.set_cons_succ]
  refine' wpAnyU_take (i := 10) (v := _) hZ (op_at' rfl) (by kernel_rfl) (by kernel_rfl) (by kernel_rfl) (by kernel_rfl) (by kernel_rfl) (fun _ _ _ h => h) (Or.inl ⟨by rfl, ?hy10⟩) (by assumption) ?rest10
  case hy10 =>
    intro w' hS
    go_simp
    try with_reducible rfl
  try simp only [Act.put, List.setIfInBounds_toArray, List.set_cons_zero, List.set_cons_succ]
  refine' wpAnyU_take (i := 11) (v := _) hZ (op_at' rfl) (by kernel_rfl) (by kernel_rfl) (by kernel_rfl) (by kernel_rfl) (by kernel_rfl) (fun _ _ _ h => h) (Or.inl ⟨by rfl, ?hy11⟩) (by assumption) ?rest11
  case hy11 =>
    intro w' hS
    go_simp
    try with_reducible rfl
  try simp only [Act.put, List.setIfInBounds_toArray, List.set_cons_zero, List.set_cons_succ]
  refine' wpAnyU_take (i := 12) (v := _) hZ (op_at' rfl) (by kernel_rfl) (by kernel_rfl) (by kernel_rfl) (by kernel_rfl) (by kernel_rfl) (fun _ _ _ h => h) (Or.inl ⟨by rfl, ?hy12⟩) (by assumption) ?rest12
  case hy12 =>
    intro w' hS
    go_simp
    try with_reducible rfl
  try simp only [Act.put, List.setIfInBounds_toArray, List.set_cons_zero, List.set_cons_succ]
  refine' wpAnyU_take (i := 13) (v := _) hZ (op_at' rfl) (by kernel_rfl) (by kernel_rfl) (by kernel_rfl) (by kernel_rfl) (by kernel_rfl) (fun _ _ _ h => h) (Or.inl ⟨by rfl, ?hy13⟩) (by assumption) ?rest13
  case hy13 =>
    intro w' hS
    have c0 := cell_two0 hS
    have c1 := cell_two1 hS
    go_simp
    try with_reducible rfl
  try simp only [Act.put, List.setIfInBounds_toArray, List.set_cons_zero, List.set_cons_succ]
  refine' wpAnyU_take (i := 14) (v := _) hZ (op_at' rfl) (by kernel_rfl) (by kernel_rfl) (by kernel_rfl) (by kernel_rfl) (by kernel_rfl) (fun _ _ _ h => h) (Or.inl ⟨by rfl, ?hy14⟩) (by assumption) ?rest14
  case hy14 =>
    intro w' hS
    go_simp
    try with_reducible rfl
  try simp only [Act.put, List.setIfInBounds_toArray, List.set_cons_zero, List.set_cons_succ]
  refine wpAnyU_one (i := 9) (by kernel_rfl) (op_at' rfl) (fun K hK => ?_)
  go_simp
  refine (len_any TB TM v l _ sR).mono ?_
  rintro e w9 ⟨rfl, o9⟩
  have s9 := sR.quiet o9
  go_wp2_with fail
  refine hK.out _ _ (s9.get 4 rfl) (fun hHeld => ?_)
  clear hK K
  try simp only [Act.put, List.setIfInBounds_toArray, List.set_cons_zero, List.set_cons_succ]
  refine' wpAnyU_take (i := 15) (v := _) hZ (op_at' rfl) (by kernel_rfl) (by kernel_rfl) (by kernel_rfl) (by kernel_rfl) (by kernel_rfl) (fun _ _ _ h => h) (Or.inl ⟨by rfl, ?hy15⟩) (by assumption) ?rest15
  case hy15 =>
    intro w' hS
    go_simp
    try with_reducible rfl
  try simp only [Act.put, List.setIfInBounds_toArray, List.set_cons_zero, List.set_cons_succ]
  refine wpAnyU_one (i := 16) (by kernel_rfl) (op_at' rfl) (fun K hK => ?_)
  have sa : Sep w0 w9 (row 4 1 (.slice ao hs.length c) hs.length (bl hs) :: row 296 4 v l.length (fl tc l) :: blk TB [v, .map (some TM)] 242 :: mapT TM l.length :: many (l.map ofR) :: blk KB [.pointer (some ⟨TB, 0, none⟩), .slice ao hs.length c] 224 :: rs) := s9.sel 6 [5, 0, 1, 2, 3, 4]
  refine step_append_zeros (by rfl) (.tmp 6) (.tmp 17) 26 3 (by rfl) 4 i0 (.bool false) .i64 Tryz.underlying26 Tryz.underlying3 hi hz0 hz1 hz2 rfl rfl _ hs.length _ (by rfl) sa (l.length - hs.length) (by rfl) (by omega) (fun a16 c16 w16 o16 s16 => ?_)
  go_wp2_with fail
  refine hK.out _ _ (s16.get 5 rfl) (fun hHeld => ?_)
  clear hK K
  try simp only [Act.put, List.setIfInBounds_toArray, List.set_cons_zero, List.set_cons_succ]
  rw [HK.out, HL.out] at s16
  refine' wpAnyU_take (i := 17) (v := _) hZ (op_at' rfl) (by kernel_rfl) (by kernel_rfl) (by kernel_rfl) (by kernel_rfl) (by kernel_rfl) (fun _ _ _ h => h) (Or.inl ⟨by rfl, ?hy16⟩) (by assumption) ?rest16
  case hy16 =>
    intro w' hS
    go_simp
    try with_reducible rfl
  try simp only [Act.put, List.setIfInBounds_toArray, List.set_cons_zero, List.set_cons_succ]
  refine' wpAnyU_take (i := 18) (v := _) hZ (op_at' rfl) (by kernel_rfl) (by kernel_rfl) (by kernel_rfl) (by kernel_rfl) (by kernel_rfl) (fun _ _ _ h => h) (Or.inl ⟨by rfl, ?hy17⟩) (by assumption) ?rest17
  case hy17 =>
    intro w' hS
    go_simp
    try with_reducible rfl
  try simp only [Act.put, List.setIfInBounds_toArray, List.set_cons_zero, List.set_cons_succ]
  refine wpAnyU_next (i := 19) (by kernel_rfl) (by simp) (op_at' rfl) (fun K hK => ?_)
  refine step_store_blk (by rfl) 26 _ _ (by rfl) KB 1 (.slice a16 l.length c16) [.slice a16 l.length c16] [.pointer (some ⟨TB, 0, none⟩), .slice ao hs.length c] 224 (by rfl) (by rfl) (by rfl) (s16.sel 6 [5, 0, 1, 2, 3, 4]) (by simp) (by kernel_rfl) (by simp [Value.oneCell']) (fun w19 o19 s19 => ?_)
  go_wp2_with fail
  refine hK.out _ _ ?_
  clear hK K
  try simp only [Act.put, List.setIfInBounds_toArray, List.set_cons_zero, List.set_cons_succ]
  refine wpAnyU_done (by kernel_rfl) ?_ _
  go_wp2_with fail
  refine bodyPost_end (v := .tuple #[]) (by simp [results, Tryz.results116, go_sem]) rfl ?_
  refine ⟨rfl, .slice a16 l.length c16, ?_⟩
  simp only [knR, grL_len hh]
  exact s19.sel 6 [2, 3, 4, 5, 0, 1]
end Go.Proofs.YtmmhbehlpppdiaaGreatDoor.Wl
