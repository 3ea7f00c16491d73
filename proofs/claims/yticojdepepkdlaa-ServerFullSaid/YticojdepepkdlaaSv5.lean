/- Has each mailbox room; cancel of layer 19 (server). Printed by gen_sv5.py. -/
import Derived.Test.YticojdepepkdlaaSv4
set_option linter.unusedSimpArgs false
set_option linter.unusedVariables false
namespace Go.Proofs.Yticojdepepkdlaa
open Go.RowKit Go.Pw
set_option linter.unusedVariables false

/-- A closure's contract at some devices. -/
def ClosP (F : Nat) (caps : Array Value) (pd : Int × Int → Bool) (ps : List (Int × Int)) (w : World) : Prop := ∀ x ∈ ps, ∀ w', Only w w' [] → Calls Try.prog F (#[.agg (wc x).toArray] ++ caps) w' fun e w'' => e = .returned (.bool (pd x)) ∧ Only w' w'' []
def idxP (pd : Int × Int → Bool) (l : List (Int × Int)) : Int := if l.findIdx pd < l.length then (l.findIdx pd : Int) else -1
theorem idxP_any (pd : Int × Int → Bool) (l : List (Int × Int)) : decide (0 ≤ idxP pd l) = l.any pd := by
  unfold idxP
  by_cases h : l.findIdx pd < l.length
  · have := List.findIdx_getElem (w := h)
    rw [if_pos h, decide_eq_true (by omega), eq_comm, List.any_eq_true]
    exact ⟨_, List.getElem_mem h, this⟩
  · rw [if_neg h, decide_eq_false (by omega), eq_comm, List.any_eq_false]
    intro x hx hp
    exact h (List.findIdx_lt_length_of_exists ⟨x, hx, hp⟩)

set_option maxRecDepth 100000 in
set_option maxHeartbeats 1600000 in
theorem pindex_any (A : Nat) (pd : Int × Int → Bool) (v : Value) (l : List (Int × Int)) (w : World) (h : Pw.Src w v 2 l.length (fl wc l)) (hl : l.length ≤ 1000) (hF : ClosP 47 #[.pointer (some ⟨A, 0, none⟩)] pd l w) :
    Calls Try.prog 66 #[v, .func (.func 47) #[] #[.pointer (some ⟨A, 0, none⟩)]] w fun e w' => e = .returned (.int .i64 (idxP pd l)) ∧ Only w w' [] := by
  obtain ⟨ao, c, rfl, _⟩ := id h
  have HS := fun (hp : 0 < l.length) => src_rec wc_len (by decide) h hp
  clear h
  go_enter Try.func66, Try.ntmps66
  go_wp2_with fail
  go_loopw [8] (fun i wr => ∃ k : Nat, i = .int .i64 k ∧ k ≤ l.length ∧ Hid (∀ j (hj : j < k), ∀ x, l[j]? = some x → pd x = false) ∧ Only w wr []) (fun i _ => l.length - (intOf i).toNat)
  case atStart => exact ⟨0, rfl, Nat.zero_le _, fun j hj => by omega, Only.refl _ _⟩
  case round =>
    obtain ⟨k, rfl, hk, hq, ho⟩ := hrel
    by_cases hkl : k < l.length
    · obtain ⟨b, o, rfl, hr⟩ := HS (by omega)
      have hrng := hr wr ho k hkl
      have hlk : l[k]? = some l[k] := List.getElem?_eq_getElem hkl
      have hFx := hF l[k] (List.getElem_mem hkl) wr ho
      generalize l[k] = x at *
      have hll := wc_len x
      have Hlk := Lib.hid hlk
      clear hlk HS hr
      have d1 : decide ((k : Int) < l.length) = true := by simpa using hkl
      cases hx : pd x with
      | true =>
        have hfin : Hid (idxP pd l = k) := by
          have e : l.findIdx pd = k := by
            rw [List.findIdx_eq hkl]
            have hlk := Hlk.out
            rw [List.getElem?_eq_getElem hkl] at hlk
            refine ⟨by rw [Option.some.inj hlk]; exact hx, fun j hj => ?_⟩
            have hjl : j < l.length := by omega
            exact hq.out j hj l[j] (List.getElem?_eq_getElem hjl)
          show idxP pd l = _
          rw [idxP, e, if_pos hkl]
        generalize wc x = cs at *
        go_wp2_with (refine wpList_load_mid rfl 27 _ rfl b (o + k * 2) rfl cs _ hrng Try.underlying27 (by rfl) (by rw [hll]; kernel_rfl) ?_)
        refine hFx.mono ?_
        rw [hx]
        rintro e w2 ⟨rfl, ho2⟩
        go_wp2_with fail
        go_ret
        exact ⟨by rw [hfin.out]; rfl, ho.trans ho2⟩
      | false =>
        have hq2 : Hid (∀ j (hj : j < k + 1), ∀ x, l[j]? = some x → pd x = false) := by
          intro j hj y hy
          by_cases hjk : j = k
          · subst hjk
            rw [Hlk.out] at hy
            cases hy
            exact hx
          · exact hq.out j (by omega) y hy
        generalize wc x = cs at *
        go_wp2_with (refine wpList_load_mid rfl 27 _ rfl b (o + k * 2) rfl cs _ hrng Try.underlying27 (by rfl) (by rw [hll]; kernel_rfl) ?_)
        refine hFx.mono ?_
        rw [hx]
        rintro e w2 ⟨rfl, ho2⟩
        go_wp2_with fail
        refine ⟨⟨k + 1, by simp, by omega, hq2.out, ho.trans ho2⟩, by simp [intOf]; omega⟩
    · obtain rfl : k = l.length := by omega
      have d1 : decide ((l.length : Int) < l.length) = false := by simp
      have hfin : Hid (idxP pd l = -1) := by
        show idxP pd l = _
        refine if_neg fun hh => ?_
        have := List.findIdx_getElem (w := hh)
        have h1 := hq.out _ hh l[l.findIdx pd] (List.getElem?_eq_getElem hh)
        exact absurd (this.symm.trans h1) (by simp)
      go_wp2_with fail
      go_ret
      exact ⟨by rw [hfin.out]; rfl, ho⟩

theorem pcontains_any (A : Nat) (pd : Int × Int → Bool) (v : Value) (l : List (Int × Int)) (w : World) (h : Pw.Src w v 2 l.length (fl wc l)) (hl : l.length ≤ 1000) (hF : ClosP 47 #[.pointer (some ⟨A, 0, none⟩)] pd l w) :
    Calls Try.prog 46 #[v, .func (.func 47) #[] #[.pointer (some ⟨A, 0, none⟩)]] w fun e w' => e = .returned (.bool (l.any pd)) ∧ Only w w' [] := by
  have H := pindex_any A pd v l w h hl hF
  have E := Lib.hid (idxP_any pd l)
  obtain ⟨ao, c, rfl, _⟩ := id h
  generalize idxP pd l = x at *
  clear h hF
  go_enter Try.func46, Try.ntmps46
  go_wp2_with fail
  refine H.mono ?_
  rintro e w1 ⟨rfl, o⟩
  go_wp2_with fail
  go_ret
  exact ⟨by rw [← E.out]; rfl, o⟩

/-- Where some devices' mailboxes are, and what room these have. -/
def Rooms (bm : List ((Int × Int) × Value)) (rm : Int × Int → Int) (ps : List (Int × Int)) (w : World) : Prop :=
  ∀ p ∈ ps, ∃ X, getM bm p = some (.pointer (some ⟨X, 0, none⟩)) ∧ ∀ w', Only w w' [] → Calls Try.prog 27 #[.pointer (some ⟨X, 0, none⟩)] w' fun e w'' => e = .returned (.int .i64 (rm p)) ∧ w' = w''
set_option maxRecDepth 100000 in
set_option maxHeartbeats 1600000 in
theorem clos_room {w0 : World} {rs : List Res} (A SB RB BM LM : Nat) (lv : Value) (bm : List ((Int × Int) × Value)) (rm : Int × Int → Int) (ps : List (Int × Int)) (w : World) (hA : w.heap[A]? = some (.cells #[.pointer (some ⟨SB, 0, none⟩)] 24 (0, 0)))
    (h : Sep w0 w (blk SB (sb RB BM LM lv) 69 :: mapR BM bm :: rs)) (hr : Rooms bm rm ps w) :
    ClosP 47 #[.pointer (some ⟨A, 0, none⟩)] (fun p => decide (rm p < 1)) ps w := fun p hp w' ho => by
  obtain ⟨X, hX, hroom⟩ := hr p hp
  have hsb := fun (w'' : World) (o : Only w w'' []) => sb_at (h.quiet o).head
  have hlk := fun (w'' : World) (o : Only w w'' []) => run_lookupW 66 51 (.pointer none) BM bm p ((h.quiet o).sel 2 [1]) Try.underlying66 (fun _ => by kernel_rfl)
  rw [hX] at hlk
  simp only [Option.getD_some] at hlk
  have hAw := ho.at hA (by simp)
  clear h hr hX hA
  obtain ⟨u, d⟩ := p
  show Calls _ _ #[.agg #[.int .i64 u, .int .i64 d], .pointer (some ⟨A, 0, none⟩)] _ _

  go_enter Try.func47, Try.ntmps47
  go_upto_region 1 with ((refine wpList_box_new rfl 27 _ rfl (.agg #[.int .i64 u, .int .i64 d]) rfl ?_; intro Z wZ oZ hZl hZb))
  have hAz := oZ.at hAw (by simp)
  refine wp_region_held_drew (S := fun w' => Only wZ.drew w' []) (by kernel_rfl) (Only.refl _ _) (fun hHeld => ?_)
  refine' wpAnyH_take (i := 0) (v := _) (op_at rfl) (by kernel_rfl) (by kernel_rfl) (by kernel_rfl) (fun _ _ _ h => h) (Or.inl ⟨by rfl, ?hy1⟩) (by assumption) ?rest1
  case hy1 =>
    intro w' hS
    have hc0 := cell_of_one (((Only.drew wZ []).trans hS).at hAz (by simp))
    go_simp
    try with_reducible rfl
  try simp only [Act.put, List.setIfInBounds_toArray, List.set_cons_zero, List.set_cons_succ]
  refine' wpAnyH_take (i := 1) (v := _) (op_at rfl) (by kernel_rfl) (by kernel_rfl) (by kernel_rfl) (fun _ _ _ h => h) (Or.inl ⟨by rfl, ?hy2⟩) (by assumption) ?rest2
  case hy2 =>
    intro w' hS
    go_simp
    try with_reducible rfl
  try simp only [Act.put, List.setIfInBounds_toArray, List.set_cons_zero, List.set_cons_succ]
  refine' wpAnyH_take (i := 2) (v := _) (op_at rfl) (by kernel_rfl) (by kernel_rfl) (by kernel_rfl) (fun _ _ _ h => h) (Or.inl ⟨by rfl, ?hy3⟩) (by assumption) ?rest3
  case hy3 =>
    intro w' hS
    go_simp
    try with_reducible rfl
  try simp only [Act.put, List.setIfInBounds_toArray, List.set_cons_zero, List.set_cons_succ]
  refine' wpAnyH_take (i := 3) (v := _) (op_at rfl) (by kernel_rfl) (by kernel_rfl) (by kernel_rfl) (fun _ _ _ h => h) (Or.inl ⟨by rfl, ?hy4⟩) (by assumption) ?rest4
  case hy4 =>
    intro w' hS
    obtain ⟨c0, c1, c2, c3⟩ := hsb w' (ho.trans (oZ.trans ((Only.drew wZ []).trans hS)))
    go_simp
    try with_reducible rfl
  try simp only [Act.put, List.setIfInBounds_toArray, List.set_cons_zero, List.set_cons_succ]
  refine' wpAnyH_take (i := 4) (v := _) (op_at rfl) (by kernel_rfl) (by kernel_rfl) (by kernel_rfl) (fun _ _ _ h => h) (Or.inl ⟨by rfl, ?hy5⟩) (by assumption) ?rest5
  case hy5 =>
    intro w' hS
    have ht := ((Only.drew wZ []).trans hS).at hZb (by simp)
    have ht0 := cell_two0 ht
    have ht1 := cell_two1 ht
    go_simp
    try with_reducible rfl
  try simp only [Act.put, List.setIfInBounds_toArray, List.set_cons_zero, List.set_cons_succ]
  refine' wpAnyH_take (i := 5) (v := _) (op_at rfl) (by kernel_rfl) (by kernel_rfl) (by kernel_rfl) (fun _ _ _ h => h) (Or.inl ⟨by rfl, ?hy6⟩) (by assumption) ?rest6
  case hy6 =>
    intro w' hS
    have hl_ : (Instr.lookup 66 (.map (some BM)) (.agg #[.int .i64 u, .int .i64 d]) false).run Try.prog w' = .ok (.pointer (some ⟨X, 0, none⟩)) w' := hlk w' (ho.trans (oZ.trans ((Only.drew wZ []).trans hS)))
    go_simp
    try with_reducible rfl
  try simp only [Act.put, List.setIfInBounds_toArray, List.set_cons_zero, List.set_cons_succ]
  refine wpAnyH_ready (rs := [6]) (by kernel_rfl) (by simp) (AllReadyH.cons (op_at rfl) (fun K hK => ?_) AllReadyH.nil)
  go_simp
  refine (hroom _ (ho.trans (oZ.trans (Only.drew wZ [])))).mono fun e w3 hq => ?_
  obtain ⟨rfl, rfl⟩ := hq
  go_wp2_with fail
  refine hK.out _ _ hHeld (fun hHeld => ?_)
  clear hK K
  try simp only [Act.put, List.setIfInBounds_toArray, List.set_cons_zero, List.set_cons_succ]
  refine' wpAnyH_take (i := 7) (v := _) (op_at rfl) (by kernel_rfl) (by kernel_rfl) (by kernel_rfl) (fun _ _ _ h => h) (Or.inl ⟨by rfl, ?hy7⟩) (by assumption) ?rest7
  case hy7 =>
    intro w' hS
    go_simp
    try with_reducible rfl
  try simp only [Act.put, List.setIfInBounds_toArray, List.set_cons_zero, List.set_cons_succ]
  refine' wpAnyH_take (i := 8) (v := _) (op_at rfl) (by kernel_rfl) (by kernel_rfl) (by kernel_rfl) (fun _ _ _ h => h) (Or.inl ⟨by rfl, ?hy8⟩) (by assumption) ?rest8
  case hy8 =>
    intro w' hS
    go_simp
    try with_reducible rfl
  try simp only [Act.put, List.setIfInBounds_toArray, List.set_cons_zero, List.set_cons_succ]
  refine wpAnyH_done (by kernel_rfl) ?_ _
  go_wp2_with fail
  go_ret
  exact ⟨rfl, oZ.trans ((Only.drew wZ []).trans hHeld)⟩


set_option maxRecDepth 100000 in
set_option maxHeartbeats 1600000 in
theorem cancel_same {w0 : World} {rs : List Res} (SB RB BM LM : Nat) (v : Value) (l : List Li) (bm lm : List ((Int × Int) × Value)) (lv : Value) (logs : List Sn) (k u d n tr to : Int) (ev : Value) (up : Int) (vb : Value) (w : World) (h : Sep w0 w (srvR SB RB BM LM v l bm lm lv logs rs)) (hlast : (getM lm (u, d)).getD (.agg #[.int .u32 0, .bool false]) = .agg #[.int .u32 n, .bool false]) :
    Calls Try.prog 24 #[.pointer (some ⟨SB, 0, none⟩), .agg (ac k u d n tr to ev up vb).toArray] w (fun e w' => e = .returned (.int .i64 0) ∧ Sep w0 w' (srvR SB RB BM LM v l bm lm lv logs rs)) := by
  have hsb := fun (w' : World) (o : Only w w' []) => sb_at ((h.quiet o).sel 4 [3]).head
  have hlk := fun (w' : World) (o : Only w w' []) => run_lookupW 67 101 (.agg #[.int .u32 0, .bool false]) LM lm (u, d) ((h.quiet o).sel 6 [5]) Try.underlying67 (fun _ => by kernel_rfl)
  rw [hlast] at hlk
  have g1 : (ac k u d n tr to ev up vb).toArray[1]? = some (.int .i64 u) := rfl
  have g2 : (ac k u d n tr to ev up vb).toArray[2]? = some (.int .i64 d) := rfl
  have g3 : (ac k u d n tr to ev up vb).toArray[3]? = some (.int .u32 n) := rfl
  have hal := ac_len k u d n tr to ev up vb
  generalize ac k u d n tr to ev up vb = cs at *
  clear hlast
  go_enter Try.func24, Try.ntmps24
  go_upto_region 1 with ((refine wpList_box_new rfl 45 _ rfl (.agg cs.toArray) rfl ?_; intro Z wZ oZ hZl hZb))
  have sZ : Sep w0 wZ (blk Z cs 45 :: srvR SB RB BM LM v l bm lm lv logs rs) := h.add oZ hZb (fun k hk => by simp [blk] at hk; omega)
  have sD := sZ.quiet (Only.drew wZ [])
  clear h sZ
  refine wp_region_t (S := fun w' => Only wZ.drew w' []) 8 (by kernel_rfl) (by kernel_rfl) (Only.refl _ _) (fun hZ hHeld => ?_)
  refine' wpAnyT_take (i := 0) (v := _) hZ (op_at' rfl) (by rfl) (by kernel_rfl) (by kernel_rfl) (by kernel_rfl) (by kernel_rfl) (fun _ _ _ h => h) (Or.inl ⟨by rfl, ?hy9⟩) (by assumption) ?rest9
  case hy9 =>
    intro w' hS
    go_simp
    try with_reducible rfl
  try simp only [Act.put, List.setIfInBounds_toArray, List.set_cons_zero, List.set_cons_succ]
  refine' wpAnyT_take (i := 1) (v := _) hZ (op_at' rfl) (by rfl) (by kernel_rfl) (by kernel_rfl) (by kernel_rfl) (by kernel_rfl) (fun _ _ _ h => h) (Or.inl ⟨by rfl, ?hy10⟩) (by assumption) ?rest10
  case hy10 =>
    intro w' hS
    go_simp
    try with_reducible rfl
  try simp only [Act.put, List.setIfInBounds_toArray, List.set_cons_zero, List.set_cons_succ]
  refine' wpAnyT_take (i := 2) (v := _) hZ (op_at' rfl) (by rfl) (by kernel_rfl) (by kernel_rfl) (by kernel_rfl) (by kernel_rfl) (fun _ _ _ h => h) (Or.inl ⟨by rfl, ?hy11⟩) (by assumption) ?rest11
  case hy11 =>
    intro w' hS
    go_simp
    try with_reducible rfl
  try simp only [Act.put, List.setIfInBounds_toArray, List.set_cons_zero, List.set_cons_succ]
  refine' wpAnyT_take (i := 3) (v := _) hZ (op_at' rfl) (by rfl) (by kernel_rfl) (by kernel_rfl) (by kernel_rfl) (by kernel_rfl) (fun _ _ _ h => h) (Or.inl ⟨by rfl, ?hy12⟩) (by assumption) ?rest12
  case hy12 =>
    intro w' hS
    obtain ⟨c0, c1, c2, c3⟩ := hsb w' (oZ.trans ((Only.drew wZ []).trans hS))
    go_simp
    try with_reducible rfl
  try simp only [Act.put, List.setIfInBounds_toArray, List.set_cons_zero, List.set_cons_succ]
  refine' wpAnyT_take (i := 4) (v := _) hZ (op_at' rfl) (by rfl) (by kernel_rfl) (by kernel_rfl) (by kernel_rfl) (by kernel_rfl) (fun _ _ _ h => h) (Or.inl ⟨by rfl, ?hy13⟩) (by assumption) ?rest13
  case hy13 =>
    intro w' hS
    go_simp
    try with_reducible rfl
  try simp only [Act.put, List.setIfInBounds_toArray, List.set_cons_zero, List.set_cons_succ]
  refine' wpAnyT_take (i := 5) (v := _) hZ (op_at' rfl) (by rfl) (by kernel_rfl) (by kernel_rfl) (by kernel_rfl) (by kernel_rfl) (fun _ _ _ h => h) (Or.inl ⟨by rfl, ?hy14⟩) (by assumption) ?rest14
  case hy14 =>
    intro w' hS
    have hz_ := ((Only.drew wZ []).trans hS).at hZb (by simp)
    have z1 := (cell_in hz_ 1).trans g1
    have z2 := (cell_in hz_ 2).trans g2
    go_simp
    try with_reducible rfl
  try simp only [Act.put, List.setIfInBounds_toArray, List.set_cons_zero, List.set_cons_succ]
  refine' wpAnyT_take (i := 6) (v := _) hZ (op_at' rfl) (by rfl) (by kernel_rfl) (by kernel_rfl) (by kernel_rfl) (by kernel_rfl) (fun _ _ _ h => h) (Or.inl ⟨by rfl, ?hy15⟩) (by assumption) ?rest15
  case hy15 =>
    intro w' hS
    have hl_ : (Instr.lookup 67 (.map (some LM)) (.agg #[.int .i64 u, .int .i64 d]) false).run Try.prog w' = .ok (.agg #[.int .u32 n, .bool false]) w' := hlk w' (oZ.trans ((Only.drew wZ []).trans hS))
    go_simp
    try with_reducible rfl
  try simp only [Act.put, List.setIfInBounds_toArray, List.set_cons_zero, List.set_cons_succ]
  refine wpAnyT_one (i := 7) (by kernel_rfl) (op_at' rfl) (fun K hK => ?_)
  refine step_alloc_new (by rfl) 101 (by rfl) (.agg #[.int .u32 0, .bool false]) (fun _ => by kernel_rfl) (fun T5 w7 o7 l7 h7 => ?_)
  go_wp2_with fail
  refine hK.out _ _ o7 (fun hHeld => ?_)
  clear hK K
  try simp only [Act.put, List.setIfInBounds_toArray, List.set_cons_zero, List.set_cons_succ]
  refine wpAnyT_last (by kernel_rfl) (op_at' rfl) (by kernel_rfl) (fun K hK => ?_)
  refine step_store_blk (by rfl) 101 _ _ (by rfl) T5 0 (.agg #[.int .u32 n, .bool false]) [.int .u32 n, .bool false] [.int .u32 0, .bool false] 101 (by rfl) (by rfl) (by rfl) (sD.add (b := blk T5 [.int .u32 0, .bool false] 101) o7 h7 (fun k hk => by simp [blk] at hk; omega)) (by simp) (by kernel_rfl) (by simp [Value.oneCell']) (fun w8 o8 s8 => ?_)
  go_wp2_with fail
  refine hK.out _ _ ?_
  clear hK K
  try simp only [Act.put, List.setIfInBounds_toArray, List.set_cons_zero, List.set_cons_succ]
  have hZ7 : w8.heap[Z]? = some (.cells cs.toArray 45 (0, 0)) := (s8.sel 2 [1]).head
  have z1 := (cell_in hZ7 1).trans g1
  have z2 := (cell_in hZ7 2).trans g2
  have z3 := (cell_in hZ7 3).trans g3
  have hT8 : w8.heap[T5]? = some (.cells #[.int .u32 n, .bool false] 101 (0, 0)) := s8.head
  have t0 := cell_two0 hT8
  have t1 := cell_two1 hT8
  clear hT8 sD hlk hsb hZ hHeld
  go_wp2_with fail
  go_ret
  exact ⟨rfl, s8.sel 2 []⟩

set_option maxRecDepth 100000 in
set_option maxHeartbeats 1600000 in
theorem cancel_used {w0 : World} {rs : List Res} (SB RB BM LM : Nat) (v : Value) (l : List Li) (bm lm : List ((Int × Int) × Value)) (lv : Value) (logs : List Sn) (k u d n tr to : Int) (ev : Value) (up : Int) (vb : Value) (w : World) (h : Sep w0 w (srvR SB RB BM LM v l bm lm lv logs rs)) (hlast : (getM lm (u, d)).getD (.agg #[.int .u32 0, .bool false]) = .agg #[.int .u32 n, .bool true]) :
    Calls Try.prog 24 #[.pointer (some ⟨SB, 0, none⟩), .agg (ac k u d n tr to ev up vb).toArray] w (fun e w' => e = .returned (.int .i64 8) ∧ Sep w0 w' (srvR SB RB BM LM v l bm lm lv logs rs)) := by
  have hsb := fun (w' : World) (o : Only w w' []) => sb_at ((h.quiet o).sel 4 [3]).head
  have hlk := fun (w' : World) (o : Only w w' []) => run_lookupW 67 101 (.agg #[.int .u32 0, .bool false]) LM lm (u, d) ((h.quiet o).sel 6 [5]) Try.underlying67 (fun _ => by kernel_rfl)
  rw [hlast] at hlk
  have g1 : (ac k u d n tr to ev up vb).toArray[1]? = some (.int .i64 u) := rfl
  have g2 : (ac k u d n tr to ev up vb).toArray[2]? = some (.int .i64 d) := rfl
  have g3 : (ac k u d n tr to ev up vb).toArray[3]? = some (.int .u32 n) := rfl
  have hal := ac_len k u d n tr to ev up vb
  generalize ac k u d n tr to ev up vb = cs at *
  clear hlast
  go_enter Try.func24, Try.ntmps24
  go_upto_region 1 with ((refine wpList_box_new rfl 45 _ rfl (.agg cs.toArray) rfl ?_; intro Z wZ oZ hZl hZb))
  have sZ : Sep w0 wZ (blk Z cs 45 :: srvR SB RB BM LM v l bm lm lv logs rs) := h.add oZ hZb (fun k hk => by simp [blk] at hk; omega)
  have sD := sZ.quiet (Only.drew wZ [])
  clear h sZ
  refine wp_region_t (S := fun w' => Only wZ.drew w' []) 8 (by kernel_rfl) (by kernel_rfl) (Only.refl _ _) (fun hZ hHeld => ?_)
  refine' wpAnyT_take (i := 0) (v := _) hZ (op_at' rfl) (by rfl) (by kernel_rfl) (by kernel_rfl) (by kernel_rfl) (by kernel_rfl) (fun _ _ _ h => h) (Or.inl ⟨by rfl, ?hy16⟩) (by assumption) ?rest16
  case hy16 =>
    intro w' hS
    go_simp
    try with_reducible rfl
  try simp only [Act.put, List.setIfInBounds_toArray, List.set_cons_zero, List.set_cons_succ]
  refine' wpAnyT_take (i := 1) (v := _) hZ (op_at' rfl) (by rfl) (by kernel_rfl) (by kernel_rfl) (by kernel_rfl) (by kernel_rfl) (fun _ _ _ h => h) (Or.inl ⟨by rfl, ?hy17⟩) (by assumption) ?rest17
  case hy17 =>
    intro w' hS
    go_simp
    try with_reducible rfl
  try simp only [Act.put, List.setIfInBounds_toArray, List.set_cons_zero, List.set_cons_succ]
  refine' wpAnyT_take (i := 2) (v := _) hZ (op_at' rfl) (by rfl) (by kernel_rfl) (by kernel_rfl) (by kernel_rfl) (by kernel_rfl) (fun _ _ _ h => h) (Or.inl ⟨by rfl, ?hy18⟩) (by assumption) ?rest18
  case hy18 =>
    intro w' hS
    go_simp
    try with_reducible rfl
  try simp only [Act.put, List.setIfInBounds_toArray, List.set_cons_zero, List.set_cons_succ]
  refine' wpAnyT_take (i := 3) (v := _) hZ (op_at' rfl) (by rfl) (by kernel_rfl) (by kernel_rfl) (by kernel_rfl) (by kernel_rfl) (fun _ _ _ h => h) (Or.inl ⟨by rfl, ?hy19⟩) (by assumption) ?rest19
  case hy19 =>
    intro w' hS
    obtain ⟨c0, c1, c2, c3⟩ := hsb w' (oZ.trans ((Only.drew wZ []).trans hS))
    go_simp
    try with_reducible rfl
  try simp only [Act.put, List.setIfInBounds_toArray, List.set_cons_zero, List.set_cons_succ]
  refine' wpAnyT_take (i := 4) (v := _) hZ (op_at' rfl) (by rfl) (by kernel_rfl) (by kernel_rfl) (by kernel_rfl) (by kernel_rfl) (fun _ _ _ h => h) (Or.inl ⟨by rfl, ?hy20⟩) (by assumption) ?rest20
  case hy20 =>
    intro w' hS
    go_simp
    try with_reducible rfl
  try simp only [Act.put, List.setIfInBounds_toArray, List.set_cons_zero, List.set_cons_succ]
  refine' wpAnyT_take (i := 5) (v := _) hZ (op_at' rfl) (by rfl) (by kernel_rfl) (by kernel_rfl) (by kernel_rfl) (by kernel_rfl) (fun _ _ _ h => h) (Or.inl ⟨by rfl, ?hy21⟩) (by assumption) ?rest21
  case hy21 =>
    intro w' hS
    have hz_ := ((Only.drew wZ []).trans hS).at hZb (by simp)
    have z1 := (cell_in hz_ 1).trans g1
    have z2 := (cell_in hz_ 2).trans g2
    go_simp
    try with_reducible rfl
  try simp only [Act.put, List.setIfInBounds_toArray, List.set_cons_zero, List.set_cons_succ]
  refine' wpAnyT_take (i := 6) (v := _) hZ (op_at' rfl) (by rfl) (by kernel_rfl) (by kernel_rfl) (by kernel_rfl) (by kernel_rfl) (fun _ _ _ h => h) (Or.inl ⟨by rfl, ?hy22⟩) (by assumption) ?rest22
  case hy22 =>
    intro w' hS
    have hl_ : (Instr.lookup 67 (.map (some LM)) (.agg #[.int .i64 u, .int .i64 d]) false).run Try.prog w' = .ok (.agg #[.int .u32 n, .bool true]) w' := hlk w' (oZ.trans ((Only.drew wZ []).trans hS))
    go_simp
    try with_reducible rfl
  try simp only [Act.put, List.setIfInBounds_toArray, List.set_cons_zero, List.set_cons_succ]
  refine wpAnyT_one (i := 7) (by kernel_rfl) (op_at' rfl) (fun K hK => ?_)
  refine step_alloc_new (by rfl) 101 (by rfl) (.agg #[.int .u32 0, .bool false]) (fun _ => by kernel_rfl) (fun T5 w7 o7 l7 h7 => ?_)
  go_wp2_with fail
  refine hK.out _ _ o7 (fun hHeld => ?_)
  clear hK K
  try simp only [Act.put, List.setIfInBounds_toArray, List.set_cons_zero, List.set_cons_succ]
  refine wpAnyT_last (by kernel_rfl) (op_at' rfl) (by kernel_rfl) (fun K hK => ?_)
  refine step_store_blk (by rfl) 101 _ _ (by rfl) T5 0 (.agg #[.int .u32 n, .bool true]) [.int .u32 n, .bool true] [.int .u32 0, .bool false] 101 (by rfl) (by rfl) (by rfl) (sD.add (b := blk T5 [.int .u32 0, .bool false] 101) o7 h7 (fun k hk => by simp [blk] at hk; omega)) (by simp) (by kernel_rfl) (by simp [Value.oneCell']) (fun w8 o8 s8 => ?_)
  go_wp2_with fail
  refine hK.out _ _ ?_
  clear hK K
  try simp only [Act.put, List.setIfInBounds_toArray, List.set_cons_zero, List.set_cons_succ]
  have hZ7 : w8.heap[Z]? = some (.cells cs.toArray 45 (0, 0)) := (s8.sel 2 [1]).head
  have z1 := (cell_in hZ7 1).trans g1
  have z2 := (cell_in hZ7 2).trans g2
  have z3 := (cell_in hZ7 3).trans g3
  have hT8 : w8.heap[T5]? = some (.cells #[.int .u32 n, .bool true] 101 (0, 0)) := s8.head
  have t0 := cell_two0 hT8
  have t1 := cell_two1 hT8
  clear hT8 sD hlk hsb hZ hHeld
  have d1 : decide (n ≤ n) = true := by simp
  go_wp2_with fail
  go_ret
  exact ⟨rfl, s8.sel 2 []⟩

set_option maxRecDepth 100000 in
set_option maxHeartbeats 1600000 in
theorem cancel_new {w0 : World} {rs : List Res} (SB RB BM LM : Nat) (v : Value) (l : List Li) (bm lm : List ((Int × Int) × Value)) (lv : Value) (logs : List Sn) (k u d n tr to : Int) (ev : Value) (up : Int) (vb : Value) (w : World) (h : Sep w0 w (srvR SB RB BM LM v l bm lm lv logs rs)) (hlast : (getM lm (u, d)).getD (.agg #[.int .u32 0, .bool false]) = .agg #[.int .u32 0, .bool false]) (hn : 0 < n) :
    Calls Try.prog 24 #[.pointer (some ⟨SB, 0, none⟩), .agg (ac k u d n tr to ev up vb).toArray] w (fun e w' => e = .returned (.int .i64 0) ∧ Sep w0 w' (srvR SB RB BM LM v l bm (putM lm (u, d) (.agg #[.int .u32 n, .bool false])) lv logs rs)) := by
  have hsb := fun (w' : World) (o : Only w w' []) => sb_at ((h.quiet o).sel 4 [3]).head
  have hlk := fun (w' : World) (o : Only w w' []) => run_lookupW 67 101 (.agg #[.int .u32 0, .bool false]) LM lm (u, d) ((h.quiet o).sel 6 [5]) Try.underlying67 (fun _ => by kernel_rfl)
  rw [hlast] at hlk
  have g1 : (ac k u d n tr to ev up vb).toArray[1]? = some (.int .i64 u) := rfl
  have g2 : (ac k u d n tr to ev up vb).toArray[2]? = some (.int .i64 d) := rfl
  have g3 : (ac k u d n tr to ev up vb).toArray[3]? = some (.int .u32 n) := rfl
  have hal := ac_len k u d n tr to ev up vb
  generalize ac k u d n tr to ev up vb = cs at *
  clear hlast
  go_enter Try.func24, Try.ntmps24
  go_upto_region 1 with ((refine wpList_box_new rfl 45 _ rfl (.agg cs.toArray) rfl ?_; intro Z wZ oZ hZl hZb))
  have sZ : Sep w0 wZ (blk Z cs 45 :: srvR SB RB BM LM v l bm lm lv logs rs) := h.add oZ hZb (fun k hk => by simp [blk] at hk; omega)
  have sD := sZ.quiet (Only.drew wZ [])
  clear h sZ
  refine wp_region_t (S := fun w' => Only wZ.drew w' []) 8 (by kernel_rfl) (by kernel_rfl) (Only.refl _ _) (fun hZ hHeld => ?_)
  refine' wpAnyT_take (i := 0) (v := _) hZ (op_at' rfl) (by rfl) (by kernel_rfl) (by kernel_rfl) (by kernel_rfl) (by kernel_rfl) (fun _ _ _ h => h) (Or.inl ⟨by rfl, ?hy32⟩) (by assumption) ?rest32
  case hy32 =>
    intro w' hS
    go_simp
    try with_reducible rfl
  try simp only [Act.put, List.setIfInBounds_toArray, List.set_cons_zero, List.set_cons_succ]
  refine' wpAnyT_take (i := 1) (v := _) hZ (op_at' rfl) (by rfl) (by kernel_rfl) (by kernel_rfl) (by kernel_rfl) (by kernel_rfl) (fun _ _ _ h => h) (Or.inl ⟨by rfl, ?hy33⟩) (by assumption) ?rest33
  case hy33 =>
    intro w' hS
    go_simp
    try with_reducible rfl
  try simp only [Act.put, List.setIfInBounds_toArray, List.set_cons_zero, List.set_cons_succ]
  refine' wpAnyT_take (i := 2) (v := _) hZ (op_at' rfl) (by rfl) (by kernel_rfl) (by kernel_rfl) (by kernel_rfl) (by kernel_rfl) (fun _ _ _ h => h) (Or.inl ⟨by rfl, ?hy34⟩) (by assumption) ?rest34
  case hy34 =>
    intro w' hS
    go_simp
    try with_reducible rfl
  try simp only [Act.put, List.setIfInBounds_toArray, List.set_cons_zero, List.set_cons_succ]
  refine' wpAnyT_take (i := 3) (v := _) hZ (op_at' rfl) (by rfl) (by kernel_rfl) (by kernel_rfl) (by kernel_rfl) (by kernel_rfl) (fun _ _ _ h => h) (Or.inl ⟨by rfl, ?hy35⟩) (by assumption) ?rest35
  case hy35 =>
    intro w' hS
    obtain ⟨c0, c1, c2, c3⟩ := hsb w' (oZ.trans ((Only.drew wZ []).trans hS))
    go_simp
    try with_reducible rfl
  try simp only [Act.put, List.setIfInBounds_toArray, List.set_cons_zero, List.set_cons_succ]
  refine' wpAnyT_take (i := 4) (v := _) hZ (op_at' rfl) (by rfl) (by kernel_rfl) (by kernel_rfl) (by kernel_rfl) (by kernel_rfl) (fun _ _ _ h => h) (Or.inl ⟨by rfl, ?hy36⟩) (by assumption) ?rest36
  case hy36 =>
    intro w' hS
    go_simp
    try with_reducible rfl
  try simp only [Act.put, List.setIfInBounds_toArray, List.set_cons_zero, List.set_cons_succ]
  refine' wpAnyT_take (i := 5) (v := _) hZ (op_at' rfl) (by rfl) (by kernel_rfl) (by kernel_rfl) (by kernel_rfl) (by kernel_rfl) (fun _ _ _ h => h) (Or.inl ⟨by rfl, ?hy37⟩) (by assumption) ?rest37
  case hy37 =>
    intro w' hS
    have hz_ := ((Only.drew wZ []).trans hS).at hZb (by simp)
    have z1 := (cell_in hz_ 1).trans g1
    have z2 := (cell_in hz_ 2).trans g2
    go_simp
    try with_reducible rfl
  try simp only [Act.put, List.setIfInBounds_toArray, List.set_cons_zero, List.set_cons_succ]
  refine' wpAnyT_take (i := 6) (v := _) hZ (op_at' rfl) (by rfl) (by kernel_rfl) (by kernel_rfl) (by kernel_rfl) (by kernel_rfl) (fun _ _ _ h => h) (Or.inl ⟨by rfl, ?hy38⟩) (by assumption) ?rest38
  case hy38 =>
    intro w' hS
    have hl_ : (Instr.lookup 67 (.map (some LM)) (.agg #[.int .i64 u, .int .i64 d]) false).run Try.prog w' = .ok (.agg #[.int .u32 0, .bool false]) w' := hlk w' (oZ.trans ((Only.drew wZ []).trans hS))
    go_simp
    try with_reducible rfl
  try simp only [Act.put, List.setIfInBounds_toArray, List.set_cons_zero, List.set_cons_succ]
  refine wpAnyT_one (i := 7) (by kernel_rfl) (op_at' rfl) (fun K hK => ?_)
  refine step_alloc_new (by rfl) 101 (by rfl) (.agg #[.int .u32 0, .bool false]) (fun _ => by kernel_rfl) (fun T5 w7 o7 l7 h7 => ?_)
  go_wp2_with fail
  refine hK.out _ _ o7 (fun hHeld => ?_)
  clear hK K
  try simp only [Act.put, List.setIfInBounds_toArray, List.set_cons_zero, List.set_cons_succ]
  refine wpAnyT_last (by kernel_rfl) (op_at' rfl) (by kernel_rfl) (fun K hK => ?_)
  refine step_store_blk (by rfl) 101 _ _ (by rfl) T5 0 (.agg #[.int .u32 0, .bool false]) [.int .u32 0, .bool false] [.int .u32 0, .bool false] 101 (by rfl) (by rfl) (by rfl) (sD.add (b := blk T5 [.int .u32 0, .bool false] 101) o7 h7 (fun k hk => by simp [blk] at hk; omega)) (by simp) (by kernel_rfl) (by simp [Value.oneCell']) (fun w8 o8 s8 => ?_)
  go_wp2_with fail
  refine hK.out _ _ ?_
  clear hK K
  try simp only [Act.put, List.setIfInBounds_toArray, List.set_cons_zero, List.set_cons_succ]
  have hZ7 : w8.heap[Z]? = some (.cells cs.toArray 45 (0, 0)) := (s8.sel 2 [1]).head
  have z1 := (cell_in hZ7 1).trans g1
  have z2 := (cell_in hZ7 2).trans g2
  have z3 := (cell_in hZ7 3).trans g3
  have hT8 : w8.heap[T5]? = some (.cells #[.int .u32 0, .bool false] 101 (0, 0)) := s8.head
  have t0 := cell_two0 hT8
  have t1 := cell_two1 hT8
  clear hT8 sD hlk hsb hZ hHeld
  have d1 : (n == 0) = false := by simp; omega
  have d2 : decide (n ≤ 0) = false := by simp; omega
  go_upto_region 6 with fail
  have sD := s8.quiet (Only.drew w8 [])
  clear z1 z2 z3 t0 t1 s8
  refine wp_region_t (S := fun w' => Only w8.drew w' []) 9 (by kernel_rfl) (by kernel_rfl) (Only.refl _ _) (fun hZ hHeld => ?_)
  refine' wpAnyT_take (i := 0) (v := _) hZ (op_at' rfl) (by rfl) (by kernel_rfl) (by kernel_rfl) (by kernel_rfl) (by kernel_rfl) (fun _ _ _ h => h) (Or.inl ⟨by rfl, ?hy23⟩) (by assumption) ?rest23
  case hy23 =>
    intro w' hS
    go_simp
    try with_reducible rfl
  try simp only [Act.put, List.setIfInBounds_toArray, List.set_cons_zero, List.set_cons_succ]
  refine' wpAnyT_take (i := 1) (v := _) hZ (op_at' rfl) (by rfl) (by kernel_rfl) (by kernel_rfl) (by kernel_rfl) (by kernel_rfl) (fun _ _ _ h => h) (Or.inl ⟨by rfl, ?hy24⟩) (by assumption) ?rest24
  case hy24 =>
    intro w' hS
    go_simp
    try with_reducible rfl
  try simp only [Act.put, List.setIfInBounds_toArray, List.set_cons_zero, List.set_cons_succ]
  refine' wpAnyT_take (i := 2) (v := _) hZ (op_at' rfl) (by rfl) (by kernel_rfl) (by kernel_rfl) (by kernel_rfl) (by kernel_rfl) (fun _ _ _ h => h) (Or.inl ⟨by rfl, ?hy25⟩) (by assumption) ?rest25
  case hy25 =>
    intro w' hS
    go_simp
    try with_reducible rfl
  try simp only [Act.put, List.setIfInBounds_toArray, List.set_cons_zero, List.set_cons_succ]
  refine' wpAnyT_take (i := 3) (v := _) hZ (op_at' rfl) (by rfl) (by kernel_rfl) (by kernel_rfl) (by kernel_rfl) (by kernel_rfl) (fun _ _ _ h => h) (Or.inl ⟨by rfl, ?hy26⟩) (by assumption) ?rest26
  case hy26 =>
    intro w' hS
    obtain ⟨c0, c1, c2, c3⟩ := sb_at ((sD.quiet hS).sel 6 [5]).head
    go_simp
    try with_reducible rfl
  try simp only [Act.put, List.setIfInBounds_toArray, List.set_cons_zero, List.set_cons_succ]
  refine' wpAnyT_take (i := 4) (v := _) hZ (op_at' rfl) (by rfl) (by kernel_rfl) (by kernel_rfl) (by kernel_rfl) (by kernel_rfl) (fun _ _ _ h => h) (Or.inl ⟨by rfl, ?hy27⟩) (by assumption) ?rest27
  case hy27 =>
    intro w' hS
    go_simp
    try with_reducible rfl
  try simp only [Act.put, List.setIfInBounds_toArray, List.set_cons_zero, List.set_cons_succ]
  refine' wpAnyT_take (i := 5) (v := _) hZ (op_at' rfl) (by rfl) (by kernel_rfl) (by kernel_rfl) (by kernel_rfl) (by kernel_rfl) (fun _ _ _ h => h) (Or.inl ⟨by rfl, ?hy28⟩) (by assumption) ?rest28
  case hy28 =>
    intro w' hS
    have hz_ := ((Only.drew w8 []).trans hS).at hZ7 (by simp)
    have z1 := (cell_in hz_ 1).trans g1
    have z2 := (cell_in hz_ 2).trans g2
    go_simp
    try with_reducible rfl
  try simp only [Act.put, List.setIfInBounds_toArray, List.set_cons_zero, List.set_cons_succ]
  refine' wpAnyT_take (i := 6) (v := _) hZ (op_at' rfl) (by rfl) (by kernel_rfl) (by kernel_rfl) (by kernel_rfl) (by kernel_rfl) (fun _ _ _ h => h) (Or.inl ⟨by rfl, ?hy29⟩) (by assumption) ?rest29
  case hy29 =>
    intro w' hS
    go_simp
    try with_reducible rfl
  try simp only [Act.put, List.setIfInBounds_toArray, List.set_cons_zero, List.set_cons_succ]
  refine' wpAnyT_take (i := 7) (v := _) hZ (op_at' rfl) (by rfl) (by kernel_rfl) (by kernel_rfl) (by kernel_rfl) (by kernel_rfl) (fun _ _ _ h => h) (Or.inl ⟨by rfl, ?hy30⟩) (by assumption) ?rest30
  case hy30 =>
    intro w' hS
    have hz_ := ((Only.drew w8 []).trans hS).at hZ7 (by simp)
    have z3 := (cell_in hz_ 3).trans g3
    go_simp
    try with_reducible rfl
  try simp only [Act.put, List.setIfInBounds_toArray, List.set_cons_zero, List.set_cons_succ]
  refine' wpAnyT_take (i := 8) (v := _) hZ (op_at' rfl) (by rfl) (by kernel_rfl) (by kernel_rfl) (by kernel_rfl) (by kernel_rfl) (fun _ _ _ h => h) (Or.inl ⟨by rfl, ?hy31⟩) (by assumption) ?rest31
  case hy31 =>
    intro w' hS
    go_simp
    try with_reducible rfl
  try simp only [Act.put, List.setIfInBounds_toArray, List.set_cons_zero, List.set_cons_succ]
  refine wpAnyT_last (by kernel_rfl) (op_at' rfl) (by kernel_rfl) (fun K hK => ?_)
  refine step_updateW (by rfl) 67 101 _ _ _ (by rfl) LM lm (u, d) (.agg #[.int .u32 n, .bool false]) (by rfl) (by rfl) (by rfl) (sD.sel 8 [7, 2, 3, 4, 5, 6]) Try.underlying67 (fun w9 o9 s9 => ?_)
  go_wp2_with fail
  refine hK.out _ _ ?_
  clear hK K
  try simp only [Act.put, List.setIfInBounds_toArray, List.set_cons_zero, List.set_cons_succ]
  go_wp2_with fail
  go_ret
  exact ⟨rfl, s9.sel 6 [1, 2, 3, 4, 5, 0]⟩
end Go.Proofs.Yticojdepepkdlaa
