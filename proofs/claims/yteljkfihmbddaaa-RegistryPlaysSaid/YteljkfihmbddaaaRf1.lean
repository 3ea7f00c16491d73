/- The reference's lines (layer 17), Find, Is, SameWhos. Printed by gen_rf1.py. -/
import Derived.Test.YteljkfihmbddaaaPd
import Derived.Test.YteljkfihmbddaaaPb
set_option linter.unusedSimpArgs false
set_option linter.unusedVariables false
namespace Go.Proofs.Yteljkfihmbddaaa
open Go.RowKit Go.Pw
set_option linter.unusedVariables false

/-- A line of the reference: of what only the registry's part is turned. -/
structure Rl where
  u : Int
  d : Int
  on : Bool
  b : Bu
  v : Value
  os : List Bu
  ok : v.oneCell' = true
def rlc (x : Rl) : List Value := .int .i64 x.u :: .int .i64 x.d :: .bool x.on :: (bc x.b ++ [x.v, .slice none 0 0, .int .u64 0, .int .u32 0, .bool false])
theorem rlc_len (x : Rl) : (rlc x).length = 18 := rfl
theorem rlc_one (x : Rl) : ∀ u ∈ rlc x, u.oneCell' = true := by
  intro u hu
  simp only [rlc, List.mem_cons, List.mem_append, List.not_mem_nil, or_false] at hu
  rcases hu with rfl | rfl | rfl | hu | rfl | rfl | rfl | rfl | rfl
  · rfl
  · rfl
  · rfl
  · exact bc_one _ _ hu
  · exact x.ok
  · rfl
  · rfl
  · rfl
  · rfl
/-- Where a device stands among the reference's lines; the length: nowhere. -/
def rfp (ms : List Rl) (u d : Int) : Nat := ms.findIdx fun x => decide (x.u = u ∧ x.d = d)
def rfi (ms : List Rl) (u d : Int) : Int := if rfp ms u d < ms.length then (rfp ms u d : Int) else -1
def ris (ms : List Rl) (u d : Int) : Bool := match ms[rfp ms u d]? with
  | some x => x.on
  | none => false
theorem rfi_hit {ms : List Rl} {u d : Int} {k : Nat} (hk : k < ms.length) (h : ms[k].u = u ∧ ms[k].d = d) (hn : ∀ j (hj : j < ms.length), j < k → ¬ (ms[j].u = u ∧ ms[j].d = d)) : rfp ms u d = k ∧ rfi ms u d = k := by
  have e : rfp ms u d = k := by
    show List.findIdx _ _ = _
    rw [List.findIdx_eq hk]
    exact ⟨by simpa using h, fun j hj => by simpa using hn j (by omega) hj⟩
  exact ⟨e, by unfold rfi; rw [e, if_pos hk]⟩
theorem rfi_none {ms : List Rl} {u d : Int} (hn : ∀ j (hj : j < ms.length), ¬ (ms[j].u = u ∧ ms[j].d = d)) : rfp ms u d = ms.length ∧ rfi ms u d = -1 := by
  have e : ¬ rfp ms u d < ms.length := fun hh => by
    have h1 := List.findIdx_getElem (w := hh)
    exact hn _ hh (of_decide_eq_true h1)
  exact ⟨by have : rfp ms u d ≤ ms.length := List.findIdx_le_length; omega, by unfold rfi; rw [if_neg e]⟩
theorem two_eq2 (a b u d : Int) (w : World) : (if a = u then if b = d then Result.ok (Next.value (Value.bool true)) w else Result.ok (Next.value (Value.bool false)) w else Result.ok (Next.value (Value.bool false)) w) = Result.ok (Next.value (Value.bool (decide (a = u) && decide (b = d)))) w := by
  by_cases h1 : a = u
  · by_cases h2 : b = d
    · simp [h1, h2]
    · simp [h1, h2]
  · simp [h1]

set_option maxRecDepth 100000 in
set_option maxHeartbeats 1600000 in
theorem rfind_any {w0 : World} {rs : List Res} (S : Nat) (ms : List Rl) (v : Value) (u d : Int) (w : World) (h : Sep w0 w (row 85 18 v ms.length (fl rlc ms) :: blk S [v, .slice none 0 0] 53 :: rs)) (hl : ms.length ≤ 1000000) :
    Calls Try.prog 36 #[.pointer (some ⟨S, 0, none⟩), wv u d] w fun e w' => e = .returned (.int .i64 (rfi ms u d)) ∧ Only w w' [] := by
  obtain ⟨ao, c, rfl⟩ := own_slice (show w.ownsRow 0 _ 18 v ms.length (fl rlc ms) from h.head)
  have hrow0 := show w.ownsRow 0 85 18 (.slice ao ms.length c) ms.length (fl rlc ms) from h.head
  have hS0 : w.heap[S]? = some (.cells #[.slice ao ms.length c, .slice none 0 0] 53 (0, 0)) := (h.sel 2 [1]).head
  have HM := fun (hp : 0 < ms.length) => own_some hrow0 hp
  simp only [wv]
  clear h
  go_enter Try.func36, Try.ntmps36
  go_wp2_with (refine wpList_box_new rfl 30 _ rfl (.agg #[.int .i64 u, .int .i64 d]) rfl ?_; intro Z wZ oZ hZl hZ)
  go_loopw [5] (fun x wr => ∃ k : Nat, x = .int .i64 k ∧ k ≤ ms.length ∧ Hid (∀ j (hj : j < ms.length), j < k → ¬ (ms[j].u = u ∧ ms[j].d = d)) ∧ Only wZ wr []) (fun x _ => ms.length - (intOf x).toNat)
  case atStart => exact ⟨0, rfl, Nat.zero_le _, fun j hj h => by omega, Only.refl _ _⟩
  case round =>
    obtain ⟨k, rfl, hk, hn, oR⟩ := hrel
    have oA := oZ.trans oR
    have hs0 := cell_two0 (oA.at hS0 (by simp))
    by_cases hkl : k < ms.length
    · have d1 : decide ((k : Int) < ms.length) = true := by simpa using hkl
      obtain ⟨mg, rfl, _⟩ := HM (by omega)
      clear HM
      go_upto_region 4 with fail
      refine wp_region_held_drew (S := fun w' => Only wr.drew w' []) (by kernel_rfl) (Only.refl _ _) (fun hHeld => ?_)
      refine' wpAnyH_take (i := 0) (v := _) (op_at rfl) (by kernel_rfl) (by kernel_rfl) (by kernel_rfl) (fun _ _ _ h => h) (Or.inl ⟨by rfl, ?hy2⟩) (by assumption) ?rest2
      case hy2 =>
        intro w' hS
        go_simp
        try with_reducible rfl
      try simp only [Act.put, List.setIfInBounds_toArray, List.set_cons_zero, List.set_cons_succ]
      refine' wpAnyH_take (i := 1) (v := _) (op_at rfl) (by kernel_rfl) (by kernel_rfl) (by kernel_rfl) (fun _ _ _ h => h) (Or.inl ⟨by rfl, ?hy3⟩) (by assumption) ?rest3
      case hy3 =>
        intro w' hS
        go_simp
        try with_reducible rfl
      try simp only [Act.put, List.setIfInBounds_toArray, List.set_cons_zero, List.set_cons_succ]
      refine' wpAnyH_take (i := 2) (v := _) (op_at rfl) (by kernel_rfl) (by kernel_rfl) (by kernel_rfl) (fun _ _ _ h => h) (Or.inl ⟨by rfl, ?hy4⟩) (by assumption) ?rest4
      case hy4 =>
        intro w' hS
        go_simp
        try with_reducible rfl
      try simp only [Act.put, List.setIfInBounds_toArray, List.set_cons_zero, List.set_cons_succ]
      refine' wpAnyH_take (i := 3) (v := _) (op_at rfl) (by kernel_rfl) (by kernel_rfl) (by kernel_rfl) (fun _ _ _ h => h) (Or.inl ⟨by rfl, ?hy5⟩) (by assumption) ?rest5
      case hy5 =>
        intro w' hS
        have hs_ := cell_two0 ((oA.trans ((Only.drew wr []).trans hS)).at hS0 (by simp))
        go_simp
        try with_reducible rfl
      try simp only [Act.put, List.setIfInBounds_toArray, List.set_cons_zero, List.set_cons_succ]
      refine' wpAnyH_take (i := 4) (v := _) (op_at rfl) (by kernel_rfl) (by kernel_rfl) (by kernel_rfl) (fun _ _ _ h => h) (Or.inl ⟨by rfl, ?hy6⟩) (by assumption) ?rest6
      case hy6 =>
        intro w' hS
        go_simp
        try with_reducible rfl
      try simp only [Act.put, List.setIfInBounds_toArray, List.set_cons_zero, List.set_cons_succ]
      refine' wpAnyH_take (i := 5) (v := _) (op_at rfl) (by kernel_rfl) (by kernel_rfl) (by kernel_rfl) (fun _ _ _ h => h) (Or.inl ⟨by rfl, ?hy7⟩) (by assumption) ?rest7
      case hy7 =>
        intro w' hS
        go_simp
        try with_reducible rfl
      try simp only [Act.put, List.setIfInBounds_toArray, List.set_cons_zero, List.set_cons_succ]
      refine' wpAnyH_take (i := 6) (v := _) (op_at rfl) (by kernel_rfl) (by kernel_rfl) (by kernel_rfl) (fun _ _ _ h => h) (Or.inl ⟨by rfl, ?hy8⟩) (by assumption) ?rest8
      case hy8 =>
        intro w' hS
        go_simp
        try with_reducible rfl
      try simp only [Act.put, List.setIfInBounds_toArray, List.set_cons_zero, List.set_cons_succ]
      refine' wpAnyH_take (i := 7) (v := _) (op_at rfl) (by kernel_rfl) (by kernel_rfl) (by kernel_rfl) (fun _ _ _ h => h) (Or.inl ⟨by rfl, ?hy9⟩) (by assumption) ?rest9
      case hy9 =>
        intro w' hS
        have hr_ := own_only hrow0 (oA.trans ((Only.drew wr []).trans hS)) (fun _ _ => by simp)
        have e0 : w'.cell? ⟨mg, k * 18, none⟩ = some (.int .i64 ms[k].u) := rec_cell rlc_len hr_ hkl 0 rfl
        have e1 := rec_cell rlc_len hr_ hkl 1 (v := .int .i64 ms[k].d) rfl
        go_simp
        try with_reducible rfl
      try simp only [Act.put, List.setIfInBounds_toArray, List.set_cons_zero, List.set_cons_succ]
      refine' wpAnyH_take (i := 8) (v := _) (op_at rfl) (by kernel_rfl) (by kernel_rfl) (by kernel_rfl) (fun _ _ _ h => h) (Or.inl ⟨by rfl, ?hy10⟩) (by assumption) ?rest10
      case hy10 =>
        intro w' hS
        have hz_ := ((oR.trans (Only.drew wr [])).trans hS).at hZ (by simp)
        have z0 := cell_two0 hz_
        have z1 := cell_two1 hz_
        go_simp
        try with_reducible rfl
      try simp only [Act.put, List.setIfInBounds_toArray, List.set_cons_zero, List.set_cons_succ]
      refine' wpAnyH_take (i := 9) (v := .bool (decide (ms[k].u = u ∧ ms[k].d = d))) (op_at rfl) (by kernel_rfl) (by kernel_rfl) (by kernel_rfl) (fun _ _ _ h => h) (Or.inl ⟨by rfl, ?hyE1⟩) (by assumption) ?restE1
      case hyE1 =>
        intro w' hS
        go_simp
        exact two_eq2 ms[k].u ms[k].d u d w'
      try simp only [Act.put, List.setIfInBounds_toArray, List.set_cons_zero, List.set_cons_succ]
      refine wpAnyH_done (by kernel_rfl) ?_ _
      by_cases hm : ms[k].u = u ∧ ms[k].d = d
      · have dm : decide (ms[k].u = u ∧ ms[k].d = d) = true := by simpa using hm
        have hfin := Lib.hid (rfi_hit hkl hm hn.out).2
        rw [dm]
        clear dm hm hn
        go_wp2_with fail
        go_ret
        exact ⟨by rw [hfin.out]; rfl, oA.trans (Only.drew wr [])⟩
      · have dm : decide (ms[k].u = u ∧ ms[k].d = d) = false := by simpa using hm
        have hn2 : Hid (∀ j (hj : j < ms.length), j < k + 1 → ¬ (ms[j].u = u ∧ ms[j].d = d)) := fun j hj hlt => by
          by_cases hjk : j = k
          · subst hjk; exact hm
          · exact hn.out j hj (by omega)
        rw [dm]
        clear dm hm hn
        go_wp2_with fail
        exact ⟨⟨k + 1, by simp, by omega, hn2, oR.trans (Only.drew wr [])⟩, by simp [intOf]; omega⟩
    · obtain rfl : k = ms.length := by omega
      have d1 : decide ((ms.length : Int) < ms.length) = false := by simp
      have hfin := Lib.hid (rfi_none fun j hj => hn.out j hj hj).2
      clear HM hn
      go_wp2_with fail
      go_ret
      exact ⟨by rw [hfin.out]; rfl, oA⟩

set_option maxRecDepth 100000 in
set_option maxHeartbeats 1600000 in
theorem ris_any {w0 : World} {rs : List Res} (S : Nat) (ms : List Rl) (v : Value) (u d : Int) (w : World) (h : Sep w0 w (row 85 18 v ms.length (fl rlc ms) :: blk S [v, .slice none 0 0] 53 :: rs)) (hl : ms.length ≤ 1000000) :
    Calls Try.prog 35 #[.pointer (some ⟨S, 0, none⟩), wv u d] w fun e w' => e = .returned (.bool (ris ms u d)) ∧ Only w w' [] := by
  obtain ⟨ao, c, rfl⟩ := own_slice (show w.ownsRow 0 _ 18 v ms.length (fl rlc ms) from h.head)
  have HF := fun (w' : World) (o : Only w w' []) => rfind_any S ms _ u d w' (h.quiet o) hl
  have hrow0 := show w.ownsRow 0 85 18 (.slice ao ms.length c) ms.length (fl rlc ms) from h.head
  have hS0 : w.heap[S]? = some (.cells #[.slice ao ms.length c, .slice none 0 0] 53 (0, 0)) := (h.sel 2 [1]).head
  simp only [wv] at *
  clear h
  by_cases hf : rfp ms u d < ms.length
  · obtain ⟨k, hk⟩ : ∃ k, k = rfp ms u d := ⟨_, rfl⟩
    rw [← hk] at hf
    have hfi : rfi ms u d = (k : Int) := by unfold rfi; rw [← hk, if_pos hf]
    have hri : ris ms u d = ms[k].on := by unfold ris; rw [← hk, List.getElem?_eq_getElem hf]
    rw [hfi] at HF
    rw [hri]
    obtain ⟨mg, rfl, _⟩ := own_some hrow0 (by omega)
    clear hk hfi hri
    go_enter Try.func35, Try.ntmps35
    go_wp2_with (refine wpList_box_new rfl 30 _ rfl (.agg #[.int .i64 u, .int .i64 d]) rfl ?_; intro Z wZ oZ hZl hZ; have z0 := cell_two0 hZ; have z1 := cell_two1 hZ)
    refine (HF _ oZ).mono ?_
    rintro e w1 ⟨rfl, o1⟩
    have oA := oZ.trans o1
    have hs0 := cell_two0 (oA.at hS0 (by simp))
    have e2 := rec_cell rlc_len (own_only hrow0 oA (fun _ _ => by simp)) hf 2 (v := .bool ms[k].on) rfl
    have hkz : (0 : Int) ≤ (k : Int) ∧ (k : Int) < ms.length := by omega
    have d0 : decide (0 ≤ (k : Int)) = true := by simp
    clear HF z0 z1
    go_wp2_with fail
    go_ret
    exact ⟨rfl, oA⟩
  · have hfi : rfi ms u d = -1 := by unfold rfi; rw [if_neg hf]
    have hri : ris ms u d = false := by unfold ris; rw [List.getElem?_eq_none (by omega)]
    rw [hfi] at HF
    rw [hri]
    clear hf hfi hri
    go_enter Try.func35, Try.ntmps35
    go_wp2_with (refine wpList_box_new rfl 30 _ rfl (.agg #[.int .i64 u, .int .i64 d]) rfl ?_; intro Z wZ oZ hZl hZ; have z0 := cell_two0 hZ; have z1 := cell_two1 hZ)
    refine (HF _ oZ).mono ?_
    rintro e w1 ⟨rfl, o1⟩
    have oA := oZ.trans o1
    clear HF z0 z1
    go_wp2_with fail
    go_ret
    exact ⟨rfl, oA⟩

set_option maxRecDepth 100000 in
set_option maxHeartbeats 1600000 in
/-- The same devices. -/
theorem samewhos_any (va vb : Value) (ws : List (Int × Int)) (w : World) (ha : Pw.Src w va 2 ws.length (fl wc ws)) (hb : Pw.Src w vb 2 ws.length (fl wc ws)) (hl : ws.length ≤ 1000000) :
    Calls Try.prog 46 #[va, vb] w fun e w' => e = .returned (.bool true) ∧ Only w w' [] := by
  obtain ⟨ao, ac, rfl, _⟩ := id ha
  obtain ⟨bo, bk, rfl, _⟩ := id hb
  have HA := fun (hp : 0 < ws.length) => src_rec wc_len (by decide) ha hp
  have HB := fun (hp : 0 < ws.length) => src_rec wc_len (by decide) hb hp
  clear ha hb
  go_enter Try.func46, Try.ntmps46
  go_wp2_with fail
  go_loopw [5] (fun x wr => ∃ k : Nat, x = .int .i64 k ∧ k ≤ ws.length ∧ Only w wr []) (fun x _ => ws.length - (intOf x).toNat)
  case atStart => exact ⟨0, rfl, Nat.zero_le _, Only.refl _ _⟩
  case round =>
    obtain ⟨k, rfl, hk, oR⟩ := hrel
    by_cases hkl : k < ws.length
    · have d1 : decide ((k : Int) < ws.length) = true := by simpa using hkl
      obtain ⟨ga, oa, rfl, RA⟩ := HA (by omega)
      obtain ⟨gb, ob, rfl, RB⟩ := HB (by omega)
      have HRA := Lib.hid RA
      have HRB := Lib.hid RB
      have oD := oR.trans (Only.drew wr [])
      clear RA RB HA HB
      go_upto_region 6 with fail
      refine wp_region_held_drew (S := fun w' => Only wr.drew w' []) (by kernel_rfl) (Only.refl _ _) (fun hHeld => ?_)
      refine' wpAnyH_take (i := 0) (v := _) (op_at rfl) (by kernel_rfl) (by kernel_rfl) (by kernel_rfl) (fun _ _ _ h => h) (Or.inl ⟨by rfl, ?hy12⟩) (by assumption) ?rest12
      case hy12 =>
        intro w' hS
        go_simp
        try with_reducible rfl
      try simp only [Act.put, List.setIfInBounds_toArray, List.set_cons_zero, List.set_cons_succ]
      refine' wpAnyH_take (i := 1) (v := _) (op_at rfl) (by kernel_rfl) (by kernel_rfl) (by kernel_rfl) (fun _ _ _ h => h) (Or.inl ⟨by rfl, ?hy13⟩) (by assumption) ?rest13
      case hy13 =>
        intro w' hS
        go_simp
        try with_reducible rfl
      try simp only [Act.put, List.setIfInBounds_toArray, List.set_cons_zero, List.set_cons_succ]
      refine' wpAnyH_take (i := 2) (v := _) (op_at rfl) (by kernel_rfl) (by kernel_rfl) (by kernel_rfl) (fun _ _ _ h => h) (Or.inl ⟨by rfl, ?hy14⟩) (by assumption) ?rest14
      case hy14 =>
        intro w' hS
        go_simp
        try with_reducible rfl
      try simp only [Act.put, List.setIfInBounds_toArray, List.set_cons_zero, List.set_cons_succ]
      refine' wpAnyH_take (i := 3) (v := _) (op_at rfl) (by kernel_rfl) (by kernel_rfl) (by kernel_rfl) (fun _ _ _ h => h) (Or.inl ⟨by rfl, ?hy15⟩) (by assumption) ?rest15
      case hy15 =>
        intro w' hS
        have hr_ := HRA.out w' (oD.trans hS) k hkl
        have e0 : w'.cell? ⟨ga, oa + k * 2, none⟩ = some (.int .i64 ws[k].1) := hr_ 0 _ rfl
        have e1 : w'.cell? ⟨ga, oa + k * 2 + 1, none⟩ = some (.int .i64 ws[k].2) := hr_ 1 _ rfl
        go_simp
        try with_reducible rfl
      try simp only [Act.put, List.setIfInBounds_toArray, List.set_cons_zero, List.set_cons_succ]
      refine' wpAnyH_take (i := 4) (v := _) (op_at rfl) (by kernel_rfl) (by kernel_rfl) (by kernel_rfl) (fun _ _ _ h => h) (Or.inl ⟨by rfl, ?hy16⟩) (by assumption) ?rest16
      case hy16 =>
        intro w' hS
        go_simp
        try with_reducible rfl
      try simp only [Act.put, List.setIfInBounds_toArray, List.set_cons_zero, List.set_cons_succ]
      refine' wpAnyH_take (i := 5) (v := _) (op_at rfl) (by kernel_rfl) (by kernel_rfl) (by kernel_rfl) (fun _ _ _ h => h) (Or.inl ⟨by rfl, ?hy17⟩) (by assumption) ?rest17
      case hy17 =>
        intro w' hS
        go_simp
        try with_reducible rfl
      try simp only [Act.put, List.setIfInBounds_toArray, List.set_cons_zero, List.set_cons_succ]
      refine' wpAnyH_take (i := 6) (v := _) (op_at rfl) (by kernel_rfl) (by kernel_rfl) (by kernel_rfl) (fun _ _ _ h => h) (Or.inl ⟨by rfl, ?hy18⟩) (by assumption) ?rest18
      case hy18 =>
        intro w' hS
        go_simp
        try with_reducible rfl
      try simp only [Act.put, List.setIfInBounds_toArray, List.set_cons_zero, List.set_cons_succ]
      refine' wpAnyH_take (i := 7) (v := _) (op_at rfl) (by kernel_rfl) (by kernel_rfl) (by kernel_rfl) (fun _ _ _ h => h) (Or.inl ⟨by rfl, ?hy19⟩) (by assumption) ?rest19
      case hy19 =>
        intro w' hS
        have hr_ := HRB.out w' (oD.trans hS) k hkl
        have e0 : w'.cell? ⟨gb, ob + k * 2, none⟩ = some (.int .i64 ws[k].1) := hr_ 0 _ rfl
        have e1 : w'.cell? ⟨gb, ob + k * 2 + 1, none⟩ = some (.int .i64 ws[k].2) := hr_ 1 _ rfl
        go_simp
        try with_reducible rfl
      try simp only [Act.put, List.setIfInBounds_toArray, List.set_cons_zero, List.set_cons_succ]
      refine' wpAnyH_take (i := 8) (v := _) (op_at rfl) (by kernel_rfl) (by kernel_rfl) (by kernel_rfl) (fun _ _ _ h => h) (Or.inl ⟨by rfl, ?hy20⟩) (by assumption) ?rest20
      case hy20 =>
        intro w' hS
        go_simp
        try with_reducible rfl
      try simp only [Act.put, List.setIfInBounds_toArray, List.set_cons_zero, List.set_cons_succ]
      refine wpAnyH_done (by kernel_rfl) ?_ _
      go_wp2_with fail
      exact ⟨⟨k + 1, by simp, by omega, oD⟩, by simp [intOf]; omega⟩
    · obtain rfl : k = ws.length := by omega
      have d1 : decide ((ws.length : Int) < ws.length) = false := by simp
      clear HA HB
      go_wp2_with fail
      go_ret
      exact ⟨rfl, oR⟩
end Go.Proofs.Yteljkfihmbddaaa
