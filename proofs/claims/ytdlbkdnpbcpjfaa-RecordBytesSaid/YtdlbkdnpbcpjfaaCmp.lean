/- cmp.Compare, cmp.Or at int; Compare of layer 16 (record). -/
import Derived.Test.YtdlbkdnpbcpjfaaRows
import Derived.Test.YtdlbkdnpbcpjfaaPa
set_option linter.unusedSimpArgs false
set_option linter.unusedVariables false
namespace Go.Proofs.Ytdlbkdnpbcpjfaa
open Go.RowKit Go.Pw
set_option linter.unusedVariables false

set_option maxHeartbeats 400000 in
theorem nanint_any (x : Int) (w : World) :
    Calls Try.prog 64 #[.int .i64 x] w fun e w' => e = .returned (.bool false) ∧ w = w' := by
  go_enter Try.func64, Try.ntmps64
  go_wp2
  go_ret
  exact ⟨by simp, rfl⟩

def cmpI (a b : Int) : Int := if a < b then -1 else if b < a then 1 else 0
set_option maxHeartbeats 400000 in
theorem cmpint_any (a b : Int) (w : World) :
    Calls Try.prog 37 #[.int .i64 a, .int .i64 b] w fun e w' => e = .returned (.int .i64 (cmpI a b)) ∧ w = w' := by
  go_enter Try.func37, Try.ntmps37
  go_wp2_with fail
  refine (nanint_any a _).mono ?_
  rintro e w1 ⟨rfl, rfl⟩
  go_wp2_with fail
  refine (nanint_any b _).mono ?_
  rintro e w1 ⟨rfl, rfl⟩
  by_cases h1 : a < b
  · have d1 : decide (a < b) = true := by simpa using h1
    have E : Hid (cmpI a b = -1) := if_pos h1
    go_wp2_with fail
    go_ret
    exact ⟨by rw [E.out]; rfl, rfl⟩
  · have d1 : decide (a < b) = false := by simpa using h1
    by_cases h2 : b < a
    · have d2 : decide (b < a) = true := by simpa using h2
      have E : Hid (cmpI a b = 1) := (if_neg h1).trans (if_pos h2)
      go_wp2_with fail
      go_ret
      exact ⟨by rw [E.out]; rfl, rfl⟩
    · have d2 : decide (b < a) = false := by simpa using h2
      have E : Hid (cmpI a b = 0) := (if_neg h1).trans (if_neg h2)
      go_wp2_with fail
      go_ret
      exact ⟨by rw [E.out]; rfl, rfl⟩

def orL : List Int → Int
  | [] => 0
  | x :: xs => if x = 0 then orL xs else x

set_option maxHeartbeats 800000 in
theorem orint_any (ao : Option Addr) (c : Nat) (xs : List Int) (w : World) (h : Src w (.slice ao xs.length c) 1 xs.length (xs.map (.int .i64))) (hl : xs.length ≤ 1000000) :
    Calls Try.prog 36 #[.slice ao xs.length c] w fun e w' => e = .returned (.int .i64 (orL xs)) ∧ w = w' := by
  go_enter Try.func36, Try.ntmps36
  go_wp2_with fail
  go_loopw [8] (fun i wr => ∃ k : Nat, i = .int .i64 k ∧ k ≤ xs.length ∧ Hid (orL xs = orL (xs.drop k)) ∧ w = wr) (fun i _ => xs.length - (intOf i).toNat)
  case atStart => exact ⟨0, rfl, Nat.zero_le _, rfl, rfl⟩
  case round =>
    obtain ⟨k, rfl, hk, hq, rfl⟩ := hrel
    by_cases hkl : k < xs.length
    · have d1 : decide ((k : Int) < xs.length) = true := by simpa using hkl
      obtain ⟨b, o, rfl, hcell⟩ := src_at h hkl
      have hc := hcell k (.int .i64 xs[k]) (by simp [hkl])
      have hd : Hid (orL xs = if xs[k] = 0 then orL (xs.drop (k + 1)) else xs[k]) := by
        show _ = _
        rw [hq.out, List.drop_eq_getElem_cons hkl]
        rfl
      generalize xs[k] = x at *
      clear hcell h
      by_cases hx : x = 0
      · have hq2 : Hid (orL xs = orL (xs.drop (k + 1))) := by
          show _ = _
          rw [hd.out, if_pos hx]
        subst hx
        clear hd
        go_wp2_with fail
        refine ⟨⟨k + 1, by simp, by omega, hq2, trivial⟩, by simp [intOf]; omega⟩
      · have hq2 : Hid (orL xs = x) := by
          show _ = _
          rw [hd.out, if_neg hx]
        clear hd
        have d2 : (x == 0) = false := by simpa using hx
        go_wp2_with fail
        go_ret
        exact ⟨by rw [hq2.out]; rfl, rfl⟩
    · obtain rfl : k = xs.length := by omega
      have d1 : decide ((xs.length : Int) < xs.length) = false := by simp
      have hq2 : Hid (orL xs = 0) := by
        show _ = _
        rw [hq.out, List.drop_length]
        rfl
      clear hq
      go_wp2_with fail
      go_ret
      exact ⟨by rw [hq2.out]; rfl, rfl⟩

/-- How two devices stand to one another. -/
def cmpW (u d u' d' : Int) : Int := orL [cmpI u u', cmpI d d']

set_option maxRecDepth 100000 in
set_option maxHeartbeats 1600000 in
theorem compare_any (u d u' d' : Int) (w : World) :
    Calls Try.prog 18 #[.agg #[.int .i64 u, .int .i64 d], .agg #[.int .i64 u', .int .i64 d']] w fun e w' => e = .returned (.int .i64 (cmpW u d u' d')) ∧ Only w w' [] := by
  go_enter Try.func18, Try.ntmps18
  go_wp2_with fail
  have hA : ((w.alloc (.cells #[.int .i64 u, .int .i64 d] 26)).alloc (.cells #[.int .i64 u', .int .i64 d'] 26)).heap[w.heap.size]? = some (.cells #[.int .i64 u, .int .i64 d] 26 (0, 0)) := (Only.alloc _ _ []).at (heap_alloc_new w _) (by simp)
  have hB : ((w.alloc (.cells #[.int .i64 u, .int .i64 d] 26)).alloc (.cells #[.int .i64 u', .int .i64 d'] 26)).heap[w.heap.size + 1]? = some (.cells #[.int .i64 u', .int .i64 d'] 26 (0, 0)) := by
    have e : (w.alloc (.cells #[.int .i64 u, .int .i64 d] 26)).heap.size = w.heap.size + 1 := by simp
    rw [← e]
    exact heap_alloc_new _ _
  have ho : Only w ((w.alloc (.cells #[.int .i64 u, .int .i64 d] 26)).alloc (.cells #[.int .i64 u', .int .i64 d'] 26)) [] := (Only.alloc _ _ _).trans (Only.alloc _ _ _)
  generalize ((w.alloc (.cells #[.int .i64 u, .int .i64 d] 26)).alloc (.cells #[.int .i64 u', .int .i64 d'] 26)) = W at *
  generalize w.heap.size + 1 = B at *
  generalize w.heap.size = A at *
  refine wp_region_held_drew (S := fun w' => Only W.drew w' []) (by kernel_rfl) (Only.refl _ _) (fun hHeld => ?_)
  refine' wpAnyH_take (i := 0) (v := _) (op_at rfl) (by kernel_rfl) (by kernel_rfl) (by kernel_rfl) (fun _ _ _ h => h) (Or.inl ⟨by rfl, ?hy1⟩) (by assumption) ?rest1
  case hy1 =>
    intro w' hS
    go_simp
    try with_reducible rfl
  try simp only [Act.put, List.setIfInBounds_toArray, List.set_cons_zero, List.set_cons_succ]
  refine' wpAnyH_take (i := 1) (v := _) (op_at rfl) (by kernel_rfl) (by kernel_rfl) (by kernel_rfl) (fun _ _ _ h => h) (Or.inl ⟨by rfl, ?hy2⟩) (by assumption) ?rest2
  case hy2 =>
    intro w' hS
    have hc_ := ((Only.drew W []).trans hS).at hA (by simp)
    have hc0 := cell_two0 hc_
    go_simp
    try with_reducible rfl
  try simp only [Act.put, List.setIfInBounds_toArray, List.set_cons_zero, List.set_cons_succ]
  refine' wpAnyH_take (i := 2) (v := _) (op_at rfl) (by kernel_rfl) (by kernel_rfl) (by kernel_rfl) (fun _ _ _ h => h) (Or.inl ⟨by rfl, ?hy3⟩) (by assumption) ?rest3
  case hy3 =>
    intro w' hS
    go_simp
    try with_reducible rfl
  try simp only [Act.put, List.setIfInBounds_toArray, List.set_cons_zero, List.set_cons_succ]
  refine' wpAnyH_take (i := 3) (v := _) (op_at rfl) (by kernel_rfl) (by kernel_rfl) (by kernel_rfl) (fun _ _ _ h => h) (Or.inl ⟨by rfl, ?hy4⟩) (by assumption) ?rest4
  case hy4 =>
    intro w' hS
    have hc_ := ((Only.drew W []).trans hS).at hB (by simp)
    have hc0 := cell_two0 hc_
    go_simp
    try with_reducible rfl
  try simp only [Act.put, List.setIfInBounds_toArray, List.set_cons_zero, List.set_cons_succ]
  refine' wpAnyH_take (i := 5) (v := _) (op_at rfl) (by kernel_rfl) (by kernel_rfl) (by kernel_rfl) (fun _ _ _ h => h) (Or.inl ⟨by rfl, ?hy5⟩) (by assumption) ?rest5
  case hy5 =>
    intro w' hS
    go_simp
    try with_reducible rfl
  try simp only [Act.put, List.setIfInBounds_toArray, List.set_cons_zero, List.set_cons_succ]
  refine' wpAnyH_take (i := 6) (v := _) (op_at rfl) (by kernel_rfl) (by kernel_rfl) (by kernel_rfl) (fun _ _ _ h => h) (Or.inl ⟨by rfl, ?hy6⟩) (by assumption) ?rest6
  case hy6 =>
    intro w' hS
    have hc_ := ((Only.drew W []).trans hS).at hA (by simp)
    have hc1 := cell_two1 hc_
    go_simp
    try with_reducible rfl
  try simp only [Act.put, List.setIfInBounds_toArray, List.set_cons_zero, List.set_cons_succ]
  refine' wpAnyH_take (i := 7) (v := _) (op_at rfl) (by kernel_rfl) (by kernel_rfl) (by kernel_rfl) (fun _ _ _ h => h) (Or.inl ⟨by rfl, ?hy7⟩) (by assumption) ?rest7
  case hy7 =>
    intro w' hS
    go_simp
    try with_reducible rfl
  try simp only [Act.put, List.setIfInBounds_toArray, List.set_cons_zero, List.set_cons_succ]
  refine' wpAnyH_take (i := 8) (v := _) (op_at rfl) (by kernel_rfl) (by kernel_rfl) (by kernel_rfl) (fun _ _ _ h => h) (Or.inl ⟨by rfl, ?hy8⟩) (by assumption) ?rest8
  case hy8 =>
    intro w' hS
    have hc_ := ((Only.drew W []).trans hS).at hB (by simp)
    have hc1 := cell_two1 hc_
    go_simp
    try with_reducible rfl
  try simp only [Act.put, List.setIfInBounds_toArray, List.set_cons_zero, List.set_cons_succ]
  refine wpAnyH_ready (rs := [4]) (by kernel_rfl) (by simp) (AllReadyH.cons (op_at rfl) (fun K hK => ?_) AllReadyH.nil)
  go_simp
  refine (cmpint_any u u' _).mono fun e w3 hq => ?_
  obtain ⟨rfl, rfl⟩ := hq
  go_wp2_with fail
  refine hK.out _ _ hHeld (fun hHeld => ?_)
  clear hK K
  try simp only [Act.put, List.setIfInBounds_toArray, List.set_cons_zero, List.set_cons_succ]
  refine wpAnyH_ready (rs := [9]) (by kernel_rfl) (by simp) (AllReadyH.cons (op_at rfl) (fun K hK => ?_) AllReadyH.nil)
  go_simp
  refine (cmpint_any d d' _).mono fun e w3 hq => ?_
  obtain ⟨rfl, rfl⟩ := hq
  go_wp2_with fail
  refine hK.out _ _ hHeld (fun hHeld => ?_)
  clear hK K
  try simp only [Act.put, List.setIfInBounds_toArray, List.set_cons_zero, List.set_cons_succ]
  refine wpAnyH_ready (rs := [10]) (by kernel_rfl) (by simp) (AllReadyH.cons (op_at rfl) (fun K hK => ?_) AllReadyH.nil)
  go_simp
  go_wp2_with fail
  refine hK.out _ _ (Only.alloc _ _ _) (fun hHeld => ?_)
  clear hK K
  try simp only [Act.put, List.setIfInBounds_toArray, List.set_cons_zero, List.set_cons_succ]
  have hsr := src_lit W.drew [Value.int .i64 (cmpI u u'), .int .i64 (cmpI d d')] 3 2 1 rfl
  refine wpAnyH_ready (rs := [11]) (by kernel_rfl) (by simp) (AllReadyH.cons (op_at rfl) (fun K hK => ?_) AllReadyH.nil)
  go_simp
  refine (orint_any _ 2 [cmpI u u', cmpI d d'] _ hsr (by simp)).mono fun e w3 hq => ?_
  obtain ⟨rfl, rfl⟩ := hq
  go_wp2_with fail
  refine hK.out _ _ hHeld (fun hHeld => ?_)
  clear hK K
  try simp only [Act.put, List.setIfInBounds_toArray, List.set_cons_zero, List.set_cons_succ]
  refine' wpAnyH_take (i := 12) (v := _) (op_at rfl) (by kernel_rfl) (by kernel_rfl) (by kernel_rfl) (fun _ _ _ h => h) (Or.inl ⟨by rfl, ?hy9⟩) (by assumption) ?rest9
  case hy9 =>
    intro w' hS
    go_simp
    try with_reducible rfl
  try simp only [Act.put, List.setIfInBounds_toArray, List.set_cons_zero, List.set_cons_succ]
  refine wpAnyH_done (by kernel_rfl) ?_ _
  go_wp2_with fail
  go_ret
  exact ⟨rfl, ho.trans ((Only.drew W []).trans hHeld)⟩
end Go.Proofs.Ytdlbkdnpbcpjfaa
