/- Several texts in one: SvK, SvM. -/
import Derived.Test.YticojdepepkdlaaPd
import Derived.Test.YticojdepepkdlaaPe
import Derived.Test.YticojdepepkdlaaEnvD
import Derived.Deep.Cut
import Derived.Maps.Keyed
set_option linter.unusedSimpArgs false
set_option linter.unusedVariables false
/- slices and bits at devices: Index, Contains; SortFunc of what rises already. Printed by gen_svk.py (from XMo1). -/
namespace Go.Proofs.Yticojdepepkdlaa
open Go.RowKit Go.Pw
set_option linter.unusedVariables false

theorem wv_wc (p : Int × Int) : wv p.1 p.2 = .agg (wc p).toArray := rfl
theorem wc_arr (p : Int × Int) : (wc p).toArray.all (·.oneCell') = true := all_oneCell_toArray (wc_one p)

/-- Each stands no more ahead than the one ahead of it. -/
def Up (l : List (Int × Int)) : Prop := ∀ (i : Nat) (hi : i + 1 < l.length), 0 ≤ cmpW l[i + 1].1 l[i + 1].2 l[i].1 l[i].2

set_option maxRecDepth 100000 in
set_option maxHeartbeats 1600000 in
theorem isort_same (l : List (Int × Int)) (v : Value) (w : World) (h : w.ownsRow 0 27 2 v l.length (fl wc l)) (hl : l.length ≤ 1000) (hr : Up l) :
    Calls Try.prog 76 #[v, .int .i64 0, .int .i64 l.length, .func (.func 45) #[] #[]] w fun e w' => e = .returned (.tuple #[]) ∧ Only w w' [] := by
  obtain ⟨ao, c, rfl⟩ := own_slice h
  have HR := Lib.hid hr
  clear hr
  go_enter Try.func76, Try.ntmps76
  go_wp2_with fail
  go_loopw [8] (fun x wr => ∃ k : Nat, x = .int .i64 k ∧ 1 ≤ k ∧ Only w wr []) (fun x _ => l.length - (intOf x).toNat)
  case atStart => exact ⟨1, rfl, Nat.le_refl _, Only.refl _ _⟩
  case round =>
    obtain ⟨k, rfl, hk, ho⟩ := hrel
    by_cases hkl : k < l.length
    · have d1 : decide ((k : Int) < l.length) = true := by simpa using hkl
      have hw : ∀ w', Only w w' [] → w'.ownsRow 0 27 2 (.slice ao l.length c) l.length (fl wc l) := fun w' o => own_only h o (fun _ _ => by simp)
      obtain ⟨g, rfl, _⟩ := own_some h (by omega)
      obtain ⟨j, hj⟩ : ∃ j, k = j + 1 := ⟨k - 1, by omega⟩
      have hup : 0 ≤ cmpW l[k].1 l[k].2 (l[j]'(by omega)).1 (l[j]'(by omega)).2 := by subst hj; exact HR.out j hkl
      have hra := fun (w' : World) (o : Only w w' []) => rec_range wc_len (hw w' o) hkl
      have hrb := fun (w' : World) (o : Only w w' []) => rec_range wc_len (hw w' o) (m := j) (by omega)
      generalize l[k] = p at *
      generalize l[j]'(by omega) = q at *
      have d0 : decide (cmpW p.1 p.2 q.1 q.2 < 0) = false := by simpa using hup
      have d2 : decide ((0 : Int) < (k : Int)) = true := by simp; omega
      have d3 : decide (0 < k) = true := by simp; omega
      have d4 : 0 < k := by omega
      have E3 : Hid ((k : Int) - 1 = (j : Int)) := by show _ = _; omega
      have E4 : Hid (IntKind.i64.wrap (j : Int) = j) := by show _ = _; rw [IntKind.wrap_i64]; omega
      have hjl : j < l.length := by omega
      clear hj hup h hw
      go_wp2_with fail
      go_loopw [9] (fun x wq => x = .int .i64 (k : Int) ∧ Only w wq []) (fun _ _ => 0)
      case atStart => exact ⟨rfl, ho⟩
      case round =>
        clear ho
        obtain ⟨rfl, ho⟩ := hrel
        go_upto_region 4 with fail
        refine wp_region_held_drew (S := fun w' => Only wr.drew w' []) (by kernel_rfl) (Only.refl _ _) (fun hHeld => ?_)
        refine' wpAnyH_take (i := 0) (v := _) (op_at rfl) (by kernel_rfl) (by kernel_rfl) (by kernel_rfl) (fun _ _ _ h => h) (Or.inl ⟨by rfl, ?hy1⟩) (by assumption) ?rest1
        case hy1 =>
          intro w' hS
          go_simp
          try with_reducible rfl
        try simp only [Act.put, List.setIfInBounds_toArray, List.set_cons_zero, List.set_cons_succ]
        refine' wpAnyH_take (i := 1) (v := _) (op_at rfl) (by kernel_rfl) (by kernel_rfl) (by kernel_rfl) (fun _ _ _ h => h) (Or.inl ⟨by rfl, ?hy2⟩) (by assumption) ?rest2
        case hy2 =>
          intro w' hS
          go_simp
          try with_reducible rfl
        try simp only [Act.put, List.setIfInBounds_toArray, List.set_cons_zero, List.set_cons_succ]
        refine' wpAnyH_take (i := 2) (v := _) (op_at rfl) (by kernel_rfl) (by kernel_rfl) (by kernel_rfl) (fun _ _ _ h => h) (Or.inl ⟨by rfl, ?hy3⟩) (by assumption) ?rest3
        case hy3 =>
          intro w' hS
          go_simp
          try with_reducible rfl
        try simp only [Act.put, List.setIfInBounds_toArray, List.set_cons_zero, List.set_cons_succ]
        refine' wpAnyH_take (i := 3) (v := _) (op_at rfl) (by kernel_rfl) (by kernel_rfl) (by kernel_rfl) (fun _ _ _ h => h) (Or.inl ⟨by rfl, ?hy4⟩) (by assumption) ?rest4
        case hy4 =>
          intro w' hS
          go_simp
          try with_reducible rfl
        try simp only [Act.put, List.setIfInBounds_toArray, List.set_cons_zero, List.set_cons_succ]
        refine' wpAnyH_take (i := 4) (v := _) (op_at rfl) (by kernel_rfl) (by kernel_rfl) (by kernel_rfl) (fun _ _ _ h => h) (Or.inl ⟨by rfl, ?hy5⟩) (by assumption) ?rest5
        case hy5 =>
          intro w' hS
          go_simp
          try with_reducible rfl
        try simp only [Act.put, List.setIfInBounds_toArray, List.set_cons_zero, List.set_cons_succ]
        refine' wpAnyH_take (i := 5) (v := _) (op_at rfl) (by kernel_rfl) (by kernel_rfl) (by kernel_rfl) (fun _ _ _ h => h) (Or.inl ⟨by rfl, ?hy6⟩) (by assumption) ?rest6
        case hy6 =>
          intro w' hS
          go_simp
          try with_reducible rfl
        try simp only [Act.put, List.setIfInBounds_toArray, List.set_cons_zero, List.set_cons_succ]
        refine' wpAnyH_take (i := 6) (v := _) (op_at rfl) (by kernel_rfl) (by kernel_rfl) (by kernel_rfl) (fun _ _ _ h => h) (Or.inl ⟨by rfl, ?hy7⟩) (by assumption) ?rest7
        case hy7 =>
          intro w' hS
          go_simp
          try with_reducible rfl
        try simp only [Act.put, List.setIfInBounds_toArray, List.set_cons_zero, List.set_cons_succ]
        refine' wpAnyH_take (i := 7) (v := _) (op_at rfl) (by kernel_rfl) (by kernel_rfl) (by kernel_rfl) (fun _ _ _ h => h) (Or.inl ⟨by rfl, ?hy8⟩) (by assumption) ?rest8
        case hy8 =>
          intro w' hS
          go_simp
          try with_reducible rfl
        try simp only [Act.put, List.setIfInBounds_toArray, List.set_cons_zero, List.set_cons_succ]
        refine wpAnyH_take (i := 8) (op_at rfl) (by kernel_rfl) (by kernel_rfl) (by kernel_rfl) (fun _ _ _ h => h) (yieldsIf_load_mid (by rfl) _ _ rfl g (k * 2) rfl (wc p) _ (fun w' hS => hra w' (ho.trans ((Only.drew wr []).trans hS))) Try.underlying27 (by rfl) (by rfl)) (by assumption) ?_
        try simp only [Act.put, List.setIfInBounds_toArray, List.set_cons_zero, List.set_cons_succ]
        refine' wpAnyH_take (i := 9) (v := _) (op_at rfl) (by kernel_rfl) (by kernel_rfl) (by kernel_rfl) (fun _ _ _ h => h) (Or.inl ⟨by rfl, ?hy10⟩) (by assumption) ?rest10
        case hy10 =>
          intro w' hS
          go_simp
          try with_reducible rfl
        try simp only [Act.put, List.setIfInBounds_toArray, List.set_cons_zero, List.set_cons_succ]
        refine' wpAnyH_take (i := 10) (v := _) (op_at rfl) (by kernel_rfl) (by kernel_rfl) (by kernel_rfl) (fun _ _ _ h => h) (Or.inl ⟨by rfl, ?hy11⟩) (by assumption) ?rest11
        case hy11 =>
          intro w' hS
          go_simp
          try with_reducible rfl
        try simp only [Act.put, List.setIfInBounds_toArray, List.set_cons_zero, List.set_cons_succ]
        refine' wpAnyH_take (i := 11) (v := _) (op_at rfl) (by kernel_rfl) (by kernel_rfl) (by kernel_rfl) (fun _ _ _ h => h) (Or.inl ⟨by rfl, ?hy12⟩) (by assumption) ?rest12
        case hy12 =>
          intro w' hS
          have e4 := E4.out
          have e3 := E3.out
          go_simp
          try with_reducible rfl
        try simp only [Act.put, List.setIfInBounds_toArray, List.set_cons_zero, List.set_cons_succ]
        refine' wpAnyH_take (i := 12) (v := _) (op_at rfl) (by kernel_rfl) (by kernel_rfl) (by kernel_rfl) (fun _ _ _ h => h) (Or.inl ⟨by rfl, ?hy13⟩) (by assumption) ?rest13
        case hy13 =>
          intro w' hS
          go_simp
          try with_reducible rfl
        try simp only [Act.put, List.setIfInBounds_toArray, List.set_cons_zero, List.set_cons_succ]
        refine wpAnyH_take (i := 13) (op_at rfl) (by kernel_rfl) (by kernel_rfl) (by kernel_rfl) (fun _ _ _ h => h) (yieldsIf_load_mid (by rfl) _ _ rfl g (j * 2) rfl (wc q) _ (fun w' hS => hrb w' (ho.trans ((Only.drew wr []).trans hS))) Try.underlying27 (by rfl) (by rfl)) (by assumption) ?_
        try simp only [Act.put, List.setIfInBounds_toArray, List.set_cons_zero, List.set_cons_succ]
        refine wpAnyH_ready (rs := [14]) (by kernel_rfl) (by simp) (AllReadyH.cons (op_at rfl) (fun K hK => ?_) AllReadyH.nil)
        go_simp
        refine (compare_any p.1 p.2 q.1 q.2 _).mono fun e w3 hq => ?_
        obtain ⟨rfl, o3⟩ := hq
        go_wp2_with fail
        refine hK.out _ _ o3 (fun hHeld => ?_)
        clear hK K
        try simp only [Act.put, List.setIfInBounds_toArray, List.set_cons_zero, List.set_cons_succ]
        refine wpAnyH_more (S' := fun w' => Only w3 w' []) (fun w' h => Only.trans o3 h) _ _ _ _ ?_
        clear hHeld
        have hHeld : Only w3 w3 [] := Only.refl _ _
        refine' wpAnyH_take (i := 15) (v := _) (op_at rfl) (by kernel_rfl) (by kernel_rfl) (by kernel_rfl) (fun _ _ _ h => h) (Or.inl ⟨by rfl, ?hy15⟩) (by assumption) ?rest15
        case hy15 =>
          intro w' hS
          go_simp
          try with_reducible rfl
        try simp only [Act.put, List.setIfInBounds_toArray, List.set_cons_zero, List.set_cons_succ]
        refine' wpAnyH_take (i := 16) (v := _) (op_at rfl) (by kernel_rfl) (by kernel_rfl) (by kernel_rfl) (fun _ _ _ h => h) (Or.inl ⟨by rfl, ?hy16⟩) (by assumption) ?rest16
        case hy16 =>
          intro w' hS
          go_simp
          try with_reducible rfl
        try simp only [Act.put, List.setIfInBounds_toArray, List.set_cons_zero, List.set_cons_succ]
        refine wpAnyH_done (by kernel_rfl) ?_ _
        go_wp2_with fail
        exact ⟨⟨k + 1, by simp, by omega, ho.trans ((Only.drew wr []).trans (o3.trans hHeld))⟩, by simp [intOf]; omega⟩
    · have d1 : decide ((k : Int) < l.length) = false := by simpa using hkl
      go_wp2_with fail
      exact bodyPost_end (v := .tuple #[]) (by simp [results, Try.results76, go_sem]) rfl ⟨rfl, ho⟩

def SomeI (w : World) (e : Ending) (w' : World) : Prop := ∃ r : Int, e = .returned (.int .i64 r) ∧ w = w'
set_option maxRecDepth 100000 in
set_option maxHeartbeats 1600000 in
theorem len64_small (n : Nat) (hn : n ≤ 12) (w : World) : Calls Try.prog 85 #[.int .u64 n] w (SomeI w) := by
  have : n = 0 ∨ n = 1 ∨ n = 2 ∨ n = 3 ∨ n = 4 ∨ n = 5 ∨ n = 6 ∨ n = 7 ∨ n = 8 ∨ n = 9 ∨ n = 10 ∨ n = 11 ∨ n = 12 := by omega
  rcases this with rfl | rfl | rfl | rfl | rfl | rfl | rfl | rfl | rfl | rfl | rfl | rfl | rfl
  all_goals
    go_enter Try.func85, Try.ntmps85
    go_wp2
    go_ret
    exact ⟨_, rfl, rfl⟩
theorem len_small (n : Nat) (hn : n ≤ 12) (w : World) : Calls Try.prog 63 #[.int .u64 n] w (SomeI w) := by
  go_enter Try.func63, Try.ntmps63
  go_wp2_with fail
  refine (len64_small n hn _).mono ?_
  rintro e w1 ⟨r, rfl, rfl⟩
  go_wp2_with fail
  go_ret
  exact ⟨_, rfl, rfl⟩

set_option maxRecDepth 100000 in
set_option maxHeartbeats 1600000 in
theorem pdq_same (l : List (Int × Int)) (v : Value) (r : Int) (w : World) (h : w.ownsRow 0 27 2 v l.length (fl wc l)) (hl : l.length ≤ 12) (hr : Up l) :
    Calls Try.prog 62 #[v, .int .i64 0, .int .i64 l.length, .int .i64 r, .func (.func 45) #[] #[]] w fun e w' => e = .returned (.tuple #[]) ∧ Only w w' [] := by
  have H := isort_same l v w h (by omega) hr
  obtain ⟨ao, c, rfl⟩ := own_slice h
  clear h hr
  have d1 : decide ((l.length : Int) ≤ 12) = true := by simp; omega
  go_enter Try.func62, Try.ntmps62
  go_wp2_with fail
  go_loopw [1, 2, 3, 10, 11] (fun x y _ _ _ wr => x = .int .i64 0 ∧ y = .int .i64 l.length ∧ w = wr) (fun _ _ _ _ _ _ => 0)
  case atStart => exact ⟨rfl, rfl, rfl⟩
  case round =>
    obtain ⟨rfl, rfl, rfl⟩ := hrel
    go_wp2_with fail
    refine H.mono ?_
    rintro e w1 ⟨rfl, o⟩
    go_wp2_with fail
    refine bodyPost_ret (v := .tuple #[]) (by simp [results, Try.results62, go_sem]) rfl ⟨rfl, o⟩

set_option maxRecDepth 100000 in
set_option maxHeartbeats 1600000 in
theorem sort_same (l : List (Int × Int)) (v : Value) (w : World) (h : w.ownsRow 0 27 2 v l.length (fl wc l)) (hl : l.length ≤ 12) (hr : Up l) :
    Calls Try.prog 44 #[v, .func (.func 45) #[] #[]] w fun e w' => e = .returned (.tuple #[]) ∧ Only w w' [] := by
  have H := fun r => pdq_same l v r w h hl hr
  obtain ⟨ao, c, rfl⟩ := own_slice h
  clear h hr
  have e1 : IntKind.u64.wrap (l.length : Int) = l.length := by rw [IntKind.wrap_u64]; omega
  go_enter Try.func44, Try.ntmps44
  go_wp2_with fail
  refine (len_small l.length hl _).mono ?_
  rintro e w1 ⟨r, rfl, rfl⟩
  go_wp2_with fail
  refine (H r).mono ?_
  rintro e w1 ⟨rfl, o⟩
  go_wp2_with fail
  refine bodyPost_end (v := .tuple #[]) (by simp [results, Try.results44, go_sem]) rfl ⟨rfl, o⟩

theorem two_eq (p : Int × Int) (u d : Int) (w : World) : (if u = p.1 then if d = p.2 then Result.ok (Next.value (Value.bool true)) w else Result.ok (Next.value (Value.bool false)) w else Result.ok (Next.value (Value.bool false)) w) = Result.ok (Next.value (Value.bool (decide (p = (u, d))))) w := by
  obtain ⟨a, b⟩ := p
  by_cases h1 : u = a
  · by_cases h2 : d = b
    · subst h1 h2; simp
    · rw [if_pos h1, if_neg h2, decide_eq_false (by simp only [Prod.mk.injEq]; exact fun h => h2 h.2.symm)]
  · rw [if_neg h1, decide_eq_false (by simp only [Prod.mk.injEq]; exact fun h => h1 h.1.symm)]
/-- Where a device is; below 0: it isn't there. -/
def atW (l : List (Int × Int)) (u d : Int) : Int := if (u, d) ∈ l then l.idxOf (u, d) else -1
set_option maxRecDepth 100000 in
set_option maxHeartbeats 1600000 in
theorem windex_eq (l : List (Int × Int)) (v : Value) (u d : Int) (w : World) (h : w.ownsRow 0 27 2 v l.length (fl wc l)) (hl : l.length ≤ 1000) :
    Calls Try.prog 60 #[v, wv u d] w fun e w' => e = .returned (.int .i64 (atW l u d)) ∧ Only w w' [] := by
  obtain ⟨ao, c, rfl⟩ := own_slice h
  simp only [wv]
  go_enter Try.func60, Try.ntmps60
  go_wp2_with ((refine wpList_box_new rfl 27 _ rfl (.agg #[.int .i64 u, .int .i64 d]) rfl ?_; intro Z wZ oZ hZl hZ))
  go_loopw [8] (fun x wr => ∃ k : Nat, x = .int .i64 k ∧ k ≤ l.length ∧ Hid (∀ i (hi : i < l.length), i < k → l[i] ≠ (u, d)) ∧ Only w wr [] ∧ Only wZ wr []) (fun x _ => l.length - (intOf x).toNat)
  case atStart => exact ⟨0, rfl, Nat.zero_le _, fun i hi h => by omega, oZ, Only.refl _ _⟩
  case round =>
    obtain ⟨k, rfl, hk, hno, ho, hoZ⟩ := hrel
    by_cases hkl : k < l.length
    · have d1 : decide ((k : Int) < l.length) = true := by simpa using hkl
      have hw : ∀ w', Only w w' [] → w'.ownsRow 0 27 2 (.slice ao l.length c) l.length (fl wc l) := fun w' o => own_only h o (fun _ _ => by simp)
      obtain ⟨g, rfl, _⟩ := own_some h (by omega)
      have hZr := hoZ.at hZ (by simp)
      have hra := fun (w' : World) (o : Only w w' []) => rec_range wc_len (hw w' o) hkl
      have hyes : Hid (l[k] = (u, d) → atW l u d = k) := fun e => by
        have hm : (u, d) ∈ l := e ▸ List.getElem_mem hkl
        unfold atW
        rw [if_pos hm]
        have h1 : l.idxOf (u, d) < l.length := List.idxOf_lt_length_of_mem hm
        have h2 : l[l.idxOf (u, d)] = (u, d) := List.getElem_idxOf h1
        have h3 : ¬ l.idxOf (u, d) < k := fun hlt => hno.out _ h1 hlt h2
        have h4 : l.idxOf (u, d) ≤ k := by
          rw [← Nat.not_lt]
          intro hlt
          have := List.not_of_lt_findIdx hlt
          simp [e] at this
        omega
      have hnext : Hid (l[k] ≠ (u, d) → ∀ i (hi : i < l.length), i < k + 1 → l[i] ≠ (u, d)) := fun hne i hi hik => by
        by_cases e : i = k
        · subst e; exact hne
        · exact hno.out i hi (by omega)
      generalize l[k] = p at *
      have hcmp : Hid ((Value.agg #[.int .i64 u, .int .i64 d]) = .agg (wc (u, d)).toArray) := by show _ = _; rfl
      clear h hw hno
      go_upto_region 4 with fail
      refine wp_region_held_drew (S := fun w' => Only wr.drew w' []) (by kernel_rfl) (Only.refl _ _) (fun hHeld => ?_)
      refine wpAnyH_take (i := 0) (op_at rfl) (by kernel_rfl) (by kernel_rfl) (by kernel_rfl) (fun _ _ _ h => h) (yieldsIf_load_mid (by rfl) _ _ rfl Z 0 rfl (wc (u, d)) _ (fun w' hS => block_range (((Only.drew wr []).trans hS).at hZr (by simp))) Try.underlying27 (by rfl) (by rfl)) (by assumption) ?_
      try simp only [Act.put, List.setIfInBounds_toArray, List.set_cons_zero, List.set_cons_succ]
      refine' wpAnyH_take (i := 1) (v := _) (op_at rfl) (by kernel_rfl) (by kernel_rfl) (by kernel_rfl) (fun _ _ _ h => h) (Or.inl ⟨by rfl, ?hy18⟩) (by assumption) ?rest18
      case hy18 =>
        intro w' hS
        go_simp
        try with_reducible rfl
      try simp only [Act.put, List.setIfInBounds_toArray, List.set_cons_zero, List.set_cons_succ]
      refine' wpAnyH_take (i := 2) (v := _) (op_at rfl) (by kernel_rfl) (by kernel_rfl) (by kernel_rfl) (fun _ _ _ h => h) (Or.inl ⟨by rfl, ?hy19⟩) (by assumption) ?rest19
      case hy19 =>
        intro w' hS
        go_simp
        try with_reducible rfl
      try simp only [Act.put, List.setIfInBounds_toArray, List.set_cons_zero, List.set_cons_succ]
      refine' wpAnyH_take (i := 3) (v := _) (op_at rfl) (by kernel_rfl) (by kernel_rfl) (by kernel_rfl) (fun _ _ _ h => h) (Or.inl ⟨by rfl, ?hy20⟩) (by assumption) ?rest20
      case hy20 =>
        intro w' hS
        go_simp
        try with_reducible rfl
      try simp only [Act.put, List.setIfInBounds_toArray, List.set_cons_zero, List.set_cons_succ]
      refine wpAnyH_take (i := 4) (op_at rfl) (by kernel_rfl) (by kernel_rfl) (by kernel_rfl) (fun _ _ _ h => h) (yieldsIf_load_mid (by rfl) _ _ rfl g (k * 2) rfl (wc p) _ (fun w' hS => hra w' (ho.trans ((Only.drew wr []).trans hS))) Try.underlying27 (by rfl) (by rfl)) (by assumption) ?_
      try simp only [Act.put, List.setIfInBounds_toArray, List.set_cons_zero, List.set_cons_succ]
      refine' wpAnyH_take (i := 5) (v := .bool (decide (p = (u, d)))) (op_at rfl) (by kernel_rfl) (by kernel_rfl) (by kernel_rfl) (fun _ _ _ h => h) (Or.inl ⟨by rfl, ?hyE1⟩) (by assumption) ?restE1
      case hyE1 =>
        intro w' hS
        have q0 : (wc (u, d))[0]? = some (Value.int .i64 u) := rfl
        have q1 : (wc (u, d))[1]? = some (Value.int .i64 d) := rfl
        have q2 : (wc p)[0]? = some (Value.int .i64 p.1) := rfl
        have q3 : (wc p)[1]? = some (Value.int .i64 p.2) := rfl
        go_simp
        exact two_eq p u d w'
      try simp only [Act.put, List.setIfInBounds_toArray, List.set_cons_zero, List.set_cons_succ]
      refine wpAnyH_done (by kernel_rfl) ?_ _
      by_cases he : p = (u, d)
      · have HY := Lib.hid (hyes.out he)
        have d2 : decide (p = (u, d)) = true := by simpa using he
        rw [d2]
        clear hyes hnext he
        go_wp2_with fail
        go_ret
        exact ⟨by rw [HY.out]; rfl, (ho.trans (Only.drew wr [])).trans hHeld⟩
      · have HY := Lib.hid (hnext.out he)
        have d2 : decide (p = (u, d)) = false := by simpa using he
        rw [d2]
        clear hyes hnext he
        go_wp2_with fail
        exact ⟨⟨k + 1, by simp, by omega, HY.out, (ho.trans (Only.drew wr [])).trans hHeld, (hoZ.trans (Only.drew wr [])).trans hHeld⟩, by simp [intOf]; omega⟩
    · obtain rfl : k = l.length := by omega
      have d1 : decide ((l.length : Int) < l.length) = false := by simp
      have hn : Hid (atW l u d = -1) := if_neg fun hm => by
        obtain ⟨i, hi, e⟩ := List.mem_iff_getElem.1 hm
        exact hno.out i hi hi e
      go_wp2_with fail
      go_ret
      exact ⟨by rw [hn.out]; rfl, ho⟩

/-- Is a device among some? -/
def hasW (l : List (Int × Int)) (u d : Int) : Bool := decide ((u, d) ∈ l)
theorem hasW_at (l : List (Int × Int)) (u d : Int) : decide (0 ≤ atW l u d) = hasW l u d := by
  unfold atW hasW
  by_cases h : (u, d) ∈ l
  · rw [if_pos h, decide_eq_true h, decide_eq_true (by omega)]
  · rw [if_neg h, decide_eq_false h, decide_eq_false (by omega)]
set_option maxRecDepth 100000 in
set_option maxHeartbeats 1600000 in
theorem wcontains_any (l : List (Int × Int)) (v : Value) (u d : Int) (w : World) (h : w.ownsRow 0 27 2 v l.length (fl wc l)) (hl : l.length ≤ 1000) :
    Calls Try.prog 42 #[v, wv u d] w fun e w' => e = .returned (.bool (hasW l u d)) ∧ Only w w' [] := by
  have H := fun (w' : World) (o : Only w w' []) => windex_eq l v u d w' (own_only h o (fun _ _ => by simp)) hl
  have E := Lib.hid (hasW_at l u d)
  obtain ⟨ao, c, rfl⟩ := own_slice h
  clear h
  simp only [wv] at *
  generalize atW l u d = x at *
  go_enter Try.func42, Try.ntmps42
  go_wp2_with ((refine wpList_box_new rfl 27 _ rfl (.agg #[.int .i64 u, .int .i64 d]) rfl ?_; intro Z wZ oZ hZl hZ; have hz0 := cell_two0 hZ; have hz1 := cell_two1 hZ))
  refine (H _ oZ).mono ?_
  rintro e w1 ⟨rfl, o⟩
  clear hz0 hz1
  go_wp2_with fail
  go_ret
  exact ⟨by rw [← E.out]; rfl, oZ.trans o⟩
end Go.Proofs.Yticojdepepkdlaa

/- Maps whose keys are devices: lookup and update on a block of the call's own. -/
namespace Go.Pw
open Go.RowKit
set_option linter.unusedVariables false

def kv (e : MapEntry) : Value × Value := (e.key, e.val)
/-- A map of devices, known whole. -/
def mapR (B : Nat) (m : List ((Int × Int) × Value)) : Res where
  fp := [B]
  ok w := ∃ es c, w.heap[B]? = some (.map es c) ∧ es.toList.map kv = m.map fun q => (.agg (wc q.1).toArray, q.2)
  loc w w' h k := by
    obtain ⟨es, c, h1, h2⟩ := k
    exact ⟨es, c, (h B (by simp)).trans h1, h2⟩
  lt w h k hk := by
    obtain ⟨es, c, h1, h2⟩ := h
    obtain rfl : k = B := by simpa using hk
    exact (Array.getElem?_eq_some_iff.1 h1).1
def getM (m : List ((Int × Int) × Value)) (p : Int × Int) : Option Value := match m with
  | [] => none
  | q :: m => if q.1 = p then some q.2 else getM m p
theorem step_box_new {P : Program} {ops : Array Oper} {o : Oper} {a : Act} {w : World} {K : Act → World → Prop} {Q : Exit → Act → World → Prop} {E : Prop}
    (hg : o.guard = none) (T : TypeId) (x : Operand) (ho : o.op = .box T x) (z : Value) (hx : a.eval x = z)
    (h : ∀ X w', Only w w' [] → w.heap.size ≤ X → w'.heap[X]? = some (.cells z.cells T (0, 0)) → K (a.put o.dst (.pointer (some ⟨X, 0, none⟩))) w') : if Region.wanted o (yielded ops a.tmps) = true then Oper.wp P o a w K Q else E := by
  have hw : Region.wanted o (yielded ops a.tmps) = true := by simp [Region.wanted, hg]
  rw [if_pos hw]
  unfold Oper.wp execOp
  simp only [ho, hx, Instr.box, Sem.run_bind, Result.andThen_ok]
  exact h w.heap.size _ (Only.alloc w (.cells z.cells T) []) (Nat.le_refl _) (heap_alloc_new w _)
theorem step_alloc_new {P : Program} {ops : Array Oper} {o : Oper} {a : Act} {w : World} {K : Act → World → Prop} {Q : Exit → Act → World → Prop} {E : Prop}
    (hg : o.guard = none) (T : TypeId) (ho : o.op = .alloc T) (z : Value) (hz : ∀ w, (zeroValue T).run P w = .ok z w)
    (h : ∀ X w', Only w w' [] → w.heap.size ≤ X → w'.heap[X]? = some (.cells z.cells T (0, 0)) → K (a.put o.dst (.pointer (some ⟨X, 0, none⟩))) w') : if Region.wanted o (yielded ops a.tmps) = true then Oper.wp P o a w K Q else E := by
  have hw : Region.wanted o (yielded ops a.tmps) = true := by simp [Region.wanted, hg]
  rw [if_pos hw]
  unfold Oper.wp execOp
  simp only [ho, Instr.alloc, Sem.run_bind, hz, Result.andThen_ok]
  exact h w.heap.size _ (Only.alloc w (.cells z.cells T) []) (Nat.le_refl _) (heap_alloc_new w _)
theorem wpList_makeMap_new {P : Program} {ops : Array Oper} {rest : List Oper} {op : Oper} {a : Act} {w : World} {Q : Exit → Act → World → Prop} (hgd : op.guard = none) (T : TypeId) (ho : op.op = .makeMap T none)
    (h : ∀ X w', Only w w' [] → w.heap.size ≤ X → w'.heap[X]? = some (.map #[] 0) → wpList P ops Q rest (a.put op.dst (.map (some X))) w') : wpList P ops Q (op :: rest) a w :=
  wpList_plain hgd fun _ hK => by
    unfold Oper.wp execOp
    simp only [ho, Instr.makeMap, newObj, go_sem, Result.andThen_ok, Option.map_none]
    exact hK _ _ (h w.heap.size _ (Only.alloc w _ []) (Nat.le_refl _) (heap_alloc_new w _))
def putM (m : List ((Int × Int) × Value)) (p : Int × Int) (v : Value) : List ((Int × Int) × Value) := match m with
  | [] => [(p, v)]
  | q :: m => if q.1 = p then (q.1, v) :: m else q :: putM m p v
end Go.Pw
namespace Go.Proofs.Yticojdepepkdlaa
open Go.RowKit Go.Pw
set_option linter.unusedVariables false

theorem run_eqW (p q : Int × Int) (w : World) : (Op.equal 27 (.agg (wc p).toArray) (.agg (wc q).toArray)).run Try.prog w = .ok (decide (p = q)) w := by
  obtain ⟨a, b⟩ := p
  obtain ⟨c, d⟩ := q
  have q0 : (wc (a, b))[0]? = some (Value.int .i64 a) := rfl
  have q1 : (wc (a, b))[1]? = some (Value.int .i64 b) := rfl
  have q2 : (wc (c, d))[0]? = some (Value.int .i64 c) := rfl
  have q3 : (wc (c, d))[1]? = some (Value.int .i64 d) := rfl
  unfold Op.equal
  rw [show Op.maxDepth = 9998 + 1 + 1 from rfl, Op.equalIn]
  go_simp
  by_cases h1 : a = c
  · by_cases h2 : b = d
    · simp [h1, h2]
    · simp [h1, h2]
  · simp [h1]
theorem run_checkW (p : Int × Int) (b : Bool) (w : World) : (Instr.checkKey b 10000 27 (.agg (wc p).toArray)).run Try.prog w = .ok () w := by
  obtain ⟨x, y⟩ := p
  have q0 : (wc (x, y))[0]? = some (Value.int .i64 x) := rfl
  have q1 : (wc (x, y))[1]? = some (Value.int .i64 y) := rfl
  rw [show 10000 = 9998 + 1 + 1 from rfl, Instr.checkKey]
  go_simp
  rw [Instr.checkKey]
  go_simp
  rw [Instr.checkKey]
  go_simp

/-- Where a key stands first, and what stands there. -/
def firstM (m : List ((Int × Int) × Value)) (p : Int × Int) (i : Nat) : Option (Nat × Value) := match m with
  | [] => none
  | q :: m => if q.1 = p then some (i, q.2) else firstM m p (i + 1)
theorem firstM_get (m : List ((Int × Int) × Value)) (p : Int × Int) : ∀ i, (firstM m p i).map (·.2) = getM m p := by
  induction m with
  | nil => intro i; rfl
  | cons q m ih =>
    intro i
    simp only [firstM, getM]
    split
    · rfl
    · exact ih _
theorem firstM_put (m : List ((Int × Int) × Value)) (p : Int × Int) (v : Value) : ∀ i, (firstM m p i = none → putM m p v = m ++ [(p, v)]) ∧ ∀ j x, firstM m p i = some (j, x) → i ≤ j ∧ j - i < m.length ∧ (m[j - i]?).map (·.1) = some p ∧ putM m p v = m.modify (j - i) fun q => (q.1, v) := by
  induction m with
  | nil => intro i; exact ⟨fun _ => rfl, fun j x h => by simp [firstM] at h⟩
  | cons q m ih =>
    intro i
    by_cases h : q.1 = p
    · refine ⟨fun e => by simp [firstM, h] at e, fun j x e => ?_⟩
      simp only [firstM, h, if_true, Option.some.injEq, Prod.mk.injEq] at e
      obtain ⟨rfl, _⟩ := e
      simp [putM, h]
    · obtain ⟨h1, h2⟩ := ih (i + 1)
      refine ⟨fun e => ?_, fun j x e => ?_⟩
      · simp only [firstM, h, if_false] at e
        simp [putM, h, h1 e]
      · simp only [firstM, h, if_false] at e
        obtain ⟨a, b, c, d⟩ := h2 j x e
        obtain ⟨k, hk⟩ : ∃ k, j - i = k + 1 := ⟨j - (i + 1), by omega⟩
        have hk2 : j - (i + 1) = k := by omega
        rw [hk2] at b c d
        refine ⟨by omega, by rw [hk]; simp; omega, ?_, ?_⟩
        · rw [hk]; simpa using c
        · rw [hk]; simp [putM, h, d, List.modify_succ_cons]

theorem run_asking (p : Int × Int) (w : World) : ∀ (es : List MapEntry) (m : List ((Int × Int) × Value)) (i : Nat), es.map kv = m.map (fun q => (.agg (wc q.1).toArray, q.2)) →
    (Instr.findAsking 27 (.agg (wc p).toArray) es i).run Try.prog w = .ok (firstM m p i) w
  | [], m, i, h => by
    obtain rfl : m = [] := by cases m with | nil => rfl | cons q m => simp at h
    simp [Instr.findAsking, firstM]
  | e :: es, [], i, h => by simp at h
  | e :: es, q :: m, i, h => by
    simp only [List.map_cons, List.cons.injEq] at h
    obtain ⟨h1, h2⟩ := h
    simp only [kv, Prod.mk.injEq] at h1
    have ih := run_asking p w es m (i + 1) h2
    simp only [Instr.findAsking, Sem.run_bind, h1.1, run_eqW, Result.andThen_ok, firstM]
    by_cases hq : p = q.1
    · subst hq
      simp [h1.2]
    · have hq' : ¬ q.1 = p := fun e => hq e.symm
      simp [hq, hq', ih]
theorem run_findW (p : Int × Int) (w : World) (es : List MapEntry) (m : List ((Int × Int) × Value)) (h : es.map kv = m.map (fun q => (.agg (wc q.1).toArray, q.2))) :
    (Instr.findKey 27 (.agg (wc p).toArray) es).run Try.prog w = .ok (firstM m p 0) w := by
  have ha := run_asking p w es m 0 h
  cases es with
  | nil =>
    obtain rfl : m = [] := by cases m with | nil => rfl | cons q m => simp at h
    simp [Instr.findKey, Instr.findNow, run_underlying Try.underlying27, firstM]
  | cons e es =>
    cases m with
    | nil => simp at h
    | cons q m =>
      simp only [List.map_cons, List.cons.injEq] at h
      have hk : e.key = .agg (wc q.1).toArray := (Prod.mk.inj h.1).1
      simp [Instr.findKey, Instr.findNow, run_underlying Try.underlying27, Instr.sameNow, hk, ha]
theorem run_lookupW {w0 w : World} {rs : List Res} (T E : TypeId) (z : Value) (B : Nat) (m : List ((Int × Int) × Value)) (p : Int × Int) (h : Sep w0 w (mapR B m :: rs)) (hT : Try.prog.underlying T = some (.map 27 E)) (hz : ∀ w, (zeroValue E).run Try.prog w = .ok z w) :
    (Instr.lookup T (.map (some B)) (.agg (wc p).toArray) false).run Try.prog w = .ok ((getM m p).getD z) w := by
  obtain ⟨es, c, h1, h2⟩ := (show (mapR B m).ok w from h.head)
  have hf := run_findW p w es.toList m h2
  have hg := firstM_get m p 0
  cases hq : firstM m p 0 with
  | none =>
    rw [hq] at hf hg
    have hg' : getM m p = none := hg.symm
    simp [Instr.lookup, run_underlying hT, MapKept.run_getObj_map h1, run_checkW, hf, hz, hg', Result.andThen]
  | some jx =>
    obtain ⟨j, x⟩ := jx
    rw [hq] at hf hg
    have hg' : getM m p = some x := hg.symm
    simp [Instr.lookup, run_underlying hT, MapKept.run_getObj_map h1, run_checkW, hf, hg', Result.andThen]
theorem run_staysW (p : Int × Int) (w : World) : (Instr.keyThatStays (.agg (wc p).toArray) (.agg (wc p).toArray)).run Try.prog w = .ok (.agg (wc p).toArray) w := by
  obtain ⟨a, b⟩ := p
  have : Instr.sameBits 10000 (.agg (wc (a, b)).toArray) (.agg (wc (a, b)).toArray) = true := by
    rw [show 10000 = 9998 + 1 + 1 from rfl]
    simp [Instr.sameBits, wc]
  simp [Instr.keyThatStays, this]
theorem only_setBlock (w : World) (B : Nat) (o : Obj) : Only w (Go.ChangeMaps.setBlock w B o) [B] :=
  ⟨rfl, rfl, rfl, by simp [Go.ChangeMaps.setBlock], fun i hi hn => by
    have : i ≠ B := by simpa using hn
    simp [Go.ChangeMaps.setBlock, Array.getElem?_setIfInBounds, Ne.symm this]⟩
theorem run_updateW {w0 w : World} {rs : List Res} (T E : TypeId) (B : Nat) (m : List ((Int × Int) × Value)) (p : Int × Int) (v : Value) (h : Sep w0 w (mapR B m :: rs)) (hT : Try.prog.underlying T = some (.map 27 E)) :
    ∃ w', (Instr.mapUpdate T (.map (some B)) (.agg (wc p).toArray) v).run Try.prog w = .ok () w' ∧ Only w w' [B] ∧ Sep w0 w' (mapR B (putM m p v) :: rs) := by
  obtain ⟨es, c, h1, h2⟩ := (show (mapR B m).ok w from h.head)
  have hf := run_findW p w es.toList m h2
  have hp := firstM_put m p v 0
  cases hq : firstM m p 0 with
  | none =>
    rw [hq] at hf
    refine ⟨_, by simp [Instr.mapUpdate, run_underlying hT, MapKept.run_getObj_map h1, run_checkW, hf, MapKept.run_setObj_map _ h1, Result.andThen]; rfl, only_setBlock w B (.map (es.push { key := .agg (wc p).toArray, val := v, born := c }) (c + 1)), ?_⟩
    refine h.step (L := [B]) (only_setBlock w B _) (fun k hk => .inl (by simpa [mapR] using hk)) ⟨_, _, Go.ChangeMaps.heap_setBlock_same h1 _, ?_⟩ (fun k hk => .inl hk)
    rw [hp.1 hq]
    simp [h2, kv]
  | some jx =>
    obtain ⟨j, x⟩ := jx
    rw [hq] at hf
    obtain ⟨_, hj, hk, hm⟩ := hp.2 j x hq
    simp only [Nat.sub_zero] at hj hk hm
    have hlen : es.toList.length = m.length := by have := congrArg List.length h2; simpa using this
    have hje : j < es.size := by rw [Array.length_toList] at hlen; omega
    have hkey : es[j].key = .agg (wc p).toArray := by
      have e1 : (es.toList.map kv)[j]? = (m.map fun q => ((Value.agg (wc q.1).toArray, q.2) : Value × Value))[j]? := by rw [h2]
      rw [List.getElem?_map, List.getElem?_map] at e1
      rw [List.getElem?_eq_getElem hj] at hk e1
      rw [Array.getElem?_toList, Array.getElem?_eq_getElem hje] at e1
      simp only [Option.map_some, Option.some.injEq, kv, Prod.mk.injEq] at hk e1
      rw [e1.1, hk]
    refine ⟨_, by simp [Instr.mapUpdate, run_underlying hT, MapKept.run_getObj_map h1, run_checkW, hf, hje, hkey, run_staysW, MapKept.run_setObj_map _ h1, Result.andThen]; rfl, only_setBlock w B (.map (es.modify j fun e => { e with key := .agg (wc p).toArray, val := v }) c), ?_⟩
    refine h.step (L := [B]) (only_setBlock w B _) (fun k hk => .inl (by simpa [mapR] using hk)) ⟨_, _, Go.ChangeMaps.heap_setBlock_same h1 _, ?_⟩ (fun k hk => .inl hk)
    rw [hm]
    refine List.ext_getElem? fun i => ?_
    have e2 : (es.toList.map kv)[i]? = (m.map fun q => ((Value.agg (wc q.1).toArray, q.2) : Value × Value))[i]? := by rw [h2]
    simp only [List.getElem?_map, Array.toList_modify, List.getElem?_modify] at e2 ⊢
    by_cases hij : j = i
    · subst hij
      simp only [if_true]
      rw [List.getElem?_eq_getElem hj] at hk ⊢
      simp only [Option.map_some, Option.some.injEq] at hk
      rw [Array.getElem?_toList, Array.getElem?_eq_getElem hje]
      simp [kv, hk]
    · simp only [hij, if_false]
      simpa using e2
end Go.Proofs.Yticojdepepkdlaa

