/- InstantPasses returns true for every three floats: time goes by as the reference says, never back, never to no time. No condition. -/
import Derived.Test.YtekjabdfcgimnaaInst3
import Derived.Test.YtekjabdfcgimnaaOpenS
import Derived.Test.YtekjabdfcgimnaaSInstantPasses
namespace Go.Proofs.Ytekjabdfcgimnaa
open Go.RowKit Go.Pw Go.Pw.Fl

theorem f64_wf4 {b : Nat} (h : (Lit.float .f64 b).wf = true) : b < 18446744073709551616 := by simpa [Lit.wf] using h

theorem zero_sum (x : Nat) (h : FinW x = true) : ∃ r, Ieee.double.sub x x = some r ∧ FloatKind.f64.format.order r 0 = some .eq := by
  obtain ⟨r, e, p1, p2, p3⟩ := sub_fin x x (fin_lt h) (fin_lt h)
  refine ⟨r, e, order_eq' (nan_of p1) nan_zero ?_⟩
  rw [p3, Int.sub_self, sr_0]
  decide
theorem not_sum (x : Nat) (h : FinW x = false) : Ieee.double.sub x x = none := by
  have hc : ¬ rg x < 9218868437227405312 := by simpa [FinW] using h
  unfold Ieee.Format.sub
  by_cases c : rg x = 9218868437227405312
  · rw [read_inf x c]
    simp [Ieee.Datum.sum, Ieee.Datum.opposite]
  · rw [read_nan x (by omega)]
    rfl
theorem leq_fin {x y : Nat} (h : NaN x = false) (k : NaN y = false) (hl : sr x ≤ sr y) : (FloatKind.f64.format.order x y == some .lt || FloatKind.f64.format.order x y == some .eq) = true := by
  rcases Int.lt_or_eq_of_le hl with c | c
  · rw [order_lt h k c]; rfl
  · rw [order_eq' h k c]; rfl

set_option maxRecDepth 100000 in
set_option maxHeartbeats 1600000 in
theorem passes_walk (now d s : Nat) (hn : now < 18446744073709551616) (hd : d < 18446744073709551616) (hs : s < 18446744073709551616) (w : World) :
    Calls Try.prog 3 #[.float .f64 now, .float .f64 d, .float .f64 s] w fun e w' => e = .returned (.bool true) ∧ Below w.heap.size w w' := by
  have ht := pass_lt hn hd
  have H1 := Lib.hid (pass_any now d hn hd)
  have H2 := Lib.hid (pass_any (passV now d) s ht hs)
  have H3 := Lib.hid (rpass_any now d hd)
  have H4 := Lib.hid (rpass_any (passV now d) s hs)
  have hf := pass_fin (now := now) hd
  have hg := pass_fin (now := passV now d) hs
  have h5 := rsame_any (passV now d) (passV now d) ht ht
  rw [decide_eq_true (Eq.refl _)] at h5
  have H5 := Lib.hid h5
  have hu := pass_lt ht hs
  have h6 := rsame_any (passV (passV now d) s) (passV (passV now d) s) hu hu
  rw [decide_eq_true (Eq.refl _)] at h6
  have H6 := Lib.hid h6
  have h7 := is_any (passV now d) ht
  rw [hf.1] at h7
  have H7 := Lib.hid h7
  have h8 := is_any now hn
  have hle := leq_fin (fin_nan hf.1) (fin_nan hg.1) (by have := hg.2; rwa [held_self hf.1] at this)
  have hb : FinW now = true ∨ FinW now = false := by cases FinW now <;> simp
  rcases hb with b | b
  · rw [b] at h8
    have H8 := Lib.hid h8
    obtain ⟨r, e1, e2⟩ := zero_sum now b
    have hrun := fun w => run_float_arith (P := Try.prog) w .sub 22 .f64 now now r e1
    clear ht hf hg h5 hu h6 h7 h8 b hn hd hs e1
    generalize passV (passV now d) s = u at *
    generalize passV now d = t at *
    go_enter Try.func3, Try.ntmps3
    go_wp2_with fail
    refine (H1.out _).mono ?_
    rintro e w' ⟨rfl, rfl⟩
    go_wp2_with fail
    refine (H2.out _).mono ?_
    rintro e w' ⟨rfl, rfl⟩
    go_wp2_with fail
    refine (awake1 _).mono ?_
    rintro e w1 ⟨rfl, h1⟩
    go_wp2_with fail
    refine (H3.out _).mono ?_
    rintro e w' ⟨rfl, rfl⟩
    go_wp2_with fail
    refine (H5.out _).mono ?_
    rintro e w' ⟨rfl, rfl⟩
    go_wp2_with fail
    refine (H4.out _).mono ?_
    rintro e w' ⟨rfl, rfl⟩
    go_wp2_with fail
    refine (H6.out _).mono ?_
    rintro e w' ⟨rfl, rfl⟩
    go_wp2_with fail
    refine (H7.out _).mono ?_
    rintro e w' ⟨rfl, rfl⟩
    go_wp2_with fail
    refine (H8.out _).mono ?_
    rintro e w' ⟨rfl, rfl⟩
    go_wp2_with fail
    go_ret
    exact ⟨rfl, (h1).below (Nat.le_refl _) (by simp)⟩
  · rw [b] at h8
    have H8 := Lib.hid h8
    have hq := fun w => run_sub_none now now (not_sum now b) w
    clear ht hf hg h5 hu h6 h7 h8 b hn hd hs
    generalize passV (passV now d) s = u at *
    generalize passV now d = t at *
    go_enter Try.func3, Try.ntmps3
    go_wp2_with fail
    refine (H1.out _).mono ?_
    rintro e w' ⟨rfl, rfl⟩
    go_wp2_with fail
    refine (H2.out _).mono ?_
    rintro e w' ⟨rfl, rfl⟩
    go_wp2_with fail
    refine (awake1 _).mono ?_
    rintro e w1 ⟨rfl, h1⟩
    go_wp2_with fail
    refine (H3.out _).mono ?_
    rintro e w' ⟨rfl, rfl⟩
    go_wp2_with fail
    refine (H5.out _).mono ?_
    rintro e w' ⟨rfl, rfl⟩
    go_wp2_with fail
    refine (H4.out _).mono ?_
    rintro e w' ⟨rfl, rfl⟩
    go_wp2_with fail
    refine (H6.out _).mono ?_
    rintro e w' ⟨rfl, rfl⟩
    go_wp2_with fail
    refine (H7.out _).mono ?_
    rintro e w' ⟨rfl, rfl⟩
    go_wp2_with fail
    refine (H8.out _).mono ?_
    rintro e w' ⟨rfl, rfl⟩
    obtain ⟨q, hq1, hq2⟩ := hq w1
    have hq3 := order_yes (x := q) (y := 0) (.inl hq1)
    clear hq hq1
    go_wp2_with fail
    go_ret
    exact ⟨rfl, (h1.trans (Only.drew _ _)).below (Nat.le_refl _) (by simp)⟩

theorem instantPasses_holds : Rows.InstantPassesSaid := instantPasses.said fun H enc base W v0 v1 v2 d0 p0 d1 p1 d2 p2 h0 h1 h2 h3 h4 h5 => by
  obtain ⟨a, rfl, _, _, wa⟩ := Go.ChangeShapes.open_float Try.underlying22 h0 h1
  obtain ⟨b, rfl, _, _, wb⟩ := Go.ChangeShapes.open_float Try.underlying22 h2 h3
  obtain ⟨c, rfl, _, _, wc⟩ := Go.ChangeShapes.open_float Try.underlying22 h4 h5
  exact passes_walk a b c (f64_wf4 wa) (f64_wf4 wb) (f64_wf4 wc) W
end Go.Proofs.Ytekjabdfcgimnaa
