/- InstantKeys returns true for every float and every number: a time's number, and back; a number's time. No condition. -/
import Derived.Test.YtekjabdfcgimnaaInst3
import Derived.Test.YtekjabdfcgimnaaOpenS
import Derived.Test.YtekjabdfcgimnaaSInstantKeys
namespace Go.Proofs.Ytekjabdfcgimnaa
open Go.RowKit Go.Pw Go.Pw.Fl

theorem f64_wf2 {b : Nat} (h : (Lit.float .f64 b).wf = true) : b < 18446744073709551616 := by simpa [Lit.wf] using h

set_option maxRecDepth 100000 in
set_option maxHeartbeats 800000 in
theorem keys_walk (t : Nat) (n : Int) (ht : t < 18446744073709551616) (h0 : 0 ≤ n) (h1 : n < 18446744073709551616) (w : World) :
    Calls Try.prog 6 #[.float .f64 t, .int .u64 n] w fun e w' => e = .returned (.bool true) ∧ Below w.heap.size w w' := by
  have hx := tTime_lt h0 h1
  have hk := kKey_bd ht
  have H1 := Lib.hid (time_any n h0 h1)
  have H2 := Lib.hid (key_any t ht)
  have H3 := Lib.hid (time_any (kKey t) hk.1 hk.2)
  have h4 := rsame_any (tTime (kKey t)) t (tTime_lt hk.1 hk.2) ht
  rw [time_key ht, decide_eq_true (Eq.refl (kKey t))] at h4
  have H4 := Lib.hid h4
  have H5 := Lib.hid (key_any (tTime n) hx)
  rcases nan_both (tTime n) with h | h
  · have o := order_yes (x := tTime n) (y := tTime n) (.inl h)
    clear h h4 hx hk ht h0 h1
    generalize tTime n = x at *
    generalize tTime (kKey t) = y at *
    generalize kKey t = kt at *
    generalize kKey x = kx at *
    have hc : (kx == n) = true ∨ (kx == n) = false := by cases (kx == n) <;> simp
    rcases hc with hc | hc
    all_goals
      go_enter Try.func6, Try.ntmps6
      go_wp2_with fail
      refine (H1.out _).mono ?_
      rintro e w' ⟨rfl, rfl⟩
      go_wp2_with fail
      refine (awake1 _).mono ?_
      rintro e w1 ⟨rfl, h1⟩
      go_wp2_with fail
      refine (H2.out _).mono ?_
      rintro e w' ⟨rfl, rfl⟩
      go_wp2_with fail
      refine (H3.out _).mono ?_
      rintro e w' ⟨rfl, rfl⟩
      go_wp2_with fail
      refine (H4.out _).mono ?_
      rintro e w' ⟨rfl, rfl⟩
      go_wp2_with fail
      refine (H5.out _).mono ?_
      rintro e w' ⟨rfl, rfl⟩
      go_wp2_with fail
      go_ret
      exact ⟨rfl, h1.below (Nat.le_refl _) (by simp)⟩
  · have hc : (kKey (tTime n) == n) = true := by rw [key_time h0 h1 h]; simp
    clear h h4 hx hk ht h0 h1
    generalize tTime n = x at *
    generalize tTime (kKey t) = y at *
    generalize kKey t = kt at *
    generalize kKey x = kx at *
    go_enter Try.func6, Try.ntmps6
    go_wp2_with fail
    refine (H1.out _).mono ?_
    rintro e w' ⟨rfl, rfl⟩
    go_wp2_with fail
    refine (awake1 _).mono ?_
    rintro e w1 ⟨rfl, h1⟩
    go_wp2_with fail
    refine (H2.out _).mono ?_
    rintro e w' ⟨rfl, rfl⟩
    go_wp2_with fail
    refine (H3.out _).mono ?_
    rintro e w' ⟨rfl, rfl⟩
    go_wp2_with fail
    refine (H4.out _).mono ?_
    rintro e w' ⟨rfl, rfl⟩
    go_wp2_with fail
    refine (H5.out _).mono ?_
    rintro e w' ⟨rfl, rfl⟩
    go_wp2_with fail
    go_ret
    exact ⟨rfl, h1.below (Nat.le_refl _) (by simp)⟩

theorem instantKeys_holds : Rows.InstantKeysSaid := instantKeys.said fun H enc base W v0 v1 d0 p0 d1 p1 h0 h1 h2 h3 => by
  obtain ⟨a, rfl, _, _, wa⟩ := Go.ChangeShapes.open_float Try.underlying22 h0 h1
  obtain ⟨n, hn, hw⟩ := reads_int Try.underlying29 (reads_of h3)
  obtain ⟨k, rfl⟩ := Go.WideShapes.okWide_int Try.underlying29 h2
  simp [Value.cells] at hn
  subst hn
  exact keys_walk a k (f64_wf2 wa) (u64_wf hw).1 (u64_wf hw).2 W
end Go.Proofs.Ytekjabdfcgimnaa
