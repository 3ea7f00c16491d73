/- The contracts of layer 1 (instant), and of its reference: what each gives, as a plain function of words. -/
import Derived.Test.YtekjabdfcgimnaaRows
import Derived.Test.YtekjabdfcgimnaaBase
import Derived.Test.YtekjabdfcgimnaaFl2
namespace Go.Proofs.Ytekjabdfcgimnaa
open Go.RowKit Go.Pw Go.Pw.Fl

theorem f64bits (x : Nat) (w : World) : (callFunc 29 #[.float .f64 x]).run Try.prog w = .ok (.value (.int .u64 x)) w := by
  rw [run_callFunc_extern Try.func29 (by kernel_rfl) (by kernel_rfl) (by kernel_rfl) (e := Extern.MathFloatBits.float64bits) (by kernel_rfl)]
  rfl
theorem f64from (n : Int) (w : World) : (callFunc 30 #[.int .u64 n]).run Try.prog w = .ok (.value (.float .f64 n.toNat)) w := by
  rw [run_callFunc_extern Try.func30 (by kernel_rfl) (by kernel_rfl) (by kernel_rfl) (e := Extern.MathFloatBits.float64frombits) (by kernel_rfl)]
  rfl

set_option maxHeartbeats 400000 in
theorem isnan_any (x : Nat) (w : World) :
    Calls Try.prog 20 #[.float .f64 x] w fun e w' => e = .returned (.bool (NaN x)) ∧ w = w' := by
  rcases nan_both x with h | h
  · have h1 := order_yes (x := x) (y := x) (.inl h)
    have H := Lib.hid h
    clear h
    go_enter Try.func20, Try.ntmps20
    go_wp2
    go_ret
    exact ⟨by rw [H.out]; rfl, rfl⟩
  · have h1 := order_self_no h
    have H := Lib.hid h
    clear h
    go_enter Try.func20, Try.ntmps20
    go_wp2
    go_ret
    exact ⟨by rw [H.out]; rfl, rfl⟩

theorem top_yes {x : Nat} (h : 9223372036854775808 ≤ x) (hx : x < 18446744073709551616) : (((x : Int) / 9223372036854775808 == 1) = true) := by
  have : (x : Int) / 9223372036854775808 = 1 := by omega
  rw [this]; rfl
theorem top_no {x : Nat} (h : ¬ 9223372036854775808 ≤ x) : (((x : Int) / 9223372036854775808 == 1) = false) := by
  have : (x : Int) / 9223372036854775808 = 0 := by omega
  rw [this]; rfl

set_option maxRecDepth 100000 in
set_option maxHeartbeats 400000 in
theorem key_any (x : Nat) (hx : x < 18446744073709551616) (w : World) :
    Calls Try.prog 17 #[.float .f64 x] w fun e w' => e = .returned (.int .u64 (kKey x)) ∧ w = w' := by
  have hb := f64bits x
  rcases nan_both x with h | h
  · have Hend := Lib.hid (kKey_nan h)
    go_enter Try.func17, Try.ntmps17
    go_wp2_with (go_at_call 20; refine (isnan_any x _).mono ?_; rintro e w' ⟨rfl, rfl⟩)
    go_ret
    exact ⟨by rw [Hend.out]; rfl, rfl⟩
  · by_cases ht : 9223372036854775808 ≤ x
    · have h1 := top_yes ht hx
      have Hend := Lib.hid (kKey_neg h ht)
      have Hx := Lib.hid (xor_max x (by omega) (by omega))
      clear ht hx
      go_enter Try.func17, Try.ntmps17
      go_wp2_with (go_at_call 20; refine (isnan_any x _).mono ?_; rintro e w' ⟨rfl, rfl⟩)
      go_ret
      refine ⟨?_, rfl⟩
      rw [Hend.out, ← Hx.out]
      rfl
    · have h1 := top_no ht
      have Hend := Lib.hid (kKey_pos h ht)
      have Hx := Lib.hid (or_top x (by omega) (by omega))
      clear ht hx
      go_enter Try.func17, Try.ntmps17
      go_wp2_with (go_at_call 20; refine (isnan_any x _).mono ?_; rintro e w' ⟨rfl, rfl⟩)
      go_ret
      refine ⟨?_, rfl⟩
      rw [Hend.out, ← Hx.out]
      rfl

set_option maxRecDepth 100000 in
set_option maxHeartbeats 400000 in
theorem rkey_any (x : Nat) (hx : x < 18446744073709551616) (w : World) :
    Calls Try.prog 18 #[.float .f64 x] w fun e w' => e = .returned (.int .u64 (kKey x)) ∧ w = w' := by
  have hb := f64bits x
  rcases nan_both x with h | h
  · have h1 := order_yes (x := x) (y := x) (.inl h)
    have Hend := Lib.hid (kKey_nan h)
    clear h hx
    go_enter Try.func18, Try.ntmps18
    go_wp2_with fail
    go_ret
    exact ⟨by rw [Hend.out]; rfl, rfl⟩
  · have h1 := order_self_no h
    by_cases ht : 9223372036854775808 ≤ x
    · have d1 : decide ((9223372036854775808 : Int) ≤ x) = true := by simp; omega
      have Hend := Lib.hid (kKey_neg h ht)
      have hx0 : (0 : Int) ≤ x := by omega
      have hx1 : (x : Int) < 18446744073709551616 := by omega
      have Hw : Hid (IntKind.u64.wrap (18446744073709551615 - (x : Int)) = 18446744073709551615 - (x : Int)) := show _ = _ by simp [IntKind.wrap, IntKind.bits, IntKind.signed]; omega
      clear ht hx h
      go_enter Try.func18, Try.ntmps18
      go_wp2_with fail
      go_ret
      refine ⟨?_, rfl⟩
      rw [Hend.out]
      first | rfl | (rw [← Hw.out]; rfl)
    · have d1 : decide ((9223372036854775808 : Int) ≤ x) = false := by simp; omega
      have Hend := Lib.hid (kKey_pos h ht)
      have hx0 : (0 : Int) ≤ x := by omega
      have hx1 : (x : Int) < 9223372036854775808 := by omega
      have Hw : Hid (IntKind.u64.wrap ((x : Int) + 9223372036854775808) = (x : Int) + 9223372036854775808) := show _ = _ by simp [IntKind.wrap, IntKind.bits, IntKind.signed]; omega
      clear ht hx h
      go_enter Try.func18, Try.ntmps18
      go_wp2_with fail
      go_ret
      refine ⟨?_, rfl⟩
      rw [Hend.out]
      first | rfl | (rw [← Hw.out]; rfl)

set_option maxRecDepth 100000 in
set_option maxHeartbeats 400000 in
theorem time_any (n : Int) (h0 : 0 ≤ n) (h1 : n < 18446744073709551616) (w : World) :
    Calls Try.prog 19 #[.int .u64 n] w fun e w' => e = .returned (.float .f64 (tTime n)) ∧ w = w' := by
  have hb := f64from
  by_cases ht : 9223372036854775808 ≤ n
  · have d1 : (n / 9223372036854775808 == 1) = true := by
      have : n / 9223372036854775808 = 1 := by omega
      rw [this]; rfl
    have Hx := Lib.hid (andNot_top n ht h1)
    have Hend : Hid (tTime n = (n - 9223372036854775808).toNat) := if_pos ht
    clear ht h1
    go_enter Try.func19, Try.ntmps19
    go_wp2_with fail
    go_ret
    refine ⟨?_, rfl⟩
    rw [Hend.out, ← Hx.out]
    rfl
  · have d1 : (n / 9223372036854775808 == 1) = false := by
      have : n / 9223372036854775808 = 0 := by omega
      rw [this]; rfl
    have Hx := Lib.hid (xor_max n h0 h1)
    have Hend : Hid (tTime n = (18446744073709551615 - n).toNat) := if_neg ht
    clear ht h1
    go_enter Try.func19, Try.ntmps19
    go_wp2_with fail
    go_ret
    refine ⟨?_, rfl⟩
    rw [Hend.out, ← Hx.out]
    rfl

theorem sign_eq (x : Nat) (hx : x < 18446744073709551616) : decide (wrap64 (x : Int) < 0) = decide (9223372036854775808 ≤ x) := by
  rw [decide_eq_decide]
  simp [wrap64]
  omega

set_option maxRecDepth 100000 in
set_option maxHeartbeats 400000 in
theorem signbit_any (x : Nat) (hx : x < 18446744073709551616) (w : World) :
    Calls Try.prog 28 #[.float .f64 x] w fun e w' => e = .returned (.bool (decide (9223372036854775808 ≤ x))) ∧ w = w' := by
  have hb := f64bits x
  have Hx := Lib.hid (sign_eq x hx)
  clear hx
  go_enter Try.func28, Try.ntmps28
  go_wp2_with fail
  go_ret
  exact ⟨by rw [← Hx.out]; rfl, rfl⟩

set_option maxRecDepth 100000 in
set_option maxHeartbeats 800000 in
theorem ahead_any (x y : Nat) (hx : x < 18446744073709551616) (hy : y < 18446744073709551616) (w : World) :
    Calls Try.prog 15 #[.float .f64 x, .float .f64 y] w fun e w' => e = .returned (.bool (decide (kKey x < kKey y))) ∧ w = w' := by
  rcases nan_both x with h | h
  · have h1 := order_yes (x := x) (y := x) (.inl h)
    have Hend : Hid (decide (kKey x < kKey y) = false) := show _ = _ by rw [kKey_nan h]; have := kKey_bd hy; simp; omega
    clear h hx hy
    go_enter Try.func15, Try.ntmps15
    go_wp2_with fail
    go_ret
    exact ⟨by rw [Hend.out]; rfl, rfl⟩
  · have h1 := order_self_no h
    rcases nan_both y with k | k
    · have k1 := order_yes (x := y) (y := y) (.inl k)
      have Hend : Hid (decide (kKey x < kKey y) = true) := show _ = _ by rw [kKey_nan k]; have := kKey_lt hx h; simp; omega
      clear h k hx hy
      go_enter Try.func15, Try.ntmps15
      go_wp2_with fail
      go_ret
      exact ⟨by rw [Hend.out]; rfl, rfl⟩
    · have k1 := order_self_no k
      by_cases hz : sr x = 0 ∧ sr y = 0
      · have z1 := order_eq' h nan_zero (by rw [hz.1, sr_0])
        have z2 := order_eq' k nan_zero (by rw [hz.2, sr_0])
        have hsx := Lib.hid (signbit_any x hx)
        have hsy := Lib.hid (signbit_any y hy)
        have Hend : Hid (decide (kKey x < kKey y) = (decide (9223372036854775808 ≤ x) && !decide (9223372036854775808 ≤ y))) := show _ = _ by rw [Bool.eq_iff_iff]; simp [kKey_zero hx hy h k hz.1 hz.2]
        clear hz hx hy h k
        by_cases c1 : 9223372036854775808 ≤ x
        · go_enter Try.func15, Try.ntmps15
          go_wp2_with fail
          refine (hsx.out _).mono ?_
          rintro e w' ⟨rfl, rfl⟩
          go_wp2_with fail
          refine (hsy.out _).mono ?_
          rintro e w' ⟨rfl, rfl⟩
          go_wp2_with fail
          go_ret
          refine ⟨?_, rfl⟩
          rw [Hend.out, decide_eq_true c1]
          rfl
        · go_enter Try.func15, Try.ntmps15
          go_wp2_with fail
          refine (hsx.out _).mono ?_
          rintro e w' ⟨rfl, rfl⟩
          go_wp2_with fail
          go_ret
          refine ⟨?_, rfl⟩
          rw [Hend.out, decide_eq_false c1]
          rfl
      · have Hend : Hid (decide (kKey x < kKey y) = (FloatKind.f64.format.order x y == some .lt)) := show _ = _ by
          rw [order_no h k, ord, Bool.eq_iff_iff]
          have := kKey_ord hx hy h k hz
          simp only [decide_eq_true_eq, this]
          split
          · simp_all
          · split <;> simp_all
        by_cases hz1 : sr x = 0
        · have z1 := order_eq' h nan_zero (by rw [hz1, sr_0])
          have z2 : (FloatKind.f64.format.order y 0 == some .eq) = false := by
            rw [order_no k nan_zero, sr_0, ord]
            split
            · rfl
            · rw [if_neg (fun e => hz ⟨hz1, e⟩)]; rfl
          clear hz hx hy h k hz1
          go_enter Try.func15, Try.ntmps15
          go_wp2_with fail
          go_ret
          exact ⟨by rw [Hend.out]; rfl, rfl⟩
        · have z1 : (FloatKind.f64.format.order x 0 == some .eq) = false := by
            rw [order_no h nan_zero, sr_0, ord]
            rcases Int.lt_trichotomy (sr x) 0 with c | c | c
            · rw [if_pos c]; rfl
            · exact absurd c hz1
            · rw [if_neg (by omega), if_neg (by omega)]; rfl
          clear hz hx hy h k hz1
          go_enter Try.func15, Try.ntmps15
          go_wp2_with fail
          go_ret
          exact ⟨by rw [Hend.out]; rfl, rfl⟩

set_option maxHeartbeats 400000 in
theorem before_any (x y : Nat) (hx : x < 18446744073709551616) (hy : y < 18446744073709551616) (w : World) :
    Calls Try.prog 14 #[.float .f64 x, .float .f64 y] w fun e w' => e = .returned (.bool (decide (kKey x < kKey y))) ∧ w = w' := by
  have hsx := Lib.hid (key_any x hx)
  have hsy := Lib.hid (key_any y hy)
  clear hx hy
  go_enter Try.func14, Try.ntmps14
  go_wp2_with fail
  refine (hsx.out _).mono ?_
  rintro e w' ⟨rfl, rfl⟩
  go_wp2_with fail
  refine (hsy.out _).mono ?_
  rintro e w' ⟨rfl, rfl⟩
  go_wp2_with fail
  go_ret
  exact ⟨rfl, rfl⟩

set_option maxHeartbeats 400000 in
theorem same_any (x y : Nat) (hx : x < 18446744073709551616) (hy : y < 18446744073709551616) (w : World) :
    Calls Try.prog 16 #[.float .f64 x, .float .f64 y] w fun e w' => e = .returned (.bool (decide (kKey x = kKey y))) ∧ w = w' := by
  have hsx := Lib.hid (key_any x hx)
  have hsy := Lib.hid (key_any y hy)
  clear hx hy
  go_enter Try.func16, Try.ntmps16
  go_wp2_with fail
  refine (hsx.out _).mono ?_
  rintro e w' ⟨rfl, rfl⟩
  go_wp2_with fail
  refine (hsy.out _).mono ?_
  rintro e w' ⟨rfl, rfl⟩
  go_wp2_with fail
  go_ret
  exact ⟨rfl, rfl⟩

set_option maxHeartbeats 400000 in
theorem rsame_any (x y : Nat) (hx : x < 18446744073709551616) (hy : y < 18446744073709551616) (w : World) :
    Calls Try.prog 9 #[.float .f64 x, .float .f64 y] w fun e w' => e = .returned (.bool (decide (kKey x = kKey y))) ∧ w = w' := by
  have hsx := Lib.hid (ahead_any x y hx hy)
  have hsy := Lib.hid (ahead_any y x hy hx)
  clear hx hy
  rcases Int.lt_trichotomy (kKey x) (kKey y) with c | c | c
  · have e1 : decide (kKey x < kKey y) = true := by simpa using c
    have Hend : Hid (decide (kKey x = kKey y) = false) := show _ = _ by simp; omega
    rw [e1] at hsx
    clear c e1
    go_enter Try.func9, Try.ntmps9
    go_wp2_with fail
    refine (hsx.out _).mono ?_
    rintro e w' ⟨rfl, rfl⟩
    go_wp2_with fail
    go_ret
    exact ⟨by rw [Hend.out]; rfl, rfl⟩
  all_goals
    have e1 : decide (kKey x < kKey y) = false := by simp; omega
    have Hend : Hid (decide (kKey x = kKey y) = !decide (kKey y < kKey x)) := show _ = _ by rw [Bool.eq_iff_iff]; simp; omega
    rw [e1] at hsx
    clear c e1
    go_enter Try.func9, Try.ntmps9
    go_wp2_with fail
    refine (hsx.out _).mono ?_
    rintro e w' ⟨rfl, rfl⟩
    go_wp2_with fail
    refine (hsy.out _).mono ?_
    rintro e w' ⟨rfl, rfl⟩
    go_wp2_with fail
    go_ret
    exact ⟨by rw [Hend.out]; rfl, rfl⟩
end Go.Proofs.Ytekjabdfcgimnaa
