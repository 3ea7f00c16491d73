/- The contracts of layer 1 (instant) that this seat reaches. -/
import Derived.Test.YtdlbkdnpbcpjfaaRows
import Derived.Test.YtdlbkdnpbcpjfaaPa
import Derived.Test.YtdlbkdnpbcpjfaaFl2
set_option linter.unusedSimpArgs false
set_option linter.unusedVariables false
namespace Go.Proofs.Ytdlbkdnpbcpjfaa
open Go.RowKit Go.Pw Go.Pw.Fl
set_option linter.unusedVariables false

theorem f64bits (x : Nat) (w : World) : (callFunc 68 #[.float .f64 x]).run Try.prog w = .ok (.value (.int .u64 x)) w := by
  rw [run_callFunc_extern Try.func68 (by kernel_rfl) (by kernel_rfl) (by kernel_rfl) (e := Extern.MathFloatBits.float64bits) (by kernel_rfl)]
  rfl
theorem f64from (n : Int) (w : World) : (callFunc 73 #[.int .u64 n]).run Try.prog w = .ok (.value (.float .f64 n.toNat)) w := by
  rw [run_callFunc_extern Try.func73 (by kernel_rfl) (by kernel_rfl) (by kernel_rfl) (e := Extern.MathFloatBits.float64frombits) (by kernel_rfl)]
  rfl

set_option maxHeartbeats 400000 in
theorem isnan_any (x : Nat) (w : World) :
    Calls Try.prog 34 #[.float .f64 x] w fun e w' => e = .returned (.bool (NaN x)) ∧ w = w' := by
  rcases nan_both x with h | h
  · have h1 := order_yes (x := x) (y := x) (.inl h)
    have H := Lib.hid h
    clear h
    go_enter Try.func34, Try.ntmps34
    go_wp2
    go_ret
    exact ⟨by rw [H.out]; rfl, rfl⟩
  · have h1 := order_self_no h
    have H := Lib.hid h
    clear h
    go_enter Try.func34, Try.ntmps34
    go_wp2
    go_ret
    exact ⟨by rw [H.out]; rfl, rfl⟩

theorem top_yes {x : Nat} (h : 9223372036854775808 ≤ x) (hx : x < 18446744073709551616) : (((x : Int) / 9223372036854775808 == 1) = true) := by
  have : (x : Int) / 9223372036854775808 = 1 := by omega
  rw [this]; rfl
theorem top_no {x : Nat} (h : ¬ 9223372036854775808 ≤ x) : (((x : Int) / 9223372036854775808 == 1) = false) := by
  have : (x : Int) / 9223372036854775808 = 0 := by omega
  rw [this]; rfl

set_option maxRecDepth 100000 in
set_option maxHeartbeats 400000 in
theorem key_any (x : Nat) (hx : x < 18446744073709551616) (w : World) :
    Calls Try.prog 45 #[.float .f64 x] w fun e w' => e = .returned (.int .u64 (kKey x)) ∧ w = w' := by
  have hb := f64bits x
  rcases nan_both x with h | h
  · have Hend := Lib.hid (kKey_nan h)
    go_enter Try.func45, Try.ntmps45
    go_wp2_with (go_at_call 34; refine (isnan_any x _).mono ?_; rintro e w' ⟨rfl, rfl⟩)
    go_ret
    exact ⟨by rw [Hend.out]; rfl, rfl⟩
  · by_cases ht : 9223372036854775808 ≤ x
    · have h1 := top_yes ht hx
      have Hend := Lib.hid (kKey_neg h ht)
      have Hx := Lib.hid (xor_max x (by omega) (by omega))
      clear ht hx
      go_enter Try.func45, Try.ntmps45
      go_wp2_with (go_at_call 34; refine (isnan_any x _).mono ?_; rintro e w' ⟨rfl, rfl⟩)
      go_ret
      refine ⟨?_, rfl⟩
      rw [Hend.out, ← Hx.out]
      rfl
    · have h1 := top_no ht
      have Hend := Lib.hid (kKey_pos h ht)
      have Hx := Lib.hid (or_top x (by omega) (by omega))
      clear ht hx
      go_enter Try.func45, Try.ntmps45
      go_wp2_with (go_at_call 34; refine (isnan_any x _).mono ?_; rintro e w' ⟨rfl, rfl⟩)
      go_ret
      refine ⟨?_, rfl⟩
      rw [Hend.out, ← Hx.out]
      rfl

set_option maxRecDepth 100000 in
set_option maxHeartbeats 400000 in
theorem time_any (n : Int) (h0 : 0 ≤ n) (h1 : n < 18446744073709551616) (w : World) :
    Calls Try.prog 53 #[.int .u64 n] w fun e w' => e = .returned (.float .f64 (tTime n)) ∧ w = w' := by
  have hb := f64from
  by_cases ht : 9223372036854775808 ≤ n
  · have d1 : (n / 9223372036854775808 == 1) = true := by
      have : n / 9223372036854775808 = 1 := by omega
      rw [this]; rfl
    have Hx := Lib.hid (andNot_top n ht h1)
    have Hend : Hid (tTime n = (n - 9223372036854775808).toNat) := if_pos ht
    clear ht h1
    go_enter Try.func53, Try.ntmps53
    go_wp2_with fail
    go_ret
    refine ⟨?_, rfl⟩
    rw [Hend.out, ← Hx.out]
    rfl
  · have d1 : (n / 9223372036854775808 == 1) = false := by
      have : n / 9223372036854775808 = 0 := by omega
      rw [this]; rfl
    have Hx := Lib.hid (xor_max n h0 h1)
    have Hend : Hid (tTime n = (18446744073709551615 - n).toNat) := if_neg ht
    clear ht h1
    go_enter Try.func53, Try.ntmps53
    go_wp2_with fail
    go_ret
    refine ⟨?_, rfl⟩
    rw [Hend.out, ← Hx.out]
    rfl

theorem sign_eq (x : Nat) (hx : x < 18446744073709551616) : decide (wrap64 (x : Int) < 0) = decide (9223372036854775808 ≤ x) := by
  rw [decide_eq_decide]
  simp [wrap64]
  omega

set_option maxRecDepth 100000 in
set_option maxHeartbeats 400000 in
theorem signbit_any (x : Nat) (hx : x < 18446744073709551616) (w : World) :
    Calls Try.prog 62 #[.float .f64 x] w fun e w' => e = .returned (.bool (decide (9223372036854775808 ≤ x))) ∧ w = w' := by
  have hb := f64bits x
  have Hx := Lib.hid (sign_eq x hx)
  clear hx
  go_enter Try.func62, Try.ntmps62
  go_wp2_with fail
  go_ret
  exact ⟨by rw [← Hx.out]; rfl, rfl⟩

set_option maxRecDepth 100000 in
set_option maxHeartbeats 800000 in
theorem ahead_any (x y : Nat) (hx : x < 18446744073709551616) (hy : y < 18446744073709551616) (w : World) :
    Calls Try.prog 33 #[.float .f64 x, .float .f64 y] w fun e w' => e = .returned (.bool (decide (kKey x < kKey y))) ∧ w = w' := by
  rcases nan_both x with h | h
  · have h1 := order_yes (x := x) (y := x) (.inl h)
    have Hend : Hid (decide (kKey x < kKey y) = false) := show _ = _ by rw [kKey_nan h]; have := kKey_bd hy; simp; omega
    clear h hx hy
    go_enter Try.func33, Try.ntmps33
    go_wp2_with fail
    go_ret
    exact ⟨by rw [Hend.out]; rfl, rfl⟩
  · have h1 := order_self_no h
    rcases nan_both y with k | k
    · have k1 := order_yes (x := y) (y := y) (.inl k)
      have Hend : Hid (decide (kKey x < kKey y) = true) := show _ = _ by rw [kKey_nan k]; have := kKey_lt hx h; simp; omega
      clear h k hx hy
      go_enter Try.func33, Try.ntmps33
      go_wp2_with fail
      go_ret
      exact ⟨by rw [Hend.out]; rfl, rfl⟩
    · have k1 := order_self_no k
      by_cases hz : sr x = 0 ∧ sr y = 0
      · have z1 := order_eq' h nan_zero (by rw [hz.1, sr_0])
        have z2 := order_eq' k nan_zero (by rw [hz.2, sr_0])
        have hsx := Lib.hid (signbit_any x hx)
        have hsy := Lib.hid (signbit_any y hy)
        have Hend : Hid (decide (kKey x < kKey y) = (decide (9223372036854775808 ≤ x) && !decide (9223372036854775808 ≤ y))) := show _ = _ by rw [Bool.eq_iff_iff]; simp [kKey_zero hx hy h k hz.1 hz.2]
        clear hz hx hy h k
        by_cases c1 : 9223372036854775808 ≤ x
        · go_enter Try.func33, Try.ntmps33
          go_wp2_with fail
          refine (hsx.out _).mono ?_
          rintro e w' ⟨rfl, rfl⟩
          go_wp2_with fail
          refine (hsy.out _).mono ?_
          rintro e w' ⟨rfl, rfl⟩
          go_wp2_with fail
          go_ret
          refine ⟨?_, rfl⟩
          rw [Hend.out, decide_eq_true c1]
          rfl
        · go_enter Try.func33, Try.ntmps33
          go_wp2_with fail
          refine (hsx.out _).mono ?_
          rintro e w' ⟨rfl, rfl⟩
          go_wp2_with fail
          go_ret
          refine ⟨?_, rfl⟩
          rw [Hend.out, decide_eq_false c1]
          rfl
      · have Hend : Hid (decide (kKey x < kKey y) = (FloatKind.f64.format.order x y == some .lt)) := show _ = _ by
          rw [order_no h k, ord, Bool.eq_iff_iff]
          have := kKey_ord hx hy h k hz
          simp only [decide_eq_true_eq, this]
          split
          · simp_all
          · split <;> simp_all
        by_cases hz1 : sr x = 0
        · have z1 := order_eq' h nan_zero (by rw [hz1, sr_0])
          have z2 : (FloatKind.f64.format.order y 0 == some .eq) = false := by
            rw [order_no k nan_zero, sr_0, ord]
            split
            · rfl
            · rw [if_neg (fun e => hz ⟨hz1, e⟩)]; rfl
          clear hz hx hy h k hz1
          go_enter Try.func33, Try.ntmps33
          go_wp2_with fail
          go_ret
          exact ⟨by rw [Hend.out]; rfl, rfl⟩
        · have z1 : (FloatKind.f64.format.order x 0 == some .eq) = false := by
            rw [order_no h nan_zero, sr_0, ord]
            rcases Int.lt_trichotomy (sr x) 0 with c | c | c
            · rw [if_pos c]; rfl
            · exact absurd c hz1
            · rw [if_neg (by omega), if_neg (by omega)]; rfl
          clear hz hx hy h k hz1
          go_enter Try.func33, Try.ntmps33
          go_wp2_with fail
          go_ret
          exact ⟨by rw [Hend.out]; rfl, rfl⟩

set_option maxHeartbeats 400000 in
theorem rsame_any (x y : Nat) (hx : x < 18446744073709551616) (hy : y < 18446744073709551616) (w : World) :
    Calls Try.prog 15 #[.float .f64 x, .float .f64 y] w fun e w' => e = .returned (.bool (decide (kKey x = kKey y))) ∧ w = w' := by
  have hsx := Lib.hid (ahead_any x y hx hy)
  have hsy := Lib.hid (ahead_any y x hy hx)
  clear hx hy
  rcases Int.lt_trichotomy (kKey x) (kKey y) with c | c | c
  · have e1 : decide (kKey x < kKey y) = true := by simpa using c
    have Hend : Hid (decide (kKey x = kKey y) = false) := show _ = _ by simp; omega
    rw [e1] at hsx
    clear c e1
    go_enter Try.func15, Try.ntmps15
    go_wp2_with fail
    refine (hsx.out _).mono ?_
    rintro e w' ⟨rfl, rfl⟩
    go_wp2_with fail
    go_ret
    exact ⟨by rw [Hend.out]; rfl, rfl⟩
  all_goals
    have e1 : decide (kKey x < kKey y) = false := by simp; omega
    have Hend : Hid (decide (kKey x = kKey y) = !decide (kKey y < kKey x)) := show _ = _ by rw [Bool.eq_iff_iff]; simp; omega
    rw [e1] at hsx
    clear c e1
    go_enter Try.func15, Try.ntmps15
    go_wp2_with fail
    refine (hsx.out _).mono ?_
    rintro e w' ⟨rfl, rfl⟩
    go_wp2_with fail
    refine (hsy.out _).mono ?_
    rintro e w' ⟨rfl, rfl⟩
    go_wp2_with fail
    go_ret
    exact ⟨by rw [Hend.out]; rfl, rfl⟩
set_option maxHeartbeats 400000 in
theorem abs_any (x : Nat) (hx : x < 18446744073709551616) (w : World) :
    Calls Try.prog 63 #[.float .f64 x] w fun e w' => e = .returned (.float .f64 (rg x)) ∧ w = w' := by
  have hb := f64bits x
  have hf := f64from
  have Hx := Lib.hid (andNot_abs x hx)
  clear hx
  go_enter Try.func63, Try.ntmps63
  go_wp2_with fail
  go_ret
  refine ⟨?_, rfl⟩
  have : (bits .andNot .u64 (x : Int) 9223372036854775808).toNat = rg x := by rw [Hx.out, Int.toNat_natCast]
  rw [← this]
  rfl

theorem rg_rg (x : Nat) : rg (rg x) = rg x ∧ sr (rg x) = rg x := by
  have h : rg x < 9223372036854775808 := Nat.mod_lt _ (by decide)
  rcases W (rg x) (by omega) with ⟨a, b, c, d⟩ | ⟨a, b, c, d⟩
  · exact ⟨c, d⟩
  · omega

/-- IsInf(x, 0) of what is no NaN. -/
theorem isinf0_any (x : Nat) (hx : x < 18446744073709551616) (h : NaN x = false) (w : World) :
    Calls Try.prog 35 #[.float .f64 x, .int .i64 0] w fun e w' => e = .returned (.bool (!FinW x)) ∧ w = w' := by
  have ha := Lib.hid (abs_any x hx)
  obtain ⟨q1, q2⟩ := rg_rg x
  have hn : NaN (rg x) = false := nan_of (by rw [q1]; exact nan_no h)
  have Hend : Hid ((FloatKind.f64.format.order (rg x) 9218868437227405311 == some .gt) = !FinW x) := show _ = _ by
    rw [order_no hn nan_max, q2, sr_max, ord, Bool.eq_iff_iff]
    have := nan_no h
    by_cases c : rg x < 9218868437227405312
    · rcases Nat.lt_or_eq_of_le (show rg x ≤ 9218868437227405311 by omega) with c1 | c1
      · rw [if_pos (by omega)]; simp [FinW, c]
      · rw [if_neg (by omega), if_pos (by omega)]; simp [FinW, c]
    · rw [if_neg (by omega), if_neg (by omega)]; simp [FinW]; omega
  clear q1 q2 hx h hn
  go_enter Try.func35, Try.ntmps35
  go_wp2_with fail
  refine (ha.out _).mono ?_
  rintro e w' ⟨rfl, rfl⟩
  go_wp2_with fail
  go_ret
  exact ⟨by rw [← Hend.out]; rfl, rfl⟩

theorem isinf1_any (x : Nat) (h : NaN x = false) (w : World) :
    Calls Try.prog 35 #[.float .f64 x, .int .i64 1] w fun e w' => e = .returned (.bool (decide (9218868437227405311 < sr x))) ∧ w = w' := by
  have Hend : Hid ((FloatKind.f64.format.order x 9218868437227405311 == some .gt) = decide (9218868437227405311 < sr x)) := show _ = _ by
    rw [order_no h nan_max, sr_max, ord, Bool.eq_iff_iff]
    rcases Int.lt_trichotomy (sr x) 9218868437227405311 with c | c | c
    · rw [if_pos c]; simp; omega
    · rw [if_neg (by omega), if_pos c]; simp; omega
    · rw [if_neg (by omega), if_neg (by omega)]; simp; omega
  clear h
  go_enter Try.func35, Try.ntmps35
  go_wp2_with fail
  go_ret
  exact ⟨by rw [← Hend.out]; rfl, rfl⟩

theorem under_f : (Try.prog.underlying 22) = some (.float .f64) := Try.underlying22

set_option maxHeartbeats 400000 in
theorem greatest_any (w : World) :
    Calls Try.prog 32 #[] w fun e w' => e = .returned (.float .f64 9218868437227405311) ∧ w = w' := by
  go_enter Try.func32, Try.ntmps32
  go_wp2
  go_ret
  exact ⟨rfl, rfl⟩

theorem neg_max (w : World) : (Op.unary .neg (.float .f64 9218868437227405311)).run Try.prog w = .ok (.float .f64 18442240474082181119) w := by kernel_rfl

/-- A difference that is no number: the bits are the tape's. -/
theorem run_sub_none (x y : Nat) (h : Ieee.double.sub x y = none) (w : World) : ∃ q, NaN q = true ∧ (binOp .sub 22 (.float .f64 x) (.float .f64 y)).run Try.prog w = .ok (.float .f64 q) w.drew := by
  have h' : FloatKind.f64.format.sub x y = none := h
  refine ⟨Question.cut (.nanBits .f64 x y) (w.tape w.drawn (.nanBits .f64 x y)), nan_q _, ?_⟩
  simp [binOp, Op.floatArith, h', Question.forced]

theorem leq_zero {d : Nat} (h : NaN d = false) : (sr d ≤ 0 → (FloatKind.f64.format.order d 0 == some .lt || FloatKind.f64.format.order d 0 == some .eq) = true) ∧ (¬ sr d ≤ 0 → (FloatKind.f64.format.order d 0 == some .lt || FloatKind.f64.format.order d 0 == some .eq) = false) := by
  rw [order_no h nan_zero, sr_0, ord]
  constructor
  · intro hl
    rcases Int.lt_or_eq_of_le hl with c | c
    · rw [if_pos c]; rfl
    · rw [if_neg (by omega), if_pos c]; rfl
  · intro hl
    rw [if_neg (by omega), if_neg (by omega)]; rfl
theorem geq_any {p d : Nat} (h : NaN p = false) (k : NaN d = false) : (FloatKind.f64.format.order p d == some .gt || FloatKind.f64.format.order p d == some .eq) = decide (sr d ≤ sr p) := by
  rw [order_no h k, ord, Bool.eq_iff_iff]
  rcases Int.lt_trichotomy (sr p) (sr d) with c | c | c
  · rw [if_pos c]; simp; omega
  · rw [if_neg (by omega), if_pos c]; simp; omega
  · rw [if_neg (by omega), if_neg (by omega)]; simp; omega

theorem over_no {now since d : Nat} (h : NaN d = true ∨ 9218868437227405311 < sr d ∨ NaN now = true ∨ NaN since = true) : overV now since d = false := if_pos h
theorem over_at {now since d : Nat} (h : ¬ (NaN d = true ∨ 9218868437227405311 < sr d ∨ NaN now = true ∨ NaN since = true)) (h1 : sr d ≤ 0) : overV now since d = true := by rw [overV, if_neg h, if_pos h1]
theorem over_none {now since d : Nat} (h : ¬ (NaN d = true ∨ 9218868437227405311 < sr d ∨ NaN now = true ∨ NaN since = true)) (h1 : ¬ sr d ≤ 0) (h2 : Ieee.double.sub now since = none) : overV now since d = false := by rw [overV, if_neg h, if_neg h1, h2]
theorem over_some {now since d r : Nat} (h : ¬ (NaN d = true ∨ 9218868437227405311 < sr d ∨ NaN now = true ∨ NaN since = true)) (h1 : ¬ sr d ≤ 0) (h2 : Ieee.double.sub now since = some r) : overV now since d = decide (sr d ≤ sr r) := by rw [overV, if_neg h, if_neg h1, h2]

/-- The answer of Over, and of its reference. -/
def OverA (now since d : Nat) (w : World) (e : Ending) (w' : World) : Prop := e = .returned (.bool (overV now since d)) ∧ Only w w' []

set_option maxHeartbeats 1600000 in
theorem over_any (now since d : Nat) (w : World) :
    Calls Try.prog 17 #[.float .f64 now, .float .f64 since, .float .f64 d] w (OverA now since d w) := by
  have hnd := isnan_any d
  rcases nan_both d with h | h
  · rw [h] at hnd
    have Hnd := Lib.hid hnd
    have Hend := Lib.hid (over_no (now := now) (since := since) (d := d) (.inl h))
    clear hnd h
    go_enter Try.func17, Try.ntmps17
    go_wp2_with fail
    refine (Hnd.out _).mono ?_
    rintro e w' ⟨rfl, rfl⟩
    go_wp2_with fail
    go_ret
    exact ⟨by rw [Hend.out]; rfl, Only.refl _ _⟩
  · rw [h] at hnd
    have Hnd := Lib.hid hnd
    have hin := isinf1_any d h
    by_cases c1 : 9218868437227405311 < sr d
    · rw [decide_eq_true c1] at hin
      have Hin := Lib.hid hin
      have Hend := Lib.hid (over_no (now := now) (since := since) (d := d) (.inr (.inl c1)))
      clear hnd h hin c1
      go_enter Try.func17, Try.ntmps17
      go_wp2_with fail
      refine (Hnd.out _).mono ?_
      rintro e w' ⟨rfl, rfl⟩
      go_wp2_with fail
      refine (Hin.out _).mono ?_
      rintro e w' ⟨rfl, rfl⟩
      go_wp2_with fail
      go_ret
      exact ⟨by rw [Hend.out]; rfl, Only.refl _ _⟩
    · rw [decide_eq_false c1] at hin
      have Hin := Lib.hid hin
      have hnn := isnan_any now
      rcases nan_both now with k | k
      · rw [k] at hnn
        have Hnn := Lib.hid hnn
        have Hend := Lib.hid (over_no (now := now) (since := since) (d := d) (.inr (.inr (.inl k))))
        clear hnd h hin c1 hnn k
        go_enter Try.func17, Try.ntmps17
        go_wp2_with fail
        refine (Hnd.out _).mono ?_
        rintro e w' ⟨rfl, rfl⟩
        go_wp2_with fail
        refine (Hin.out _).mono ?_
        rintro e w' ⟨rfl, rfl⟩
        go_wp2_with fail
        refine (Hnn.out _).mono ?_
        rintro e w' ⟨rfl, rfl⟩
        go_wp2_with fail
        go_ret
        exact ⟨by rw [Hend.out]; rfl, Only.refl _ _⟩
      · rw [k] at hnn
        have Hnn := Lib.hid hnn
        have hns := isnan_any since
        rcases nan_both since with l | l
        · rw [l] at hns
          have Hns := Lib.hid hns
          have Hend := Lib.hid (over_no (now := now) (since := since) (d := d) (.inr (.inr (.inr l))))
          clear hnd h hin c1 hnn k hns l
          go_enter Try.func17, Try.ntmps17
          go_wp2_with fail
          refine (Hnd.out _).mono ?_
          rintro e w' ⟨rfl, rfl⟩
          go_wp2_with fail
          refine (Hin.out _).mono ?_
          rintro e w' ⟨rfl, rfl⟩
          go_wp2_with fail
          refine (Hnn.out _).mono ?_
          rintro e w' ⟨rfl, rfl⟩
          go_wp2_with fail
          refine (Hns.out _).mono ?_
          rintro e w' ⟨rfl, rfl⟩
          go_wp2_with fail
          go_ret
          exact ⟨by rw [Hend.out]; rfl, Only.refl _ _⟩
        · rw [l] at hns
          have Hns := Lib.hid hns
          have hno : ¬ (NaN d = true ∨ 9218868437227405311 < sr d ∨ NaN now = true ∨ NaN since = true) := by
            rintro (c | c | c | c)
            · simp [h] at c
            · exact c1 c
            · simp [k] at c
            · simp [l] at c
          obtain ⟨q1, q2⟩ := leq_zero h
          by_cases c2 : sr d ≤ 0
          · have o1 := q1 c2
            have Hend := Lib.hid (over_at hno c2)
            clear hnd h hin c1 hnn k hns l hno c2 q1 q2
            go_enter Try.func17, Try.ntmps17
            go_wp2_with fail
            refine (Hnd.out _).mono ?_
            rintro e w' ⟨rfl, rfl⟩
            go_wp2_with fail
            refine (Hin.out _).mono ?_
            rintro e w' ⟨rfl, rfl⟩
            go_wp2_with fail
            refine (Hnn.out _).mono ?_
            rintro e w' ⟨rfl, rfl⟩
            go_wp2_with fail
            refine (Hns.out _).mono ?_
            rintro e w' ⟨rfl, rfl⟩
            go_wp2_with fail
            go_ret
            exact ⟨by rw [Hend.out]; rfl, Only.refl _ _⟩
          · have o1 := q2 c2
            cases hs : Ieee.double.sub now since with
            | none =>
              have Hend := Lib.hid (over_none hno c2 hs)
              obtain ⟨q, hq, hrun⟩ := run_sub_none now since hs w
              have o2 := order_yes (x := q) (y := d) (.inl hq)
              clear hnd h hin c1 hnn k hns l hno c2 q1 q2 hq hs
              go_enter Try.func17, Try.ntmps17
              go_wp2_with fail
              refine (Hnd.out _).mono ?_
              rintro e w' ⟨rfl, rfl⟩
              go_wp2_with fail
              refine (Hin.out _).mono ?_
              rintro e w' ⟨rfl, rfl⟩
              go_wp2_with fail
              refine (Hnn.out _).mono ?_
              rintro e w' ⟨rfl, rfl⟩
              go_wp2_with fail
              refine (Hns.out _).mono ?_
              rintro e w' ⟨rfl, rfl⟩
              go_wp2_with fail
              go_ret
              exact ⟨by rw [Hend.out]; rfl, Only.drew _ _⟩
            | some r =>
              have hr := sub_no hs
              have hend := over_some hno c2 hs
              rw [← geq_any hr h] at hend
              have Hend := Lib.hid hend
              have hrun := fun w => run_float_arith (P := Try.prog) w .sub 22 .f64 now since r hs
              clear hnd h hin c1 hnn k hns l hno c2 q1 q2 hs hr hend
              go_enter Try.func17, Try.ntmps17
              go_wp2_with fail
              refine (Hnd.out _).mono ?_
              rintro e w' ⟨rfl, rfl⟩
              go_wp2_with fail
              refine (Hin.out _).mono ?_
              rintro e w' ⟨rfl, rfl⟩
              go_wp2_with fail
              refine (Hnn.out _).mono ?_
              rintro e w' ⟨rfl, rfl⟩
              go_wp2_with fail
              refine (Hns.out _).mono ?_
              rintro e w' ⟨rfl, rfl⟩
              go_wp2_with fail
              go_ret
              exact ⟨by rw [Hend.out]; rfl, Only.refl _ _⟩

set_option maxHeartbeats 1600000 in
theorem rover_any (now since d : Nat) (w : World) :
    Calls Try.prog 13 #[.float .f64 now, .float .f64 since, .float .f64 d] w (OverA now since d w) := by
  rcases nan_both now with h | h
  · have o1 := order_yes (x := now) (y := now) (.inl h)
    have Hend := Lib.hid (over_no (now := now) (since := since) (d := d) (.inr (.inr (.inl h))))
    clear h
    go_enter Try.func13, Try.ntmps13
    go_wp2_with fail
    go_ret
    exact ⟨by rw [Hend.out]; rfl, Only.refl _ _⟩
  · have o1 := order_self_no h
    rcases nan_both since with k | k
    · have o2 := order_yes (x := since) (y := since) (.inl k)
      have Hend := Lib.hid (over_no (now := now) (since := since) (d := d) (.inr (.inr (.inr k))))
      clear h k
      go_enter Try.func13, Try.ntmps13
      go_wp2_with fail
      go_ret
      exact ⟨by rw [Hend.out]; rfl, Only.refl _ _⟩
    · have o2 := order_self_no k
      rcases nan_both d with l | l
      · have o3 := order_yes (x := d) (y := d) (.inl l)
        have Hend := Lib.hid (over_no (now := now) (since := since) (d := d) (.inl l))
        clear h k l
        go_enter Try.func13, Try.ntmps13
        go_wp2_with fail
        go_ret
        exact ⟨by rw [Hend.out]; rfl, Only.refl _ _⟩
      · have o3 := order_self_no l
        by_cases c1 : 9218868437227405311 < sr d
        · have o4 := order_gt l nan_max (by rw [sr_max]; exact c1)
          have Hend := Lib.hid (over_no (now := now) (since := since) (d := d) (.inr (.inl c1)))
          clear h k l c1
          go_enter Try.func13, Try.ntmps13
          go_wp2_with (go_at_call 32; refine (greatest_any _).mono ?_; rintro e w' ⟨rfl, rfl⟩)
          go_ret
          exact ⟨by rw [Hend.out]; rfl, Only.refl _ _⟩
        · have o4 : (FloatKind.f64.format.order d 9218868437227405311 == some .gt) = false := by
            rw [order_no l nan_max, sr_max, ord]
            split
            · rfl
            · rw [if_pos (by omega)]; rfl
          have hno : ¬ (NaN d = true ∨ 9218868437227405311 < sr d ∨ NaN now = true ∨ NaN since = true) := by
            rintro (c | c | c | c)
            · simp [l] at c
            · exact c1 c
            · simp [h] at c
            · simp [k] at c
          obtain ⟨q1, q2⟩ := leq_zero l
          by_cases c2 : sr d ≤ 0
          · have o5 := q1 c2
            have Hend := Lib.hid (over_at hno c2)
            clear h k l c1 hno c2 q1 q2
            go_enter Try.func13, Try.ntmps13
            go_wp2_with (go_at_call 32; refine (greatest_any _).mono ?_; rintro e w' ⟨rfl, rfl⟩)
            go_ret
            exact ⟨by rw [Hend.out]; rfl, Only.refl _ _⟩
          · have o5 := q2 c2
            cases hs : Ieee.double.sub now since with
            | none =>
              have Hend := Lib.hid (over_none hno c2 hs)
              obtain ⟨q, hq, hrun⟩ := run_sub_none now since hs w
              have o6 := order_yes (x := q) (y := d) (.inl hq)
              clear h k l c1 hno c2 q1 q2 hq hs
              go_enter Try.func13, Try.ntmps13
              go_wp2_with (go_at_call 32; refine (greatest_any _).mono ?_; rintro e w' ⟨rfl, rfl⟩)
              go_ret
              exact ⟨by rw [Hend.out]; rfl, Only.drew _ _⟩
            | some r =>
              have hr := sub_no hs
              have hend := over_some hno c2 hs
              rw [← geq_any hr l] at hend
              have Hend := Lib.hid hend
              have hrun := fun w => run_float_arith (P := Try.prog) w .sub 22 .f64 now since r hs
              clear h k l c1 hno c2 q1 q2 hs hr hend
              go_enter Try.func13, Try.ntmps13
              go_wp2_with (go_at_call 32; refine (greatest_any _).mono ?_; rintro e w' ⟨rfl, rfl⟩)
              go_ret
              exact ⟨by rw [Hend.out]; rfl, Only.refl _ _⟩

theorem aw1 : passV 4607182418800017408 9221120237041090561 = 4607182418800017408 := by kernel_rfl
theorem aw2 : passV 4607182418800017408 9218868437227405312 = 9218868437227405311 := by kernel_rfl
theorem aw3 : overV 4617315517961601024 4611686018427387904 4613937818241073152 = true := by kernel_rfl
theorem aw4 : overV 4617315517961601024 4611686018427387904 9221120237041090561 = false := by kernel_rfl
theorem aw5 : FloatKind.f64.format.order 4607182418800017408 4607182418800017408 = some .eq := by kernel_rfl
theorem aw6 : FloatKind.f64.format.order 9218868437227405311 9218868437227405311 = some .eq := by kernel_rfl

end Go.Proofs.Ytdlbkdnpbcpjfaa
