/- The contracts of layer 1 (instant) that this seat reaches. -/
import Derived.Test.YtjfmelmiegnmjaaGreatDoorRows
import Derived.Test.YtjfmelmiegnmjaaGreatDoorBase
import Derived.Test.YtjfmelmiegnmjaaGreatDoorFl2
namespace Go.Proofs.YtjfmelmiegnmjaaGreatDoor
open Go.RowKit Go.Pw Go.Pw.Fl
set_option linter.all false

theorem f64bits (x : Nat) (w : World) : (callFunc 134 #[.float .f64 x]).run Tryz.prog w = .ok (.value (.int .u64 x)) w := by
  rw [run_callFunc_extern Tryz.func134 (by kernel_rfl) (by kernel_rfl) (by kernel_rfl) (e := Extern.MathFloatBits.float64bits) (by kernel_rfl)]
  rfl
theorem f64from (n : Int) (w : World) : (callFunc 166 #[.int .u64 n]).run Tryz.prog w = .ok (.value (.float .f64 n.toNat)) w := by
  rw [run_callFunc_extern Tryz.func166 (by kernel_rfl) (by kernel_rfl) (by kernel_rfl) (e := Extern.MathFloatBits.float64frombits) (by kernel_rfl)]
  rfl

set_option maxHeartbeats 400000 in
theorem isnan_any (x : Nat) (w : World) :
    Calls Tryz.prog 133 #[.float .f64 x] w fun e w' => e = .returned (.bool (NaN x)) ∧ w = w' := by
  rcases nan_both x with h | h
  · have h1 := order_yes (x := x) (y := x) (.inl h)
    have H := Lib.hid h
    clear h
    go_enter Tryz.func133, Tryz.ntmps133
    go_wp2
    go_ret
    exact ⟨by rw [H.out]; rfl, rfl⟩
  · have h1 := order_self_no h
    have H := Lib.hid h
    clear h
    go_enter Tryz.func133, Tryz.ntmps133
    go_wp2
    go_ret
    exact ⟨by rw [H.out]; rfl, rfl⟩

theorem top_yes {x : Nat} (h : 9223372036854775808 ≤ x) (hx : x < 18446744073709551616) : (((x : Int) / 9223372036854775808 == 1) = true) := by
  have : (x : Int) / 9223372036854775808 = 1 := by omega
  rw [this]; rfl
theorem top_no {x : Nat} (h : ¬ 9223372036854775808 ≤ x) : (((x : Int) / 9223372036854775808 == 1) = false) := by
  have : (x : Int) / 9223372036854775808 = 0 := by omega
  rw [this]; rfl

set_option maxRecDepth 100000 in
set_option maxHeartbeats 400000 in
theorem key_any (x : Nat) (hx : x < 18446744073709551616) (w : World) :
    Calls Tryz.prog 68 #[.float .f64 x] w fun e w' => e = .returned (.int .u64 (kKey x)) ∧ w = w' := by
  have hb := f64bits x
  rcases nan_both x with h | h
  · have Hend := Lib.hid (kKey_nan h)
    go_enter Tryz.func68, Tryz.ntmps68
    go_wp2_with (go_at_call 133; refine (isnan_any x _).mono ?_; rintro e w' ⟨rfl, rfl⟩)
    go_ret
    exact ⟨by rw [Hend.out]; rfl, rfl⟩
  · by_cases ht : 9223372036854775808 ≤ x
    · have h1 := top_yes ht hx
      have Hend := Lib.hid (kKey_neg h ht)
      have Hx := Lib.hid (xor_max x (by omega) (by omega))
      clear ht hx
      go_enter Tryz.func68, Tryz.ntmps68
      go_wp2_with (go_at_call 133; refine (isnan_any x _).mono ?_; rintro e w' ⟨rfl, rfl⟩)
      go_ret
      refine ⟨?_, rfl⟩
      rw [Hend.out, ← Hx.out]
      rfl
    · have h1 := top_no ht
      have Hend := Lib.hid (kKey_pos h ht)
      have Hx := Lib.hid (or_top x (by omega) (by omega))
      clear ht hx
      go_enter Tryz.func68, Tryz.ntmps68
      go_wp2_with (go_at_call 133; refine (isnan_any x _).mono ?_; rintro e w' ⟨rfl, rfl⟩)
      go_ret
      refine ⟨?_, rfl⟩
      rw [Hend.out, ← Hx.out]
      rfl

set_option maxRecDepth 100000 in
set_option maxHeartbeats 400000 in
theorem time_any (n : Int) (h0 : 0 ≤ n) (h1 : n < 18446744073709551616) (w : World) :
    Calls Tryz.prog 96 #[.int .u64 n] w fun e w' => e = .returned (.float .f64 (tTime n)) ∧ w = w' := by
  have hb := f64from
  by_cases ht : 9223372036854775808 ≤ n
  · have d1 : (n / 9223372036854775808 == 1) = true := by
      have : n / 9223372036854775808 = 1 := by omega
      rw [this]; rfl
    have Hx := Lib.hid (andNot_top n ht h1)
    have Hend : Hid (tTime n = (n - 9223372036854775808).toNat) := if_pos ht
    clear ht h1
    go_enter Tryz.func96, Tryz.ntmps96
    go_wp2_with fail
    go_ret
    refine ⟨?_, rfl⟩
    rw [Hend.out, ← Hx.out]
    rfl
  · have d1 : (n / 9223372036854775808 == 1) = false := by
      have : n / 9223372036854775808 = 0 := by omega
      rw [this]; rfl
    have Hx := Lib.hid (xor_max n h0 h1)
    have Hend : Hid (tTime n = (18446744073709551615 - n).toNat) := if_neg ht
    clear ht h1
    go_enter Tryz.func96, Tryz.ntmps96
    go_wp2_with fail
    go_ret
    refine ⟨?_, rfl⟩
    rw [Hend.out, ← Hx.out]
    rfl

theorem sign_eq (x : Nat) (hx : x < 18446744073709551616) : decide (wrap64 (x : Int) < 0) = decide (9223372036854775808 ≤ x) := by
  rw [decide_eq_decide]
  simp [wrap64]
  omega

set_option maxHeartbeats 400000 in
theorem abs_any (x : Nat) (hx : x < 18446744073709551616) (w : World) :
    Calls Tryz.prog 222 #[.float .f64 x] w fun e w' => e = .returned (.float .f64 (rg x)) ∧ w = w' := by
  have hb := f64bits x
  have hf := f64from
  have Hx := Lib.hid (andNot_abs x hx)
  clear hx
  go_enter Tryz.func222, Tryz.ntmps222
  go_wp2_with fail
  go_ret
  refine ⟨?_, rfl⟩
  have : (bits .andNot .u64 (x : Int) 9223372036854775808).toNat = rg x := by rw [Hx.out, Int.toNat_natCast]
  rw [← this]
  rfl

theorem rg_rg (x : Nat) : rg (rg x) = rg x ∧ sr (rg x) = rg x := by
  have h : rg x < 9223372036854775808 := Nat.mod_lt _ (by decide)
  rcases W (rg x) (by omega) with ⟨a, b, c, d⟩ | ⟨a, b, c, d⟩
  · exact ⟨c, d⟩
  · omega

/-- IsInf(x, 0) of what is no NaN. -/
theorem isinf0_any (x : Nat) (hx : x < 18446744073709551616) (h : NaN x = false) (w : World) :
    Calls Tryz.prog 160 #[.float .f64 x, .int .i64 0] w fun e w' => e = .returned (.bool (!FinW x)) ∧ w = w' := by
  have ha := Lib.hid (abs_any x hx)
  obtain ⟨q1, q2⟩ := rg_rg x
  have hn : NaN (rg x) = false := nan_of (by rw [q1]; exact nan_no h)
  have Hend : Hid ((FloatKind.f64.format.order (rg x) 9218868437227405311 == some .gt) = !FinW x) := show _ = _ by
    rw [order_no hn nan_max, q2, sr_max, ord, Bool.eq_iff_iff]
    have := nan_no h
    by_cases c : rg x < 9218868437227405312
    · rcases Nat.lt_or_eq_of_le (show rg x ≤ 9218868437227405311 by omega) with c1 | c1
      · rw [if_pos (by omega)]; simp [FinW, c]
      · rw [if_neg (by omega), if_pos (by omega)]; simp [FinW, c]
    · rw [if_neg (by omega), if_neg (by omega)]; simp [FinW]; omega
  clear q1 q2 hx h hn
  go_enter Tryz.func160, Tryz.ntmps160
  go_wp2_with fail
  refine (ha.out _).mono ?_
  rintro e w' ⟨rfl, rfl⟩
  go_wp2_with fail
  go_ret
  exact ⟨by rw [← Hend.out]; rfl, rfl⟩

theorem isinf1_any (x : Nat) (h : NaN x = false) (w : World) :
    Calls Tryz.prog 160 #[.float .f64 x, .int .i64 1] w fun e w' => e = .returned (.bool (decide (9218868437227405311 < sr x))) ∧ w = w' := by
  have Hend : Hid ((FloatKind.f64.format.order x 9218868437227405311 == some .gt) = decide (9218868437227405311 < sr x)) := show _ = _ by
    rw [order_no h nan_max, sr_max, ord, Bool.eq_iff_iff]
    rcases Int.lt_trichotomy (sr x) 9218868437227405311 with c | c | c
    · rw [if_pos c]; simp; omega
    · rw [if_neg (by omega), if_pos c]; simp; omega
    · rw [if_neg (by omega), if_neg (by omega)]; simp; omega
  clear h
  go_enter Tryz.func160, Tryz.ntmps160
  go_wp2_with fail
  go_ret
  exact ⟨by rw [← Hend.out]; rfl, rfl⟩

theorem under_f : (Tryz.prog.underlying 47) = some (.float .f64) := Tryz.underlying47

theorem neg_max (w : World) : (Op.unary .neg (.float .f64 9218868437227405311)).run Tryz.prog w = .ok (.float .f64 18442240474082181119) w := by kernel_rfl

/-- A difference that is no number: the bits are the tape's. -/
theorem run_sub_none (x y : Nat) (h : Ieee.double.sub x y = none) (w : World) : ∃ q, NaN q = true ∧ (binOp .sub 47 (.float .f64 x) (.float .f64 y)).run Tryz.prog w = .ok (.float .f64 q) w.drew := by
  have h' : FloatKind.f64.format.sub x y = none := h
  refine ⟨Question.cut (.nanBits .f64 x y) (w.tape w.drawn (.nanBits .f64 x y)), nan_q _, ?_⟩
  simp [binOp, Op.floatArith, h', Question.forced]

theorem leq_zero {d : Nat} (h : NaN d = false) : (sr d ≤ 0 → (FloatKind.f64.format.order d 0 == some .lt || FloatKind.f64.format.order d 0 == some .eq) = true) ∧ (¬ sr d ≤ 0 → (FloatKind.f64.format.order d 0 == some .lt || FloatKind.f64.format.order d 0 == some .eq) = false) := by
  rw [order_no h nan_zero, sr_0, ord]
  constructor
  · intro hl
    rcases Int.lt_or_eq_of_le hl with c | c
    · rw [if_pos c]; rfl
    · rw [if_neg (by omega), if_pos c]; rfl
  · intro hl
    rw [if_neg (by omega), if_neg (by omega)]; rfl
theorem geq_any {p d : Nat} (h : NaN p = false) (k : NaN d = false) : (FloatKind.f64.format.order p d == some .gt || FloatKind.f64.format.order p d == some .eq) = decide (sr d ≤ sr p) := by
  rw [order_no h k, ord, Bool.eq_iff_iff]
  rcases Int.lt_trichotomy (sr p) (sr d) with c | c | c
  · rw [if_pos c]; simp; omega
  · rw [if_neg (by omega), if_pos c]; simp; omega
  · rw [if_neg (by omega), if_neg (by omega)]; simp; omega

theorem over_no {now since d : Nat} (h : NaN d = true ∨ 9218868437227405311 < sr d ∨ NaN now = true ∨ NaN since = true) : overV now since d = false := if_pos h
theorem over_at {now since d : Nat} (h : ¬ (NaN d = true ∨ 9218868437227405311 < sr d ∨ NaN now = true ∨ NaN since = true)) (h1 : sr d ≤ 0) : overV now since d = true := by rw [overV, if_neg h, if_pos h1]
theorem over_none {now since d : Nat} (h : ¬ (NaN d = true ∨ 9218868437227405311 < sr d ∨ NaN now = true ∨ NaN since = true)) (h1 : ¬ sr d ≤ 0) (h2 : Ieee.double.sub now since = none) : overV now since d = false := by rw [overV, if_neg h, if_neg h1, h2]
theorem over_some {now since d r : Nat} (h : ¬ (NaN d = true ∨ 9218868437227405311 < sr d ∨ NaN now = true ∨ NaN since = true)) (h1 : ¬ sr d ≤ 0) (h2 : Ieee.double.sub now since = some r) : overV now since d = decide (sr d ≤ sr r) := by rw [overV, if_neg h, if_neg h1, h2]

/-- The answer of Over, and of its reference. -/
def OverA (now since d : Nat) (w : World) (e : Ending) (w' : World) : Prop := e = .returned (.bool (overV now since d)) ∧ Only w w' []

set_option maxHeartbeats 1600000 in
theorem over_any (now since d : Nat) (w : World) :
    Calls Tryz.prog 93 #[.float .f64 now, .float .f64 since, .float .f64 d] w (OverA now since d w) := by
  have hnd := isnan_any d
  rcases nan_both d with h | h
  · rw [h] at hnd
    have Hnd := Lib.hid hnd
    have Hend := Lib.hid (over_no (now := now) (since := since) (d := d) (.inl h))
    clear hnd h
    go_enter Tryz.func93, Tryz.ntmps93
    go_wp2_with fail
    refine (Hnd.out _).mono ?_
    rintro e w' ⟨rfl, rfl⟩
    go_wp2_with fail
    go_ret
    exact ⟨by rw [Hend.out]; rfl, Only.refl _ _⟩
  · rw [h] at hnd
    have Hnd := Lib.hid hnd
    have hin := isinf1_any d h
    by_cases c1 : 9218868437227405311 < sr d
    · rw [decide_eq_true c1] at hin
      have Hin := Lib.hid hin
      have Hend := Lib.hid (over_no (now := now) (since := since) (d := d) (.inr (.inl c1)))
      clear hnd h hin c1
      go_enter Tryz.func93, Tryz.ntmps93
      go_wp2_with fail
      refine (Hnd.out _).mono ?_
      rintro e w' ⟨rfl, rfl⟩
      go_wp2_with fail
      refine (Hin.out _).mono ?_
      rintro e w' ⟨rfl, rfl⟩
      go_wp2_with fail
      go_ret
      exact ⟨by rw [Hend.out]; rfl, Only.refl _ _⟩
    · rw [decide_eq_false c1] at hin
      have Hin := Lib.hid hin
      have hnn := isnan_any now
      rcases nan_both now with k | k
      · rw [k] at hnn
        have Hnn := Lib.hid hnn
        have Hend := Lib.hid (over_no (now := now) (since := since) (d := d) (.inr (.inr (.inl k))))
        clear hnd h hin c1 hnn k
        go_enter Tryz.func93, Tryz.ntmps93
        go_wp2_with fail
        refine (Hnd.out _).mono ?_
        rintro e w' ⟨rfl, rfl⟩
        go_wp2_with fail
        refine (Hin.out _).mono ?_
        rintro e w' ⟨rfl, rfl⟩
        go_wp2_with fail
        refine (Hnn.out _).mono ?_
        rintro e w' ⟨rfl, rfl⟩
        go_wp2_with fail
        go_ret
        exact ⟨by rw [Hend.out]; rfl, Only.refl _ _⟩
      · rw [k] at hnn
        have Hnn := Lib.hid hnn
        have hns := isnan_any since
        rcases nan_both since with l | l
        · rw [l] at hns
          have Hns := Lib.hid hns
          have Hend := Lib.hid (over_no (now := now) (since := since) (d := d) (.inr (.inr (.inr l))))
          clear hnd h hin c1 hnn k hns l
          go_enter Tryz.func93, Tryz.ntmps93
          go_wp2_with fail
          refine (Hnd.out _).mono ?_
          rintro e w' ⟨rfl, rfl⟩
          go_wp2_with fail
          refine (Hin.out _).mono ?_
          rintro e w' ⟨rfl, rfl⟩
          go_wp2_with fail
          refine (Hnn.out _).mono ?_
          rintro e w' ⟨rfl, rfl⟩
          go_wp2_with fail
          refine (Hns.out _).mono ?_
          rintro e w' ⟨rfl, rfl⟩
          go_wp2_with fail
          go_ret
          exact ⟨by rw [Hend.out]; rfl, Only.refl _ _⟩
        · rw [l] at hns
          have Hns := Lib.hid hns
          have hno : ¬ (NaN d = true ∨ 9218868437227405311 < sr d ∨ NaN now = true ∨ NaN since = true) := by
            rintro (c | c | c | c)
            · simp [h] at c
            · exact c1 c
            · simp [k] at c
            · simp [l] at c
          obtain ⟨q1, q2⟩ := leq_zero h
          by_cases c2 : sr d ≤ 0
          · have o1 := q1 c2
            have Hend := Lib.hid (over_at hno c2)
            clear hnd h hin c1 hnn k hns l hno c2 q1 q2
            go_enter Tryz.func93, Tryz.ntmps93
            go_wp2_with fail
            refine (Hnd.out _).mono ?_
            rintro e w' ⟨rfl, rfl⟩
            go_wp2_with fail
            refine (Hin.out _).mono ?_
            rintro e w' ⟨rfl, rfl⟩
            go_wp2_with fail
            refine (Hnn.out _).mono ?_
            rintro e w' ⟨rfl, rfl⟩
            go_wp2_with fail
            refine (Hns.out _).mono ?_
            rintro e w' ⟨rfl, rfl⟩
            go_wp2_with fail
            go_ret
            exact ⟨by rw [Hend.out]; rfl, Only.refl _ _⟩
          · have o1 := q2 c2
            cases hs : Ieee.double.sub now since with
            | none =>
              have Hend := Lib.hid (over_none hno c2 hs)
              obtain ⟨q, hq, hrun⟩ := run_sub_none now since hs w
              have o2 := order_yes (x := q) (y := d) (.inl hq)
              clear hnd h hin c1 hnn k hns l hno c2 q1 q2 hq hs
              go_enter Tryz.func93, Tryz.ntmps93
              go_wp2_with fail
              refine (Hnd.out _).mono ?_
              rintro e w' ⟨rfl, rfl⟩
              go_wp2_with fail
              refine (Hin.out _).mono ?_
              rintro e w' ⟨rfl, rfl⟩
              go_wp2_with fail
              refine (Hnn.out _).mono ?_
              rintro e w' ⟨rfl, rfl⟩
              go_wp2_with fail
              refine (Hns.out _).mono ?_
              rintro e w' ⟨rfl, rfl⟩
              go_wp2_with fail
              go_ret
              exact ⟨by rw [Hend.out]; rfl, Only.drew _ _⟩
            | some r =>
              have hr := sub_no hs
              have hend := over_some hno c2 hs
              rw [← geq_any hr h] at hend
              have Hend := Lib.hid hend
              have hrun := fun w => run_float_arith (P := Tryz.prog) w .sub 47 .f64 now since r hs
              clear hnd h hin c1 hnn k hns l hno c2 q1 q2 hs hr hend
              go_enter Tryz.func93, Tryz.ntmps93
              go_wp2_with fail
              refine (Hnd.out _).mono ?_
              rintro e w' ⟨rfl, rfl⟩
              go_wp2_with fail
              refine (Hin.out _).mono ?_
              rintro e w' ⟨rfl, rfl⟩
              go_wp2_with fail
              refine (Hnn.out _).mono ?_
              rintro e w' ⟨rfl, rfl⟩
              go_wp2_with fail
              refine (Hns.out _).mono ?_
              rintro e w' ⟨rfl, rfl⟩
              go_wp2_with fail
              go_ret
              exact ⟨by rw [Hend.out]; rfl, Only.refl _ _⟩

theorem aw1 : passV 4607182418800017408 9221120237041090561 = 4607182418800017408 := by kernel_rfl
theorem aw2 : passV 4607182418800017408 9218868437227405312 = 9218868437227405311 := by kernel_rfl
theorem aw3 : overV 4617315517961601024 4611686018427387904 4613937818241073152 = true := by kernel_rfl
theorem aw4 : overV 4617315517961601024 4611686018427387904 9221120237041090561 = false := by kernel_rfl
theorem aw5 : FloatKind.f64.format.order 4607182418800017408 4607182418800017408 = some .eq := by kernel_rfl
theorem aw6 : FloatKind.f64.format.order 9218868437227405311 9218868437227405311 = some .eq := by kernel_rfl

end Go.Proofs.YtjfmelmiegnmjaaGreatDoor
