/- The contracts of layer 1 (instant): Over, its reference, and the document's examples. -/
import Derived.Test.YtekjabdfcgimnaaInst2
namespace Go.Proofs.Ytekjabdfcgimnaa
open Go.RowKit Go.Pw Go.Pw.Fl

/-- A difference that is no number: the bits are the tape's. -/
theorem run_sub_none (x y : Nat) (h : Ieee.double.sub x y = none) (w : World) : ∃ q, NaN q = true ∧ (binOp .sub 22 (.float .f64 x) (.float .f64 y)).run Try.prog w = .ok (.float .f64 q) w.drew := by
  have h' : FloatKind.f64.format.sub x y = none := h
  refine ⟨Question.cut (.nanBits .f64 x y) (w.tape w.drawn (.nanBits .f64 x y)), nan_q _, ?_⟩
  simp [binOp, Op.floatArith, h', Question.forced]

theorem leq_zero {d : Nat} (h : NaN d = false) : (sr d ≤ 0 → (FloatKind.f64.format.order d 0 == some .lt || FloatKind.f64.format.order d 0 == some .eq) = true) ∧ (¬ sr d ≤ 0 → (FloatKind.f64.format.order d 0 == some .lt || FloatKind.f64.format.order d 0 == some .eq) = false) := by
  rw [order_no h nan_zero, sr_0, ord]
  constructor
  · intro hl
    rcases Int.lt_or_eq_of_le hl with c | c
    · rw [if_pos c]; rfl
    · rw [if_neg (by omega), if_pos c]; rfl
  · intro hl
    rw [if_neg (by omega), if_neg (by omega)]; rfl
theorem geq_any {p d : Nat} (h : NaN p = false) (k : NaN d = false) : (FloatKind.f64.format.order p d == some .gt || FloatKind.f64.format.order p d == some .eq) = decide (sr d ≤ sr p) := by
  rw [order_no h k, ord, Bool.eq_iff_iff]
  rcases Int.lt_trichotomy (sr p) (sr d) with c | c | c
  · rw [if_pos c]; simp; omega
  · rw [if_neg (by omega), if_pos c]; simp; omega
  · rw [if_neg (by omega), if_neg (by omega)]; simp; omega

theorem over_no {now since d : Nat} (h : NaN d = true ∨ 9218868437227405311 < sr d ∨ NaN now = true ∨ NaN since = true) : overV now since d = false := if_pos h
theorem over_at {now since d : Nat} (h : ¬ (NaN d = true ∨ 9218868437227405311 < sr d ∨ NaN now = true ∨ NaN since = true)) (h1 : sr d ≤ 0) : overV now since d = true := by rw [overV, if_neg h, if_pos h1]
theorem over_none {now since d : Nat} (h : ¬ (NaN d = true ∨ 9218868437227405311 < sr d ∨ NaN now = true ∨ NaN since = true)) (h1 : ¬ sr d ≤ 0) (h2 : Ieee.double.sub now since = none) : overV now since d = false := by rw [overV, if_neg h, if_neg h1, h2]
theorem over_some {now since d r : Nat} (h : ¬ (NaN d = true ∨ 9218868437227405311 < sr d ∨ NaN now = true ∨ NaN since = true)) (h1 : ¬ sr d ≤ 0) (h2 : Ieee.double.sub now since = some r) : overV now since d = decide (sr d ≤ sr r) := by rw [overV, if_neg h, if_neg h1, h2]

/-- The answer of Over, and of its reference. -/
def OverA (now since d : Nat) (w : World) (e : Ending) (w' : World) : Prop := e = .returned (.bool (overV now since d)) ∧ Only w w' []

set_option maxHeartbeats 1600000 in
theorem over_any (now since d : Nat) (w : World) :
    Calls Try.prog 12 #[.float .f64 now, .float .f64 since, .float .f64 d] w (OverA now since d w) := by
  have hnd := isnan_any d
  rcases nan_both d with h | h
  · rw [h] at hnd
    have Hnd := Lib.hid hnd
    have Hend := Lib.hid (over_no (now := now) (since := since) (d := d) (.inl h))
    clear hnd h
    go_enter Try.func12, Try.ntmps12
    go_wp2_with fail
    refine (Hnd.out _).mono ?_
    rintro e w' ⟨rfl, rfl⟩
    go_wp2_with fail
    go_ret
    exact ⟨by rw [Hend.out]; rfl, Only.refl _ _⟩
  · rw [h] at hnd
    have Hnd := Lib.hid hnd
    have hin := isinf1_any d h
    by_cases c1 : 9218868437227405311 < sr d
    · rw [decide_eq_true c1] at hin
      have Hin := Lib.hid hin
      have Hend := Lib.hid (over_no (now := now) (since := since) (d := d) (.inr (.inl c1)))
      clear hnd h hin c1
      go_enter Try.func12, Try.ntmps12
      go_wp2_with fail
      refine (Hnd.out _).mono ?_
      rintro e w' ⟨rfl, rfl⟩
      go_wp2_with fail
      refine (Hin.out _).mono ?_
      rintro e w' ⟨rfl, rfl⟩
      go_wp2_with fail
      go_ret
      exact ⟨by rw [Hend.out]; rfl, Only.refl _ _⟩
    · rw [decide_eq_false c1] at hin
      have Hin := Lib.hid hin
      have hnn := isnan_any now
      rcases nan_both now with k | k
      · rw [k] at hnn
        have Hnn := Lib.hid hnn
        have Hend := Lib.hid (over_no (now := now) (since := since) (d := d) (.inr (.inr (.inl k))))
        clear hnd h hin c1 hnn k
        go_enter Try.func12, Try.ntmps12
        go_wp2_with fail
        refine (Hnd.out _).mono ?_
        rintro e w' ⟨rfl, rfl⟩
        go_wp2_with fail
        refine (Hin.out _).mono ?_
        rintro e w' ⟨rfl, rfl⟩
        go_wp2_with fail
        refine (Hnn.out _).mono ?_
        rintro e w' ⟨rfl, rfl⟩
        go_wp2_with fail
        go_ret
        exact ⟨by rw [Hend.out]; rfl, Only.refl _ _⟩
      · rw [k] at hnn
        have Hnn := Lib.hid hnn
        have hns := isnan_any since
        rcases nan_both since with l | l
        · rw [l] at hns
          have Hns := Lib.hid hns
          have Hend := Lib.hid (over_no (now := now) (since := since) (d := d) (.inr (.inr (.inr l))))
          clear hnd h hin c1 hnn k hns l
          go_enter Try.func12, Try.ntmps12
          go_wp2_with fail
          refine (Hnd.out _).mono ?_
          rintro e w' ⟨rfl, rfl⟩
          go_wp2_with fail
          refine (Hin.out _).mono ?_
          rintro e w' ⟨rfl, rfl⟩
          go_wp2_with fail
          refine (Hnn.out _).mono ?_
          rintro e w' ⟨rfl, rfl⟩
          go_wp2_with fail
          refine (Hns.out _).mono ?_
          rintro e w' ⟨rfl, rfl⟩
          go_wp2_with fail
          go_ret
          exact ⟨by rw [Hend.out]; rfl, Only.refl _ _⟩
        · rw [l] at hns
          have Hns := Lib.hid hns
          have hno : ¬ (NaN d = true ∨ 9218868437227405311 < sr d ∨ NaN now = true ∨ NaN since = true) := by
            rintro (c | c | c | c)
            · simp [h] at c
            · exact c1 c
            · simp [k] at c
            · simp [l] at c
          obtain ⟨q1, q2⟩ := leq_zero h
          by_cases c2 : sr d ≤ 0
          · have o1 := q1 c2
            have Hend := Lib.hid (over_at hno c2)
            clear hnd h hin c1 hnn k hns l hno c2 q1 q2
            go_enter Try.func12, Try.ntmps12
            go_wp2_with fail
            refine (Hnd.out _).mono ?_
            rintro e w' ⟨rfl, rfl⟩
            go_wp2_with fail
            refine (Hin.out _).mono ?_
            rintro e w' ⟨rfl, rfl⟩
            go_wp2_with fail
            refine (Hnn.out _).mono ?_
            rintro e w' ⟨rfl, rfl⟩
            go_wp2_with fail
            refine (Hns.out _).mono ?_
            rintro e w' ⟨rfl, rfl⟩
            go_wp2_with fail
            go_ret
            exact ⟨by rw [Hend.out]; rfl, Only.refl _ _⟩
          · have o1 := q2 c2
            cases hs : Ieee.double.sub now since with
            | none =>
              have Hend := Lib.hid (over_none hno c2 hs)
              obtain ⟨q, hq, hrun⟩ := run_sub_none now since hs w
              have o2 := order_yes (x := q) (y := d) (.inl hq)
              clear hnd h hin c1 hnn k hns l hno c2 q1 q2 hq hs
              go_enter Try.func12, Try.ntmps12
              go_wp2_with fail
              refine (Hnd.out _).mono ?_
              rintro e w' ⟨rfl, rfl⟩
              go_wp2_with fail
              refine (Hin.out _).mono ?_
              rintro e w' ⟨rfl, rfl⟩
              go_wp2_with fail
              refine (Hnn.out _).mono ?_
              rintro e w' ⟨rfl, rfl⟩
              go_wp2_with fail
              refine (Hns.out _).mono ?_
              rintro e w' ⟨rfl, rfl⟩
              go_wp2_with fail
              go_ret
              exact ⟨by rw [Hend.out]; rfl, Only.drew _ _⟩
            | some r =>
              have hr := sub_no hs
              have hend := over_some hno c2 hs
              rw [← geq_any hr h] at hend
              have Hend := Lib.hid hend
              have hrun := fun w => run_float_arith (P := Try.prog) w .sub 22 .f64 now since r hs
              clear hnd h hin c1 hnn k hns l hno c2 q1 q2 hs hr hend
              go_enter Try.func12, Try.ntmps12
              go_wp2_with fail
              refine (Hnd.out _).mono ?_
              rintro e w' ⟨rfl, rfl⟩
              go_wp2_with fail
              refine (Hin.out _).mono ?_
              rintro e w' ⟨rfl, rfl⟩
              go_wp2_with fail
              refine (Hnn.out _).mono ?_
              rintro e w' ⟨rfl, rfl⟩
              go_wp2_with fail
              refine (Hns.out _).mono ?_
              rintro e w' ⟨rfl, rfl⟩
              go_wp2_with fail
              go_ret
              exact ⟨by rw [Hend.out]; rfl, Only.refl _ _⟩

set_option maxHeartbeats 1600000 in
theorem rover_any (now since d : Nat) (w : World) :
    Calls Try.prog 13 #[.float .f64 now, .float .f64 since, .float .f64 d] w (OverA now since d w) := by
  rcases nan_both now with h | h
  · have o1 := order_yes (x := now) (y := now) (.inl h)
    have Hend := Lib.hid (over_no (now := now) (since := since) (d := d) (.inr (.inr (.inl h))))
    clear h
    go_enter Try.func13, Try.ntmps13
    go_wp2_with fail
    go_ret
    exact ⟨by rw [Hend.out]; rfl, Only.refl _ _⟩
  · have o1 := order_self_no h
    rcases nan_both since with k | k
    · have o2 := order_yes (x := since) (y := since) (.inl k)
      have Hend := Lib.hid (over_no (now := now) (since := since) (d := d) (.inr (.inr (.inr k))))
      clear h k
      go_enter Try.func13, Try.ntmps13
      go_wp2_with fail
      go_ret
      exact ⟨by rw [Hend.out]; rfl, Only.refl _ _⟩
    · have o2 := order_self_no k
      rcases nan_both d with l | l
      · have o3 := order_yes (x := d) (y := d) (.inl l)
        have Hend := Lib.hid (over_no (now := now) (since := since) (d := d) (.inl l))
        clear h k l
        go_enter Try.func13, Try.ntmps13
        go_wp2_with fail
        go_ret
        exact ⟨by rw [Hend.out]; rfl, Only.refl _ _⟩
      · have o3 := order_self_no l
        by_cases c1 : 9218868437227405311 < sr d
        · have o4 := order_gt l nan_max (by rw [sr_max]; exact c1)
          have Hend := Lib.hid (over_no (now := now) (since := since) (d := d) (.inr (.inl c1)))
          clear h k l c1
          go_enter Try.func13, Try.ntmps13
          go_wp2_with (go_at_call 25; refine (greatest_any _).mono ?_; rintro e w' ⟨rfl, rfl⟩)
          go_ret
          exact ⟨by rw [Hend.out]; rfl, Only.refl _ _⟩
        · have o4 : (FloatKind.f64.format.order d 9218868437227405311 == some .gt) = false := by
            rw [order_no l nan_max, sr_max, ord]
            split
            · rfl
            · rw [if_pos (by omega)]; rfl
          have hno : ¬ (NaN d = true ∨ 9218868437227405311 < sr d ∨ NaN now = true ∨ NaN since = true) := by
            rintro (c | c | c | c)
            · simp [l] at c
            · exact c1 c
            · simp [h] at c
            · simp [k] at c
          obtain ⟨q1, q2⟩ := leq_zero l
          by_cases c2 : sr d ≤ 0
          · have o5 := q1 c2
            have Hend := Lib.hid (over_at hno c2)
            clear h k l c1 hno c2 q1 q2
            go_enter Try.func13, Try.ntmps13
            go_wp2_with (go_at_call 25; refine (greatest_any _).mono ?_; rintro e w' ⟨rfl, rfl⟩)
            go_ret
            exact ⟨by rw [Hend.out]; rfl, Only.refl _ _⟩
          · have o5 := q2 c2
            cases hs : Ieee.double.sub now since with
            | none =>
              have Hend := Lib.hid (over_none hno c2 hs)
              obtain ⟨q, hq, hrun⟩ := run_sub_none now since hs w
              have o6 := order_yes (x := q) (y := d) (.inl hq)
              clear h k l c1 hno c2 q1 q2 hq hs
              go_enter Try.func13, Try.ntmps13
              go_wp2_with (go_at_call 25; refine (greatest_any _).mono ?_; rintro e w' ⟨rfl, rfl⟩)
              go_ret
              exact ⟨by rw [Hend.out]; rfl, Only.drew _ _⟩
            | some r =>
              have hr := sub_no hs
              have hend := over_some hno c2 hs
              rw [← geq_any hr l] at hend
              have Hend := Lib.hid hend
              have hrun := fun w => run_float_arith (P := Try.prog) w .sub 22 .f64 now since r hs
              clear h k l c1 hno c2 q1 q2 hs hr hend
              go_enter Try.func13, Try.ntmps13
              go_wp2_with (go_at_call 25; refine (greatest_any _).mono ?_; rintro e w' ⟨rfl, rfl⟩)
              go_ret
              exact ⟨by rw [Hend.out]; rfl, Only.refl _ _⟩

set_option maxHeartbeats 400000 in
theorem mathnan_any (w : World) : Calls Try.prog 23 #[] w fun e w' => e = .returned (.float .f64 9221120237041090561) ∧ w = w' := by
  have hf := f64from 9221120237041090561
  go_enter Try.func23, Try.ntmps23
  go_wp2_with fail
  go_ret
  exact ⟨rfl, rfl⟩
set_option maxHeartbeats 400000 in
theorem mathinf_any (w : World) : Calls Try.prog 24 #[.int .i64 1] w fun e w' => e = .returned (.float .f64 9218868437227405312) ∧ w = w' := by
  have hf := f64from 9218868437227405312
  go_enter Try.func24, Try.ntmps24
  go_wp2_with fail
  go_ret
  exact ⟨rfl, rfl⟩

theorem aw1 : passV 4607182418800017408 9221120237041090561 = 4607182418800017408 := by kernel_rfl
theorem aw2 : passV 4607182418800017408 9218868437227405312 = 9218868437227405311 := by kernel_rfl
theorem aw3 : overV 4617315517961601024 4611686018427387904 4613937818241073152 = true := by kernel_rfl
theorem aw4 : overV 4617315517961601024 4611686018427387904 9221120237041090561 = false := by kernel_rfl
theorem aw5 : FloatKind.f64.format.order 4607182418800017408 4607182418800017408 = some .eq := by kernel_rfl
theorem aw6 : FloatKind.f64.format.order 9218868437227405311 9218868437227405311 = some .eq := by kernel_rfl

set_option maxHeartbeats 800000 in
theorem awake1 (w : World) : Calls Try.prog 8 #[] w fun e w' => e = .returned (.bool true) ∧ Only w w' [] := by
  have a5 := aw5
  have a6 := aw6
  have h1 := pass_any 4607182418800017408 9221120237041090561 (by decide) (by decide)
  rw [aw1] at h1
  have H1 := Lib.hid h1
  have h2 := pass_any 4607182418800017408 9218868437227405312 (by decide) (by decide)
  rw [aw2] at h2
  have H2 := Lib.hid h2
  have h3 := over_any 4617315517961601024 4611686018427387904 4613937818241073152
  unfold OverA at h3
  rw [aw3] at h3
  have H3 := Lib.hid h3
  have h4 := over_any 4617315517961601024 4611686018427387904 9221120237041090561
  unfold OverA at h4
  rw [aw4] at h4
  have H4 := Lib.hid h4
  clear h1 h2 h3 h4
  go_enter Try.func8, Try.ntmps8
  go_wp2_with fail
  refine (mathnan_any _).mono ?_
  rintro e w' ⟨rfl, rfl⟩
  go_wp2_with fail
  refine (H1.out _).mono ?_
  rintro e w' ⟨rfl, rfl⟩
  go_wp2_with fail
  refine (mathinf_any _).mono ?_
  rintro e w' ⟨rfl, rfl⟩
  go_wp2_with fail
  refine (H2.out _).mono ?_
  rintro e w' ⟨rfl, rfl⟩
  go_wp2_with fail
  refine (greatest_any _).mono ?_
  rintro e w' ⟨rfl, rfl⟩
  go_wp2_with fail
  refine (H3.out _).mono ?_
  rintro e w1 ⟨rfl, h1⟩
  go_wp2_with fail
  refine (mathnan_any _).mono ?_
  rintro e w' ⟨rfl, rfl⟩
  go_wp2_with fail
  refine (H4.out _).mono ?_
  rintro e w2 ⟨rfl, h2⟩
  go_wp2_with fail
  go_ret
  exact ⟨rfl, h1.trans h2⟩
end Go.Proofs.Ytekjabdfcgimnaa
