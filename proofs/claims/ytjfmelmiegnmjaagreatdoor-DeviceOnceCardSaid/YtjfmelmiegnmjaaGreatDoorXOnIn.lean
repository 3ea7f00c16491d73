/- Times as numbers. -/
import Derived.Test.YtjfmelmiegnmjaaGreatDoorRows
import Derived.Test.YtjfmelmiegnmjaaGreatDoorXNe
set_option linter.all false
namespace Go.Proofs.YtjfmelmiegnmjaaGreatDoor
open Go.RowKit Go.Pw Go.Pw.Fl
set_option linter.all false
theorem f64bits (x : Nat) (w : World) : (callFunc 134 #[.float .f64 x]).run Tryz.prog w = .ok (.value (.int .u64 x)) w := by
  rw [run_callFunc_extern Tryz.func134 (by kernel_rfl) (by kernel_rfl) (by kernel_rfl) (e := Extern.MathFloatBits.float64bits) (by kernel_rfl)]
  rfl
theorem f64from (n : Int) (w : World) : (callFunc 166 #[.int .u64 n]).run Tryz.prog w = .ok (.value (.float .f64 n.toNat)) w := by
  rw [run_callFunc_extern Tryz.func166 (by kernel_rfl) (by kernel_rfl) (by kernel_rfl) (e := Extern.MathFloatBits.float64frombits) (by kernel_rfl)]
  rfl
set_option maxHeartbeats 400000 in
theorem isnan_any (x : Nat) (w : World) :
    Calls Tryz.prog 133 #[.float .f64 x] w fun e w' => e = .returned (.bool (NaN x)) ∧ w = w' := by
  rcases nan_both x with h | h
  · have h1 := order_yes (x := x) (y := x) (.inl h)
    have H := Lib.hid h
    clear h
    go_enter Tryz.func133, Tryz.ntmps133
    go_wp2
    go_ret
    exact ⟨by rw [H.out]; rfl, rfl⟩
  · have h1 := order_self_no h
    have H := Lib.hid h
    clear h
    go_enter Tryz.func133, Tryz.ntmps133
    go_wp2
    go_ret
    exact ⟨by rw [H.out]; rfl, rfl⟩
theorem top_yes {x : Nat} (h : 9223372036854775808 ≤ x) (hx : x < 18446744073709551616) : (((x : Int) / 9223372036854775808 == 1) = true) := by
  have : (x : Int) / 9223372036854775808 = 1 := by omega
  rw [this]; rfl
theorem top_no {x : Nat} (h : ¬ 9223372036854775808 ≤ x) : (((x : Int) / 9223372036854775808 == 1) = false) := by
  have : (x : Int) / 9223372036854775808 = 0 := by omega
  rw [this]; rfl
set_option maxRecDepth 100000 in
set_option maxHeartbeats 400000 in
theorem key_any (x : Nat) (hx : x < 18446744073709551616) (w : World) :
    Calls Tryz.prog 68 #[.float .f64 x] w fun e w' => e = .returned (.int .u64 (kKey x)) ∧ w = w' := by
  have hb := f64bits x
  rcases nan_both x with h | h
  · have Hend := Lib.hid (kKey_nan h)
    go_enter Tryz.func68, Tryz.ntmps68
    go_wp2_with (go_at_call 133; refine (isnan_any x _).mono ?_; rintro e w' ⟨rfl, rfl⟩)
    go_ret
    exact ⟨by rw [Hend.out]; rfl, rfl⟩
  · by_cases ht : 9223372036854775808 ≤ x
    · have h1 := top_yes ht hx
      have Hend := Lib.hid (kKey_neg h ht)
      have Hx := Lib.hid (xor_max x (by omega) (by omega))
      clear ht hx
      go_enter Tryz.func68, Tryz.ntmps68
      go_wp2_with (go_at_call 133; refine (isnan_any x _).mono ?_; rintro e w' ⟨rfl, rfl⟩)
      go_ret
      refine ⟨?_, rfl⟩
      rw [Hend.out, ← Hx.out]
      rfl
    · have h1 := top_no ht
      have Hend := Lib.hid (kKey_pos h ht)
      have Hx := Lib.hid (or_top x (by omega) (by omega))
      clear ht hx
      go_enter Tryz.func68, Tryz.ntmps68
      go_wp2_with (go_at_call 133; refine (isnan_any x _).mono ?_; rintro e w' ⟨rfl, rfl⟩)
      go_ret
      refine ⟨?_, rfl⟩
      rw [Hend.out, ← Hx.out]
      rfl
set_option maxRecDepth 100000 in
set_option maxHeartbeats 400000 in
theorem time_any (n : Int) (h0 : 0 ≤ n) (h1 : n < 18446744073709551616) (w : World) :
    Calls Tryz.prog 96 #[.int .u64 n] w fun e w' => e = .returned (.float .f64 (tTime n)) ∧ w = w' := by
  have hb := f64from
  by_cases ht : 9223372036854775808 ≤ n
  · have d1 : (n / 9223372036854775808 == 1) = true := by
      have : n / 9223372036854775808 = 1 := by omega
      rw [this]; rfl
    have Hx := Lib.hid (andNot_top n ht h1)
    have Hend : Hid (tTime n = (n - 9223372036854775808).toNat) := if_pos ht
    clear ht h1
    go_enter Tryz.func96, Tryz.ntmps96
    go_wp2_with fail
    go_ret
    refine ⟨?_, rfl⟩
    rw [Hend.out, ← Hx.out]
    rfl
  · have d1 : (n / 9223372036854775808 == 1) = false := by
      have : n / 9223372036854775808 = 0 := by omega
      rw [this]; rfl
    have Hx := Lib.hid (xor_max n h0 h1)
    have Hend : Hid (tTime n = (18446744073709551615 - n).toNat) := if_neg ht
    clear ht h1
    go_enter Tryz.func96, Tryz.ntmps96
    go_wp2_with fail
    go_ret
    refine ⟨?_, rfl⟩
    rw [Hend.out, ← Hx.out]
    rfl
end Go.Proofs.YtjfmelmiegnmjaaGreatDoor
