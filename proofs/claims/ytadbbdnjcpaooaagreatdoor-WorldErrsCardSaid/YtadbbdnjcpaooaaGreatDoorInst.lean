/- The contracts of layer 1 (instant), and of its reference: what each gives, as a plain function of words. -/
import Derived.Test.YtadbbdnjcpaooaaGreatDoorProg
import Derived.Test.YtadbbdnjcpaooaaGreatDoorBase
import Derived.Test.YtadbbdnjcpaooaaGreatDoorFl2
set_option linter.all false
namespace Go.Proofs.YtadbbdnjcpaooaaGreatDoor
open Go.RowKit Go.Pw Go.Pw.Fl

theorem f64bits (x : Nat) (w : World) : (callFunc 236 #[.float .f64 x]).run Tryz.prog w = .ok (.value (.int .u64 x)) w := by
  rw [run_callFunc_extern Tryz.func236 (by kernel_rfl) (by kernel_rfl) (by kernel_rfl) (e := Extern.MathFloatBits.float64bits) (by kernel_rfl)]
  rfl
theorem f64from (n : Int) (w : World) : (callFunc 235 #[.int .u64 n]).run Tryz.prog w = .ok (.value (.float .f64 n.toNat)) w := by
  rw [run_callFunc_extern Tryz.func235 (by kernel_rfl) (by kernel_rfl) (by kernel_rfl) (e := Extern.MathFloatBits.float64frombits) (by kernel_rfl)]
  rfl

set_option maxHeartbeats 400000 in
theorem isnan_any (x : Nat) (w : World) :
    Calls Tryz.prog 10 #[.float .f64 x] w fun e w' => e = .returned (.bool (NaN x)) ∧ w = w' := by
  rcases nan_both x with h | h
  · have h1 := order_yes (x := x) (y := x) (.inl h)
    have H := Lib.hid h
    clear h
    go_enter Tryz.func10, Tryz.ntmps10
    go_wp2
    go_ret
    exact ⟨by rw [H.out]; rfl, rfl⟩
  · have h1 := order_self_no h
    have H := Lib.hid h
    clear h
    go_enter Tryz.func10, Tryz.ntmps10
    go_wp2
    go_ret
    exact ⟨by rw [H.out]; rfl, rfl⟩

theorem top_yes {x : Nat} (h : 9223372036854775808 ≤ x) (hx : x < 18446744073709551616) : (((x : Int) / 9223372036854775808 == 1) = true) := by
  have : (x : Int) / 9223372036854775808 = 1 := by omega
  rw [this]; rfl
theorem top_no {x : Nat} (h : ¬ 9223372036854775808 ≤ x) : (((x : Int) / 9223372036854775808 == 1) = false) := by
  have : (x : Int) / 9223372036854775808 = 0 := by omega
  rw [this]; rfl

theorem sign_eq (x : Nat) (hx : x < 18446744073709551616) : decide (wrap64 (x : Int) < 0) = decide (9223372036854775808 ≤ x) := by
  rw [decide_eq_decide]
  simp [wrap64]
  omega

set_option maxRecDepth 100000 in
set_option maxHeartbeats 400000 in
theorem signbit_any (x : Nat) (hx : x < 18446744073709551616) (w : World) :
    Calls Tryz.prog 159 #[.float .f64 x] w fun e w' => e = .returned (.bool (decide (9223372036854775808 ≤ x))) ∧ w = w' := by
  have hb := f64bits x
  have Hx := Lib.hid (sign_eq x hx)
  clear hx
  go_enter Tryz.func159, Tryz.ntmps159
  go_wp2_with fail
  go_ret
  exact ⟨by rw [← Hx.out]; rfl, rfl⟩

end Go.Proofs.YtadbbdnjcpaooaaGreatDoor
