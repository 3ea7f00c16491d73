/- small, and two devices that are one. -/
import Derived.Test.YtemlpjfngaemdaaBy
import Derived.Laws.StructEq
namespace Go.Proofs.Ytemlpjfngaemdaa
open Go.RowKit Go.Pw
set_option linter.unusedVariables false

theorem eq_who (a b c d : Int) (w : World) : (binOp .eql 34 (.agg #[.int .i64 a, .int .i64 b]) (.agg #[.int .i64 c, .int .i64 d])).run Try.prog w = .ok (.bool (a == c && b == d)) w := by
  have h : (Op.equalIn 10000 34 (.agg #[.int .i64 a, .int .i64 b]) (.agg #[.int .i64 c, .int .i64 d])).run Try.prog w = .ok (a == c && b == d) w := by
    have u3 := Try.underlying3
    rw [show (10000 : Nat) = 9999 + 1 from rfl, run_equalIn_agg w 9999 34 _ _ (by kernel_rfl) (by kernel_rfl)]
    simp only [Program.fieldsOf, Try.underlying34]
    go_simp
    by_cases h1 : a = c <;> by_cases h2 : b = d <;> simp [h1, h2]
  rw [run_eql_struct, h]
  rfl

theorem wrap_u32_i64 (u : Int) : u % 4294967296 = IntKind.u32.wrap u := by simp [IntKind.wrap, IntKind.bits, IntKind.signed]
set_option maxHeartbeats 800000 in
theorem small_any (u d : Int) (w : World) :
    Calls Try.prog 42 #[.agg #[.int .i64 u, .int .i64 d]] w fun e w' => e = .returned (.agg #[.int .i64 (IntKind.u32.wrap u), .int .i64 (IntKind.u32.wrap d)]) ∧ Only w w' [] := by
  rw [← wrap_u32_i64 u, ← wrap_u32_i64 d]
  go_enter Try.func42, Try.ntmps42
  go_wp2_with fail
  refine bodyPost_ret (v := .agg #[.int .i64 (u % 4294967296), .int .i64 (d % 4294967296)]) (by simp [results, Try.results42, go_sem]) rfl ⟨rfl, ?_⟩
  exact (Only.alloc _ _ []).trans (Only.alloc _ _ [])

theorem small_at (u d u2 d2 : Int) (hu : u2 = IntKind.u32.wrap u) (hd : d2 = IntKind.u32.wrap d) (w : World) :
    Calls Try.prog 42 #[.agg #[.int .i64 u, .int .i64 d]] w fun e w' => e = .returned (.agg #[.int .i64 u2, .int .i64 d2]) ∧ Only w w' [] := by
  subst hu hd
  exact small_any u d w

theorem wrap_wrap (u : Int) : IntKind.u32.wrap (IntKind.u32.wrap u) = IntKind.u32.wrap u := by simp [IntKind.wrap, IntKind.bits, IntKind.signed]
end Go.Proofs.Ytemlpjfngaemdaa
