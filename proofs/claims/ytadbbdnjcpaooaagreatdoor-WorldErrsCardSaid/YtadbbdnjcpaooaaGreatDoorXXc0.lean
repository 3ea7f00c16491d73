/- WorldErrs: classes of what comes in, run by the kernel. -/
import Derived.Test.YtadbbdnjcpaooaaGreatDoorXXw
set_option linter.all false
open Go Go.Sx Go.Proofs Go.RowKit
set_option linter.all false
namespace Go.Proofs.YtadbbdnjcpaooaaGreatDoor
set_option maxRecDepth 1000000
theorem w10_9 (E : Nat → Nat) (ao : Option Addr) (n c : Nat) (hn : 0 ≤ n ∧ n ≤ 300) : (rX (st0 roW E) (.agg [.int .u8 (.ofNat 9), .int .i64 (.ofNat 0), .vint .i64 207 (.negSucc 9223372036854775807) (.ofNat 9223372036854775807) 0 0, .vint .i64 204 (.negSucc 9223372036854775807) (.ofNat 9223372036854775807) 0 0, .vflt 208, .osn ao n c 0 300 hn]) true).isTrue = true := by kernel_rfl
theorem w01_9 (E : Nat → Nat) (ao : Option Addr) (n c : Nat) (hn : 0 ≤ n ∧ n ≤ 300) : (rX (st0 roW E) (.agg [.int .u8 (.ofNat 9), .int .i64 (.ofNat 1), .vint .i64 207 (.negSucc 9223372036854775807) (.ofNat 9223372036854775807) 0 0, .vint .i64 204 (.negSucc 9223372036854775807) (.ofNat 9223372036854775807) 0 0, .vflt 208, .osn ao n c 0 300 hn]) false).isTrue = true := by kernel_rfl
theorem w00_10 (E : Nat → Nat) (ao : Option Addr) (n c : Nat) (hn : 0 ≤ n ∧ n ≤ 300) : (rX (st0 roW E) (.agg [.int .u8 (.ofNat 10), .int .i64 (.ofNat 0), .vint .i64 207 (.negSucc 9223372036854775807) (.ofNat 9223372036854775807) 0 0, .vint .i64 204 (.negSucc 9223372036854775807) (.ofNat 9223372036854775807) 0 0, .vflt 208, .osn ao n c 0 300 hn]) false).isTrue = true := by kernel_rfl
theorem w00_2m2 (E : Nat → Nat) (T : Nat) : (rX (stX roW E T pre3) (.agg [.int .u8 (.ofNat 2), .int .i64 (.ofNat 0), .vint .i64 207 (.ofNat 0) (.ofNat 7) 0 0, .vint .i64 204 (.negSucc 9223372036854775807) (.ofNat 9223372036854775807) 0 0, .vflt 208, .slcT 200 257 300]) false).isTrue = true := by kernel_rfl
end Go.Proofs.YtadbbdnjcpaooaaGreatDoor
