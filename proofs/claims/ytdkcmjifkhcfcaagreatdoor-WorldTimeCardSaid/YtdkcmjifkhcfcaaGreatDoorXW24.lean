/- WorldNil: the law's call. -/
import Derived.Test.YtdkcmjifkhcfcaaGreatDoorXKa
import Derived.Test.YtdkcmjifkhcfcaaGreatDoorXSc
set_option linter.all false
open Go Go.Sx Go.Proofs Go.RowKit
set_option linter.unusedVariables false
namespace Go.Proofs.YtdkcmjifkhcfcaaGreatDoor
set_option maxRecDepth 1000000
noncomputable def cW : Code := bodyOf Tryz.prog 4
noncomputable def nW : Nat := ntOf Tryz.prog 4
noncomputable def rsW : List ResultVar := resultsOf Tryz.prog 4
theorem cW_fn : fnOf Tryz.prog 4 = some (nW, cW, rsW) := by kernel_rfl
noncomputable def clW : Nat → List AV → St → Ro := xcall Tryz.prog okT a7.closed dhC 1000 50
section
variable (x0 x1 x2 x3 : Int) (x4 : Nat) (a5 : Option Addr) (n5 c5 : Nat) (i : Int) (E : Nat → Nat)
noncomputable def argsW (m : Nat) : List AV := [.int .u8 (.ofNat m), .agg [.int .u8 x0, .int .i64 x1, .int .i64 x2, .int .i64 x3, .flt .f64 x4, .osl a5 n5 c5], .int .i64 i]
noncomputable def rW (m : Nat) : Rs := xcode Tryz.prog okT clW nW 1000 cW (argsTr 0 (argsW x0 x1 x2 x3 x4 a5 n5 c5 i m) .lf) [] (st0 a7.ro E)
variable (k : Nat)
theorem w0p : (xleave Tryz.prog dhC rsW (rW x0 x1 x2 x3 x4 a5 n5 c5 (.ofNat k) E 0)).isTrue = true := by kernel_rfl
theorem w1p : (xleave Tryz.prog dhC rsW (rW x0 x1 x2 x3 x4 a5 n5 c5 (.ofNat k) E 1)).isTrue = true := by kernel_rfl
theorem w2p (m : Nat) : (xleave Tryz.prog dhC rsW (rW x0 x1 x2 x3 x4 a5 n5 c5 (.ofNat k) E (m + 2))).isTrue = true := by kernel_rfl
theorem w0n : (xleave Tryz.prog dhC rsW (rW x0 x1 x2 x3 x4 a5 n5 c5 (.negSucc k) E 0)).isTrue = true := by kernel_rfl
theorem w1n : (xleave Tryz.prog dhC rsW (rW x0 x1 x2 x3 x4 a5 n5 c5 (.negSucc k) E 1)).isTrue = true := by kernel_rfl
theorem w2n (m : Nat) : (xleave Tryz.prog dhC rsW (rW x0 x1 x2 x3 x4 a5 n5 c5 (.negSucc k) E (m + 2))).isTrue = true := by kernel_rfl
theorem w_all (m : Nat) : (xleave Tryz.prog dhC rsW (rW x0 x1 x2 x3 x4 a5 n5 c5 i E m)).isTrue = true := by
  match m, i with
  | 0, .ofNat k => exact w0p x0 x1 x2 x3 x4 a5 n5 c5 E k
  | 1, .ofNat k => exact w1p x0 x1 x2 x3 x4 a5 n5 c5 E k
  | m + 2, .ofNat k => exact w2p x0 x1 x2 x3 x4 a5 n5 c5 E k m
  | 0, .negSucc k => exact w0n x0 x1 x2 x3 x4 a5 n5 c5 E k
  | 1, .negSucc k => exact w1n x0 x1 x2 x3 x4 a5 n5 c5 E k
  | m + 2, .negSucc k => exact w2n x0 x1 x2 x3 x4 a5 n5 c5 E k m

theorem worldNil_any {W : World} (hW : ∀ id c, (id, c) ∈ a7.ro → BlkOK (env0 Tryz.prog) W id (.mk (E id) 0 c)) (m : Nat) :
    Calls Tryz.prog 4 #[.int .u8 m, .agg #[.int .u8 x0, .int .i64 x1, .int .i64 x2, .int .i64 x3, .float .f64 x4, .slice a5 n5 c5], .int .i64 i] W fun e W' => e = .returned (.bool true) ∧ Below W.heap.size W W' :=
  law_whole okt callsOK mixed closed_a dhC_good cW_fn (args := argsW x0 x1 x2 x3 x4 a5 n5 c5 i m) rfl (by kernel_rfl) (by kernel_rfl) hW (w_all x0 x1 x2 x3 x4 a5 n5 c5 i E m)
end
end Go.Proofs.YtdkcmjifkhcfcaaGreatDoor
