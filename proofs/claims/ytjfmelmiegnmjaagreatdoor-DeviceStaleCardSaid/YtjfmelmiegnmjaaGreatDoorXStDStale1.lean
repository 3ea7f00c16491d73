/- DeviceStale: the ways that the times stand, run by the kernel. -/
import Derived.Test.YtjfmelmiegnmjaaGreatDoorXStDStaleW
set_option linter.all false
open Go Go.Sx Go.Proofs Go.RowKit Go.Pw.Fl
set_option linter.all false
namespace Go.Proofs.YtjfmelmiegnmjaaGreatDoor
set_option maxRecDepth 1000000

theorem a10 (E : Nat → Nat) (n : Nat) (h : n % 2 = 1 ∧ n < 256) : (yP E (.par .u8 n 2 1 h) 0).isNorm = true := by kernel_rfl
theorem b10 (E : Nat → Nat) (n : Nat) (h : n % 2 = 1 ∧ n < 256) : getP (path 1) (yP E (.par .u8 n 2 1 h) 0).t = some (.vflt 201) := by kernel_rfl
theorem c10 (E : Nat → Nat) (n : Nat) (h : n % 2 = 1 ∧ n < 256) : getP (path 2) (yP E (.par .u8 n 2 1 h) 0).t = some (.vfo 202 201 4621819117588971520 0) := by kernel_rfl
theorem d10 (E : Nat → Nat) (n : Nat) (h : n % 2 = 1 ∧ n < 256) : (yC0 (yP E (.par .u8 n 2 1 h) 0)).isNorm = true := by kernel_rfl
theorem e10 (E : Nat → Nat) (n : Nat) (h : n % 2 = 1 ∧ n < 256) : (xleave Tryz.prog dhC rsS (yZ (yC0 (yP E (.par .u8 n 2 1 h) 0)))).isTrue = true := by kernel_rfl
theorem a11 (E : Nat → Nat) (n : Nat) (h : n % 2 = 1 ∧ n < 256) : (yP E (.par .u8 n 2 1 h) 1).isNorm = true := by kernel_rfl
theorem b11 (E : Nat → Nat) (n : Nat) (h : n % 2 = 1 ∧ n < 256) : getP (path 1) (yP E (.par .u8 n 2 1 h) 1).t = some (.vflt 201) := by kernel_rfl
theorem c11 (E : Nat → Nat) (n : Nat) (h : n % 2 = 1 ∧ n < 256) : getP (path 2) (yP E (.par .u8 n 2 1 h) 1).t = some (.vfo 202 201 4621819117588971520 1) := by kernel_rfl
theorem d11 (E : Nat → Nat) (n : Nat) (h : n % 2 = 1 ∧ n < 256) : (yC1 (yP E (.par .u8 n 2 1 h) 1)).isNorm = true := by kernel_rfl
theorem e11 (E : Nat → Nat) (n : Nat) (h : n % 2 = 1 ∧ n < 256) : (xleave Tryz.prog dhC rsS (yZ (yC1 (yP E (.par .u8 n 2 1 h) 1)))).isTrue = true := by kernel_rfl
theorem a12 (E : Nat → Nat) (n : Nat) (h : n % 2 = 1 ∧ n < 256) : (yP E (.par .u8 n 2 1 h) 2).isNorm = true := by kernel_rfl
theorem b12 (E : Nat → Nat) (n : Nat) (h : n % 2 = 1 ∧ n < 256) : getP (path 1) (yP E (.par .u8 n 2 1 h) 2).t = some (.vflt 201) := by kernel_rfl
theorem c12 (E : Nat → Nat) (n : Nat) (h : n % 2 = 1 ∧ n < 256) : getP (path 2) (yP E (.par .u8 n 2 1 h) 2).t = some (.vfo 202 201 4621819117588971520 2) := by kernel_rfl
theorem d12 (E : Nat → Nat) (n : Nat) (h : n % 2 = 1 ∧ n < 256) : (yC2 (yP E (.par .u8 n 2 1 h) 2)).isNorm = true := by kernel_rfl
theorem e12 (E : Nat → Nat) (n : Nat) (h : n % 2 = 1 ∧ n < 256) : (xleave Tryz.prog dhC rsS (yZ (yC2 (yP E (.par .u8 n 2 1 h) 2)))).isTrue = true := by kernel_rfl
theorem a13 (E : Nat → Nat) (n : Nat) (h : n % 2 = 1 ∧ n < 256) : (yP E (.par .u8 n 2 1 h) 3).isNorm = true := by kernel_rfl
theorem b13 (E : Nat → Nat) (n : Nat) (h : n % 2 = 1 ∧ n < 256) : getP (path 1) (yP E (.par .u8 n 2 1 h) 3).t = some (.vflt 201) := by kernel_rfl
theorem c13 (E : Nat → Nat) (n : Nat) (h : n % 2 = 1 ∧ n < 256) : getP (path 2) (yP E (.par .u8 n 2 1 h) 3).t = some (.vfo 202 201 4621819117588971520 3) := by kernel_rfl
theorem d13 (E : Nat → Nat) (n : Nat) (h : n % 2 = 1 ∧ n < 256) : (yC3 (yP E (.par .u8 n 2 1 h) 3)).isNorm = true := by kernel_rfl
theorem e13 (E : Nat → Nat) (n : Nat) (h : n % 2 = 1 ∧ n < 256) : (xleave Tryz.prog dhC rsS (yZ (yC3 (yP E (.par .u8 n 2 1 h) 3)))).isTrue = true := by kernel_rfl
theorem a14 (E : Nat → Nat) (n : Nat) (h : n % 2 = 1 ∧ n < 256) : (yP E (.par .u8 n 2 1 h) 4).isNorm = true := by kernel_rfl
theorem b14 (E : Nat → Nat) (n : Nat) (h : n % 2 = 1 ∧ n < 256) : getP (path 1) (yP E (.par .u8 n 2 1 h) 4).t = some (.vflt 201) := by kernel_rfl
theorem c14 (E : Nat → Nat) (n : Nat) (h : n % 2 = 1 ∧ n < 256) : getP (path 2) (yP E (.par .u8 n 2 1 h) 4).t = some (.vfo 202 201 4621819117588971520 4) := by kernel_rfl
theorem d14 (E : Nat → Nat) (n : Nat) (h : n % 2 = 1 ∧ n < 256) : (yC4 (yP E (.par .u8 n 2 1 h) 4)).isNorm = true := by kernel_rfl
theorem e14 (E : Nat → Nat) (n : Nat) (h : n % 2 = 1 ∧ n < 256) : (xleave Tryz.prog dhC rsS (yZ (yC4 (yP E (.par .u8 n 2 1 h) 4)))).isTrue = true := by kernel_rfl
end Go.Proofs.YtjfmelmiegnmjaaGreatDoor
