/- DeviceStale: the ways that the times stand, run by the kernel. -/
import Derived.Test.YtjfmelmiegnmjaaGreatDoorXStDStaleW
set_option linter.all false
open Go Go.Sx Go.Proofs Go.RowKit Go.Pw.Fl
set_option linter.all false
namespace Go.Proofs.YtjfmelmiegnmjaaGreatDoor
set_option maxRecDepth 1000000

theorem a00 (E : Nat → Nat) (n : Nat) (h : n % 2 = 0 ∧ n < 256) : (yP E (.par .u8 n 2 0 h) 0).isNorm = true := by kernel_rfl
theorem b00 (E : Nat → Nat) (n : Nat) (h : n % 2 = 0 ∧ n < 256) : getP (path 1) (yP E (.par .u8 n 2 0 h) 0).t = some (.vflt 201) := by kernel_rfl
theorem c00 (E : Nat → Nat) (n : Nat) (h : n % 2 = 0 ∧ n < 256) : getP (path 2) (yP E (.par .u8 n 2 0 h) 0).t = some (.vfo 202 201 4621819117588971520 0) := by kernel_rfl
theorem d00 (E : Nat → Nat) (n : Nat) (h : n % 2 = 0 ∧ n < 256) : (yC0 (yP E (.par .u8 n 2 0 h) 0)).isNorm = true := by kernel_rfl
theorem e00 (E : Nat → Nat) (n : Nat) (h : n % 2 = 0 ∧ n < 256) : (xleave Tryz.prog dhC rsS (yZ (yC0 (yP E (.par .u8 n 2 0 h) 0)))).isTrue = true := by kernel_rfl
theorem a01 (E : Nat → Nat) (n : Nat) (h : n % 2 = 0 ∧ n < 256) : (yP E (.par .u8 n 2 0 h) 1).isNorm = true := by kernel_rfl
theorem b01 (E : Nat → Nat) (n : Nat) (h : n % 2 = 0 ∧ n < 256) : getP (path 1) (yP E (.par .u8 n 2 0 h) 1).t = some (.vflt 201) := by kernel_rfl
theorem c01 (E : Nat → Nat) (n : Nat) (h : n % 2 = 0 ∧ n < 256) : getP (path 2) (yP E (.par .u8 n 2 0 h) 1).t = some (.vfo 202 201 4621819117588971520 1) := by kernel_rfl
theorem d01 (E : Nat → Nat) (n : Nat) (h : n % 2 = 0 ∧ n < 256) : (yC1 (yP E (.par .u8 n 2 0 h) 1)).isNorm = true := by kernel_rfl
theorem e01 (E : Nat → Nat) (n : Nat) (h : n % 2 = 0 ∧ n < 256) : (xleave Tryz.prog dhC rsS (yZ (yC1 (yP E (.par .u8 n 2 0 h) 1)))).isTrue = true := by kernel_rfl
theorem a02 (E : Nat → Nat) (n : Nat) (h : n % 2 = 0 ∧ n < 256) : (yP E (.par .u8 n 2 0 h) 2).isNorm = true := by kernel_rfl
theorem b02 (E : Nat → Nat) (n : Nat) (h : n % 2 = 0 ∧ n < 256) : getP (path 1) (yP E (.par .u8 n 2 0 h) 2).t = some (.vflt 201) := by kernel_rfl
theorem c02 (E : Nat → Nat) (n : Nat) (h : n % 2 = 0 ∧ n < 256) : getP (path 2) (yP E (.par .u8 n 2 0 h) 2).t = some (.vfo 202 201 4621819117588971520 2) := by kernel_rfl
theorem d02 (E : Nat → Nat) (n : Nat) (h : n % 2 = 0 ∧ n < 256) : (yC2 (yP E (.par .u8 n 2 0 h) 2)).isNorm = true := by kernel_rfl
theorem e02 (E : Nat → Nat) (n : Nat) (h : n % 2 = 0 ∧ n < 256) : (xleave Tryz.prog dhC rsS (yZ (yC2 (yP E (.par .u8 n 2 0 h) 2)))).isTrue = true := by kernel_rfl
theorem a03 (E : Nat → Nat) (n : Nat) (h : n % 2 = 0 ∧ n < 256) : (yP E (.par .u8 n 2 0 h) 3).isNorm = true := by kernel_rfl
theorem b03 (E : Nat → Nat) (n : Nat) (h : n % 2 = 0 ∧ n < 256) : getP (path 1) (yP E (.par .u8 n 2 0 h) 3).t = some (.vflt 201) := by kernel_rfl
theorem c03 (E : Nat → Nat) (n : Nat) (h : n % 2 = 0 ∧ n < 256) : getP (path 2) (yP E (.par .u8 n 2 0 h) 3).t = some (.vfo 202 201 4621819117588971520 3) := by kernel_rfl
theorem d03 (E : Nat → Nat) (n : Nat) (h : n % 2 = 0 ∧ n < 256) : (yC3 (yP E (.par .u8 n 2 0 h) 3)).isNorm = true := by kernel_rfl
theorem e03 (E : Nat → Nat) (n : Nat) (h : n % 2 = 0 ∧ n < 256) : (xleave Tryz.prog dhC rsS (yZ (yC3 (yP E (.par .u8 n 2 0 h) 3)))).isTrue = true := by kernel_rfl
theorem a04 (E : Nat → Nat) (n : Nat) (h : n % 2 = 0 ∧ n < 256) : (yP E (.par .u8 n 2 0 h) 4).isNorm = true := by kernel_rfl
theorem b04 (E : Nat → Nat) (n : Nat) (h : n % 2 = 0 ∧ n < 256) : getP (path 1) (yP E (.par .u8 n 2 0 h) 4).t = some (.vflt 201) := by kernel_rfl
theorem c04 (E : Nat → Nat) (n : Nat) (h : n % 2 = 0 ∧ n < 256) : getP (path 2) (yP E (.par .u8 n 2 0 h) 4).t = some (.vfo 202 201 4621819117588971520 4) := by kernel_rfl
theorem d04 (E : Nat → Nat) (n : Nat) (h : n % 2 = 0 ∧ n < 256) : (yC4 (yP E (.par .u8 n 2 0 h) 4)).isNorm = true := by kernel_rfl
theorem e04 (E : Nat → Nat) (n : Nat) (h : n % 2 = 0 ∧ n < 256) : (xleave Tryz.prog dhC rsS (yZ (yC4 (yP E (.par .u8 n 2 0 h) 4)))).isTrue = true := by kernel_rfl
end Go.Proofs.YtjfmelmiegnmjaaGreatDoor
