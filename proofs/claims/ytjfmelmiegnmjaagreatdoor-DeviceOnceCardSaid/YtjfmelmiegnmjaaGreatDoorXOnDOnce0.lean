/- DeviceOnce: data and runs. -/
import Derived.Test.YtjfmelmiegnmjaaGreatDoorXOnXh
set_option linter.all false
open Go Go.Sx Go.Proofs Go.RowKit
set_option linter.all false
namespace Go.Proofs.YtjfmelmiegnmjaaGreatDoor
set_option maxRecDepth 1000000
theorem f000 (E : Nat → Nat) (n k m : Nat) (h : n % 2 = 0 ∧ n < 256) (g : k % 6 = 0 ∧ k < 256) (j : m % 4 = 0 ∧ m < 256) : (rF E (.par .u8 n 2 0 h) (.par .u8 k 6 0 g) (.par .u8 m 4 0 j)).isTrue = true := by kernel_rfl
theorem f001 (E : Nat → Nat) (n k m : Nat) (h : n % 2 = 0 ∧ n < 256) (g : k % 6 = 0 ∧ k < 256) (j : m % 4 = 1 ∧ m < 256) : (rF E (.par .u8 n 2 0 h) (.par .u8 k 6 0 g) (.par .u8 m 4 1 j)).isTrue = true := by kernel_rfl
theorem f002 (E : Nat → Nat) (n k m : Nat) (h : n % 2 = 0 ∧ n < 256) (g : k % 6 = 0 ∧ k < 256) (j : m % 4 = 2 ∧ m < 256) : (rF E (.par .u8 n 2 0 h) (.par .u8 k 6 0 g) (.par .u8 m 4 2 j)).isTrue = true := by kernel_rfl
theorem f003 (E : Nat → Nat) (n k m : Nat) (h : n % 2 = 0 ∧ n < 256) (g : k % 6 = 0 ∧ k < 256) (j : m % 4 = 3 ∧ m < 256) : (rF E (.par .u8 n 2 0 h) (.par .u8 k 6 0 g) (.par .u8 m 4 3 j)).isTrue = true := by kernel_rfl
theorem f010 (E : Nat → Nat) (n k m : Nat) (h : n % 2 = 0 ∧ n < 256) (g : k % 6 = 1 ∧ k < 256) (j : m % 4 = 0 ∧ m < 256) : (rF E (.par .u8 n 2 0 h) (.par .u8 k 6 1 g) (.par .u8 m 4 0 j)).isTrue = true := by kernel_rfl
theorem f011 (E : Nat → Nat) (n k m : Nat) (h : n % 2 = 0 ∧ n < 256) (g : k % 6 = 1 ∧ k < 256) (j : m % 4 = 1 ∧ m < 256) : (rF E (.par .u8 n 2 0 h) (.par .u8 k 6 1 g) (.par .u8 m 4 1 j)).isTrue = true := by kernel_rfl
theorem f012 (E : Nat → Nat) (n k m : Nat) (h : n % 2 = 0 ∧ n < 256) (g : k % 6 = 1 ∧ k < 256) (j : m % 4 = 2 ∧ m < 256) : (rF E (.par .u8 n 2 0 h) (.par .u8 k 6 1 g) (.par .u8 m 4 2 j)).isTrue = true := by kernel_rfl
theorem f013 (E : Nat → Nat) (n k m : Nat) (h : n % 2 = 0 ∧ n < 256) (g : k % 6 = 1 ∧ k < 256) (j : m % 4 = 3 ∧ m < 256) : (rF E (.par .u8 n 2 0 h) (.par .u8 k 6 1 g) (.par .u8 m 4 3 j)).isTrue = true := by kernel_rfl
theorem f020 (E : Nat → Nat) (n k m : Nat) (h : n % 2 = 0 ∧ n < 256) (g : k % 6 = 2 ∧ k < 256) (j : m % 4 = 0 ∧ m < 256) : (rF E (.par .u8 n 2 0 h) (.par .u8 k 6 2 g) (.par .u8 m 4 0 j)).isTrue = true := by kernel_rfl
theorem f021 (E : Nat → Nat) (n k m : Nat) (h : n % 2 = 0 ∧ n < 256) (g : k % 6 = 2 ∧ k < 256) (j : m % 4 = 1 ∧ m < 256) : (rF E (.par .u8 n 2 0 h) (.par .u8 k 6 2 g) (.par .u8 m 4 1 j)).isTrue = true := by kernel_rfl
theorem f022 (E : Nat → Nat) (n k m : Nat) (h : n % 2 = 0 ∧ n < 256) (g : k % 6 = 2 ∧ k < 256) (j : m % 4 = 2 ∧ m < 256) : (rF E (.par .u8 n 2 0 h) (.par .u8 k 6 2 g) (.par .u8 m 4 2 j)).isTrue = true := by kernel_rfl
theorem f023 (E : Nat → Nat) (n k m : Nat) (h : n % 2 = 0 ∧ n < 256) (g : k % 6 = 2 ∧ k < 256) (j : m % 4 = 3 ∧ m < 256) : (rF E (.par .u8 n 2 0 h) (.par .u8 k 6 2 g) (.par .u8 m 4 3 j)).isTrue = true := by kernel_rfl
theorem f030 (E : Nat → Nat) (n k m : Nat) (h : n % 2 = 0 ∧ n < 256) (g : k % 6 = 3 ∧ k < 256) (j : m % 4 = 0 ∧ m < 256) : (rF E (.par .u8 n 2 0 h) (.par .u8 k 6 3 g) (.par .u8 m 4 0 j)).isTrue = true := by kernel_rfl
theorem f031 (E : Nat → Nat) (n k m : Nat) (h : n % 2 = 0 ∧ n < 256) (g : k % 6 = 3 ∧ k < 256) (j : m % 4 = 1 ∧ m < 256) : (rF E (.par .u8 n 2 0 h) (.par .u8 k 6 3 g) (.par .u8 m 4 1 j)).isTrue = true := by kernel_rfl
theorem f032 (E : Nat → Nat) (n k m : Nat) (h : n % 2 = 0 ∧ n < 256) (g : k % 6 = 3 ∧ k < 256) (j : m % 4 = 2 ∧ m < 256) : (rF E (.par .u8 n 2 0 h) (.par .u8 k 6 3 g) (.par .u8 m 4 2 j)).isTrue = true := by kernel_rfl
theorem f033 (E : Nat → Nat) (n k m : Nat) (h : n % 2 = 0 ∧ n < 256) (g : k % 6 = 3 ∧ k < 256) (j : m % 4 = 3 ∧ m < 256) : (rF E (.par .u8 n 2 0 h) (.par .u8 k 6 3 g) (.par .u8 m 4 3 j)).isTrue = true := by kernel_rfl
theorem f040 (E : Nat → Nat) (n k m : Nat) (h : n % 2 = 0 ∧ n < 256) (g : k % 6 = 4 ∧ k < 256) (j : m % 4 = 0 ∧ m < 256) : (rF E (.par .u8 n 2 0 h) (.par .u8 k 6 4 g) (.par .u8 m 4 0 j)).isTrue = true := by kernel_rfl
theorem f041 (E : Nat → Nat) (n k m : Nat) (h : n % 2 = 0 ∧ n < 256) (g : k % 6 = 4 ∧ k < 256) (j : m % 4 = 1 ∧ m < 256) : (rF E (.par .u8 n 2 0 h) (.par .u8 k 6 4 g) (.par .u8 m 4 1 j)).isTrue = true := by kernel_rfl
theorem f042 (E : Nat → Nat) (n k m : Nat) (h : n % 2 = 0 ∧ n < 256) (g : k % 6 = 4 ∧ k < 256) (j : m % 4 = 2 ∧ m < 256) : (rF E (.par .u8 n 2 0 h) (.par .u8 k 6 4 g) (.par .u8 m 4 2 j)).isTrue = true := by kernel_rfl
theorem f043 (E : Nat → Nat) (n k m : Nat) (h : n % 2 = 0 ∧ n < 256) (g : k % 6 = 4 ∧ k < 256) (j : m % 4 = 3 ∧ m < 256) : (rF E (.par .u8 n 2 0 h) (.par .u8 k 6 4 g) (.par .u8 m 4 3 j)).isTrue = true := by kernel_rfl
theorem f050 (E : Nat → Nat) (n k m : Nat) (h : n % 2 = 0 ∧ n < 256) (g : k % 6 = 5 ∧ k < 256) (j : m % 4 = 0 ∧ m < 256) : (rF E (.par .u8 n 2 0 h) (.par .u8 k 6 5 g) (.par .u8 m 4 0 j)).isTrue = true := by kernel_rfl
theorem f051 (E : Nat → Nat) (n k m : Nat) (h : n % 2 = 0 ∧ n < 256) (g : k % 6 = 5 ∧ k < 256) (j : m % 4 = 1 ∧ m < 256) : (rF E (.par .u8 n 2 0 h) (.par .u8 k 6 5 g) (.par .u8 m 4 1 j)).isTrue = true := by kernel_rfl
theorem f052 (E : Nat → Nat) (n k m : Nat) (h : n % 2 = 0 ∧ n < 256) (g : k % 6 = 5 ∧ k < 256) (j : m % 4 = 2 ∧ m < 256) : (rF E (.par .u8 n 2 0 h) (.par .u8 k 6 5 g) (.par .u8 m 4 2 j)).isTrue = true := by kernel_rfl
theorem f053 (E : Nat → Nat) (n k m : Nat) (h : n % 2 = 0 ∧ n < 256) (g : k % 6 = 5 ∧ k < 256) (j : m % 4 = 3 ∧ m < 256) : (rF E (.par .u8 n 2 0 h) (.par .u8 k 6 5 g) (.par .u8 m 4 3 j)).isTrue = true := by kernel_rfl
end Go.Proofs.YtjfmelmiegnmjaaGreatDoor
