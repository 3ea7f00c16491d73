/- DeviceOnce: data and runs. -/
import Derived.Test.YtjfmelmiegnmjaaGreatDoorXOnXh
set_option linter.all false
open Go Go.Sx Go.Proofs Go.RowKit
set_option linter.all false
namespace Go.Proofs.YtjfmelmiegnmjaaGreatDoor
set_option maxRecDepth 1000000
theorem f100 (E : Nat → Nat) (n k m : Nat) (h : n % 2 = 1 ∧ n < 256) (g : k % 6 = 0 ∧ k < 256) (j : m % 4 = 0 ∧ m < 256) : (rF E (.par .u8 n 2 1 h) (.par .u8 k 6 0 g) (.par .u8 m 4 0 j)).isTrue = true := by kernel_rfl
theorem f101 (E : Nat → Nat) (n k m : Nat) (h : n % 2 = 1 ∧ n < 256) (g : k % 6 = 0 ∧ k < 256) (j : m % 4 = 1 ∧ m < 256) : (rF E (.par .u8 n 2 1 h) (.par .u8 k 6 0 g) (.par .u8 m 4 1 j)).isTrue = true := by kernel_rfl
theorem f102 (E : Nat → Nat) (n k m : Nat) (h : n % 2 = 1 ∧ n < 256) (g : k % 6 = 0 ∧ k < 256) (j : m % 4 = 2 ∧ m < 256) : (rF E (.par .u8 n 2 1 h) (.par .u8 k 6 0 g) (.par .u8 m 4 2 j)).isTrue = true := by kernel_rfl
theorem f103 (E : Nat → Nat) (n k m : Nat) (h : n % 2 = 1 ∧ n < 256) (g : k % 6 = 0 ∧ k < 256) (j : m % 4 = 3 ∧ m < 256) : (rF E (.par .u8 n 2 1 h) (.par .u8 k 6 0 g) (.par .u8 m 4 3 j)).isTrue = true := by kernel_rfl
theorem f110 (E : Nat → Nat) (n k m : Nat) (h : n % 2 = 1 ∧ n < 256) (g : k % 6 = 1 ∧ k < 256) (j : m % 4 = 0 ∧ m < 256) : (rF E (.par .u8 n 2 1 h) (.par .u8 k 6 1 g) (.par .u8 m 4 0 j)).isTrue = true := by kernel_rfl
theorem f111 (E : Nat → Nat) (n k m : Nat) (h : n % 2 = 1 ∧ n < 256) (g : k % 6 = 1 ∧ k < 256) (j : m % 4 = 1 ∧ m < 256) : (rF E (.par .u8 n 2 1 h) (.par .u8 k 6 1 g) (.par .u8 m 4 1 j)).isTrue = true := by kernel_rfl
theorem f112 (E : Nat → Nat) (n k m : Nat) (h : n % 2 = 1 ∧ n < 256) (g : k % 6 = 1 ∧ k < 256) (j : m % 4 = 2 ∧ m < 256) : (rF E (.par .u8 n 2 1 h) (.par .u8 k 6 1 g) (.par .u8 m 4 2 j)).isTrue = true := by kernel_rfl
theorem f113 (E : Nat → Nat) (n k m : Nat) (h : n % 2 = 1 ∧ n < 256) (g : k % 6 = 1 ∧ k < 256) (j : m % 4 = 3 ∧ m < 256) : (rF E (.par .u8 n 2 1 h) (.par .u8 k 6 1 g) (.par .u8 m 4 3 j)).isTrue = true := by kernel_rfl
theorem f120 (E : Nat → Nat) (n k m : Nat) (h : n % 2 = 1 ∧ n < 256) (g : k % 6 = 2 ∧ k < 256) (j : m % 4 = 0 ∧ m < 256) : (rF E (.par .u8 n 2 1 h) (.par .u8 k 6 2 g) (.par .u8 m 4 0 j)).isTrue = true := by kernel_rfl
theorem f121 (E : Nat → Nat) (n k m : Nat) (h : n % 2 = 1 ∧ n < 256) (g : k % 6 = 2 ∧ k < 256) (j : m % 4 = 1 ∧ m < 256) : (rF E (.par .u8 n 2 1 h) (.par .u8 k 6 2 g) (.par .u8 m 4 1 j)).isTrue = true := by kernel_rfl
theorem f122 (E : Nat → Nat) (n k m : Nat) (h : n % 2 = 1 ∧ n < 256) (g : k % 6 = 2 ∧ k < 256) (j : m % 4 = 2 ∧ m < 256) : (rF E (.par .u8 n 2 1 h) (.par .u8 k 6 2 g) (.par .u8 m 4 2 j)).isTrue = true := by kernel_rfl
theorem f123 (E : Nat → Nat) (n k m : Nat) (h : n % 2 = 1 ∧ n < 256) (g : k % 6 = 2 ∧ k < 256) (j : m % 4 = 3 ∧ m < 256) : (rF E (.par .u8 n 2 1 h) (.par .u8 k 6 2 g) (.par .u8 m 4 3 j)).isTrue = true := by kernel_rfl
theorem f130 (E : Nat → Nat) (n k m : Nat) (h : n % 2 = 1 ∧ n < 256) (g : k % 6 = 3 ∧ k < 256) (j : m % 4 = 0 ∧ m < 256) : (rF E (.par .u8 n 2 1 h) (.par .u8 k 6 3 g) (.par .u8 m 4 0 j)).isTrue = true := by kernel_rfl
theorem f131 (E : Nat → Nat) (n k m : Nat) (h : n % 2 = 1 ∧ n < 256) (g : k % 6 = 3 ∧ k < 256) (j : m % 4 = 1 ∧ m < 256) : (rF E (.par .u8 n 2 1 h) (.par .u8 k 6 3 g) (.par .u8 m 4 1 j)).isTrue = true := by kernel_rfl
theorem f132 (E : Nat → Nat) (n k m : Nat) (h : n % 2 = 1 ∧ n < 256) (g : k % 6 = 3 ∧ k < 256) (j : m % 4 = 2 ∧ m < 256) : (rF E (.par .u8 n 2 1 h) (.par .u8 k 6 3 g) (.par .u8 m 4 2 j)).isTrue = true := by kernel_rfl
theorem f133 (E : Nat → Nat) (n k m : Nat) (h : n % 2 = 1 ∧ n < 256) (g : k % 6 = 3 ∧ k < 256) (j : m % 4 = 3 ∧ m < 256) : (rF E (.par .u8 n 2 1 h) (.par .u8 k 6 3 g) (.par .u8 m 4 3 j)).isTrue = true := by kernel_rfl
theorem f140 (E : Nat → Nat) (n k m : Nat) (h : n % 2 = 1 ∧ n < 256) (g : k % 6 = 4 ∧ k < 256) (j : m % 4 = 0 ∧ m < 256) : (rF E (.par .u8 n 2 1 h) (.par .u8 k 6 4 g) (.par .u8 m 4 0 j)).isTrue = true := by kernel_rfl
theorem f141 (E : Nat → Nat) (n k m : Nat) (h : n % 2 = 1 ∧ n < 256) (g : k % 6 = 4 ∧ k < 256) (j : m % 4 = 1 ∧ m < 256) : (rF E (.par .u8 n 2 1 h) (.par .u8 k 6 4 g) (.par .u8 m 4 1 j)).isTrue = true := by kernel_rfl
theorem f142 (E : Nat → Nat) (n k m : Nat) (h : n % 2 = 1 ∧ n < 256) (g : k % 6 = 4 ∧ k < 256) (j : m % 4 = 2 ∧ m < 256) : (rF E (.par .u8 n 2 1 h) (.par .u8 k 6 4 g) (.par .u8 m 4 2 j)).isTrue = true := by kernel_rfl
theorem f143 (E : Nat → Nat) (n k m : Nat) (h : n % 2 = 1 ∧ n < 256) (g : k % 6 = 4 ∧ k < 256) (j : m % 4 = 3 ∧ m < 256) : (rF E (.par .u8 n 2 1 h) (.par .u8 k 6 4 g) (.par .u8 m 4 3 j)).isTrue = true := by kernel_rfl
theorem f150 (E : Nat → Nat) (n k m : Nat) (h : n % 2 = 1 ∧ n < 256) (g : k % 6 = 5 ∧ k < 256) (j : m % 4 = 0 ∧ m < 256) : (rF E (.par .u8 n 2 1 h) (.par .u8 k 6 5 g) (.par .u8 m 4 0 j)).isTrue = true := by kernel_rfl
theorem f151 (E : Nat → Nat) (n k m : Nat) (h : n % 2 = 1 ∧ n < 256) (g : k % 6 = 5 ∧ k < 256) (j : m % 4 = 1 ∧ m < 256) : (rF E (.par .u8 n 2 1 h) (.par .u8 k 6 5 g) (.par .u8 m 4 1 j)).isTrue = true := by kernel_rfl
theorem f152 (E : Nat → Nat) (n k m : Nat) (h : n % 2 = 1 ∧ n < 256) (g : k % 6 = 5 ∧ k < 256) (j : m % 4 = 2 ∧ m < 256) : (rF E (.par .u8 n 2 1 h) (.par .u8 k 6 5 g) (.par .u8 m 4 2 j)).isTrue = true := by kernel_rfl
theorem f153 (E : Nat → Nat) (n k m : Nat) (h : n % 2 = 1 ∧ n < 256) (g : k % 6 = 5 ∧ k < 256) (j : m % 4 = 3 ∧ m < 256) : (rF E (.par .u8 n 2 1 h) (.par .u8 k 6 5 g) (.par .u8 m 4 3 j)).isTrue = true := by kernel_rfl
end Go.Proofs.YtjfmelmiegnmjaaGreatDoor
