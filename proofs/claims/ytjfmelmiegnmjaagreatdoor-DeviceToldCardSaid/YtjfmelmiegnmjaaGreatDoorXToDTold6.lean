/- DeviceTold: classes of what comes in, run by the kernel. -/
import Derived.Test.YtjfmelmiegnmjaaGreatDoorXToDToldW
set_option linter.all false
open Go Go.Sx Go.Proofs Go.RowKit
set_option linter.all false
namespace Go.Proofs.YtjfmelmiegnmjaaGreatDoor
set_option maxRecDepth 1000000
theorem g1_3f (E : Nat → Nat) (m e : Nat) (hm : m % 2 = 1 ∧ m < 256) (he : e % 15 = 3 ∧ e < 256) (s : Three) (h : s.small) (c : Cl) : (rX E (.par .u8 m 2 1 hm) (.par .u8 e 15 3 he) false (repOf s h c)).isTrue = true := by cases c <;> kernel_rfl
theorem g1_3t (E : Nat → Nat) (m e : Nat) (hm : m % 2 = 1 ∧ m < 256) (he : e % 15 = 3 ∧ e < 256) (s : Three) (h : s.small) (c : Cl) : (rX E (.par .u8 m 2 1 hm) (.par .u8 e 15 3 he) true (repOf s h c)).isTrue = true := by cases c <;> kernel_rfl
theorem g1_4f (E : Nat → Nat) (m e : Nat) (hm : m % 2 = 1 ∧ m < 256) (he : e % 15 = 4 ∧ e < 256) (s : Three) (h : s.small) (c : Cl) : (rX E (.par .u8 m 2 1 hm) (.par .u8 e 15 4 he) false (repOf s h c)).isTrue = true := by cases c <;> kernel_rfl
theorem g1_4t (E : Nat → Nat) (m e : Nat) (hm : m % 2 = 1 ∧ m < 256) (he : e % 15 = 4 ∧ e < 256) (s : Three) (h : s.small) (c : Cl) : (rX E (.par .u8 m 2 1 hm) (.par .u8 e 15 4 he) true (repOf s h c)).isTrue = true := by cases c <;> kernel_rfl
theorem g1_5f (E : Nat → Nat) (m e : Nat) (hm : m % 2 = 1 ∧ m < 256) (he : e % 15 = 5 ∧ e < 256) (s : Three) (h : s.small) (c : Cl) : (rX E (.par .u8 m 2 1 hm) (.par .u8 e 15 5 he) false (repOf s h c)).isTrue = true := by cases c <;> kernel_rfl
theorem g1_5t (E : Nat → Nat) (m e : Nat) (hm : m % 2 = 1 ∧ m < 256) (he : e % 15 = 5 ∧ e < 256) (s : Three) (h : s.small) (c : Cl) : (rX E (.par .u8 m 2 1 hm) (.par .u8 e 15 5 he) true (repOf s h c)).isTrue = true := by cases c <;> kernel_rfl
end Go.Proofs.YtjfmelmiegnmjaaGreatDoor
