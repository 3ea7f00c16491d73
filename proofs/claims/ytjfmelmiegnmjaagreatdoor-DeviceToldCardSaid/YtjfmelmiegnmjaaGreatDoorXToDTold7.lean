/- DeviceTold: classes of what comes in, run by the kernel. -/
import Derived.Test.YtjfmelmiegnmjaaGreatDoorXToDToldW
set_option linter.all false
open Go Go.Sx Go.Proofs Go.RowKit
set_option linter.all false
namespace Go.Proofs.YtjfmelmiegnmjaaGreatDoor
set_option maxRecDepth 1000000
theorem g1_6f (E : Nat → Nat) (m e : Nat) (hm : m % 2 = 1 ∧ m < 256) (he : e % 15 = 6 ∧ e < 256) (s : Three) (h : s.small) (c : Cl) : (rX E (.par .u8 m 2 1 hm) (.par .u8 e 15 6 he) false (repOf s h c)).isTrue = true := by cases c <;> kernel_rfl
theorem g1_6t (E : Nat → Nat) (m e : Nat) (hm : m % 2 = 1 ∧ m < 256) (he : e % 15 = 6 ∧ e < 256) (s : Three) (h : s.small) (c : Cl) : (rX E (.par .u8 m 2 1 hm) (.par .u8 e 15 6 he) true (repOf s h c)).isTrue = true := by cases c <;> kernel_rfl
theorem g1_7f (E : Nat → Nat) (m e : Nat) (hm : m % 2 = 1 ∧ m < 256) (he : e % 15 = 7 ∧ e < 256) (s : Three) (h : s.small) (c : Cl) : (rX E (.par .u8 m 2 1 hm) (.par .u8 e 15 7 he) false (repOf s h c)).isTrue = true := by cases c <;> kernel_rfl
theorem g1_7t (E : Nat → Nat) (m e : Nat) (hm : m % 2 = 1 ∧ m < 256) (he : e % 15 = 7 ∧ e < 256) (s : Three) (h : s.small) (c : Cl) : (rX E (.par .u8 m 2 1 hm) (.par .u8 e 15 7 he) true (repOf s h c)).isTrue = true := by cases c <;> kernel_rfl
theorem g1_8f (E : Nat → Nat) (m e : Nat) (hm : m % 2 = 1 ∧ m < 256) (he : e % 15 = 8 ∧ e < 256) (s : Three) (h : s.small) (c : Cl) : (rX E (.par .u8 m 2 1 hm) (.par .u8 e 15 8 he) false (repOf s h c)).isTrue = true := by cases c <;> kernel_rfl
theorem g1_8t (E : Nat → Nat) (m e : Nat) (hm : m % 2 = 1 ∧ m < 256) (he : e % 15 = 8 ∧ e < 256) (s : Three) (h : s.small) (c : Cl) : (rX E (.par .u8 m 2 1 hm) (.par .u8 e 15 8 he) true (repOf s h c)).isTrue = true := by cases c <;> kernel_rfl
end Go.Proofs.YtjfmelmiegnmjaaGreatDoor
