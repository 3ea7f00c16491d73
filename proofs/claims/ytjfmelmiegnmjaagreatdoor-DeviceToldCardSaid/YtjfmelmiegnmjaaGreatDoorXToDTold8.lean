/- DeviceTold: classes of what comes in, run by the kernel. -/
import Derived.Test.YtjfmelmiegnmjaaGreatDoorXToDToldW
set_option linter.all false
open Go Go.Sx Go.Proofs Go.RowKit
set_option linter.all false
namespace Go.Proofs.YtjfmelmiegnmjaaGreatDoor
set_option maxRecDepth 1000000
theorem g1_9f (E : Nat → Nat) (m e : Nat) (hm : m % 2 = 1 ∧ m < 256) (he : e % 15 = 9 ∧ e < 256) (s : Three) (h : s.small) (c : Cl) : (rX E (.par .u8 m 2 1 hm) (.par .u8 e 15 9 he) false (repOf s h c)).isTrue = true := by cases c <;> kernel_rfl
theorem g1_9t (E : Nat → Nat) (m e : Nat) (hm : m % 2 = 1 ∧ m < 256) (he : e % 15 = 9 ∧ e < 256) (s : Three) (h : s.small) (c : Cl) : (rX E (.par .u8 m 2 1 hm) (.par .u8 e 15 9 he) true (repOf s h c)).isTrue = true := by cases c <;> kernel_rfl
theorem g1_10f (E : Nat → Nat) (m e : Nat) (hm : m % 2 = 1 ∧ m < 256) (he : e % 15 = 10 ∧ e < 256) (s : Three) (h : s.small) (c : Cl) : (rX E (.par .u8 m 2 1 hm) (.par .u8 e 15 10 he) false (repOf s h c)).isTrue = true := by cases c <;> kernel_rfl
theorem g1_10t (E : Nat → Nat) (m e : Nat) (hm : m % 2 = 1 ∧ m < 256) (he : e % 15 = 10 ∧ e < 256) (s : Three) (h : s.small) (c : Cl) : (rX E (.par .u8 m 2 1 hm) (.par .u8 e 15 10 he) true (repOf s h c)).isTrue = true := by cases c <;> kernel_rfl
theorem g1_11f (E : Nat → Nat) (m e : Nat) (hm : m % 2 = 1 ∧ m < 256) (he : e % 15 = 11 ∧ e < 256) (s : Three) (h : s.small) (c : Cl) : (rX E (.par .u8 m 2 1 hm) (.par .u8 e 15 11 he) false (repOf s h c)).isTrue = true := by cases c <;> kernel_rfl
theorem g1_11t (E : Nat → Nat) (m e : Nat) (hm : m % 2 = 1 ∧ m < 256) (he : e % 15 = 11 ∧ e < 256) (s : Three) (h : s.small) (c : Cl) : (rX E (.par .u8 m 2 1 hm) (.par .u8 e 15 11 he) true (repOf s h c)).isTrue = true := by cases c <;> kernel_rfl
end Go.Proofs.YtjfmelmiegnmjaaGreatDoor
