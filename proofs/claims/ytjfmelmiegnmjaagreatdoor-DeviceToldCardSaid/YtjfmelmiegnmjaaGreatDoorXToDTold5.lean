/- DeviceTold: classes of what comes in, run by the kernel. -/
import Derived.Test.YtjfmelmiegnmjaaGreatDoorXToDToldW
set_option linter.all false
open Go Go.Sx Go.Proofs Go.RowKit
set_option linter.all false
namespace Go.Proofs.YtjfmelmiegnmjaaGreatDoor
set_option maxRecDepth 1000000
theorem g1_0f (E : Nat → Nat) (m e : Nat) (hm : m % 2 = 1 ∧ m < 256) (he : e % 15 = 0 ∧ e < 256) (s : Three) (h : s.small) (c : Cl) : (rX E (.par .u8 m 2 1 hm) (.par .u8 e 15 0 he) false (repOf s h c)).isTrue = true := by cases c <;> kernel_rfl
theorem g1_0t (E : Nat → Nat) (m e : Nat) (hm : m % 2 = 1 ∧ m < 256) (he : e % 15 = 0 ∧ e < 256) (s : Three) (h : s.small) (c : Cl) : (rX E (.par .u8 m 2 1 hm) (.par .u8 e 15 0 he) true (repOf s h c)).isTrue = true := by cases c <;> kernel_rfl
theorem g1_1f (E : Nat → Nat) (m e : Nat) (hm : m % 2 = 1 ∧ m < 256) (he : e % 15 = 1 ∧ e < 256) (s : Three) (h : s.small) (c : Cl) : (rX E (.par .u8 m 2 1 hm) (.par .u8 e 15 1 he) false (repOf s h c)).isTrue = true := by cases c <;> kernel_rfl
theorem g1_1t (E : Nat → Nat) (m e : Nat) (hm : m % 2 = 1 ∧ m < 256) (he : e % 15 = 1 ∧ e < 256) (s : Three) (h : s.small) (c : Cl) : (rX E (.par .u8 m 2 1 hm) (.par .u8 e 15 1 he) true (repOf s h c)).isTrue = true := by cases c <;> kernel_rfl
theorem g1_2f (E : Nat → Nat) (m e : Nat) (hm : m % 2 = 1 ∧ m < 256) (he : e % 15 = 2 ∧ e < 256) (s : Three) (h : s.small) (c : Cl) : (rX E (.par .u8 m 2 1 hm) (.par .u8 e 15 2 he) false (repOf s h c)).isTrue = true := by cases c <;> kernel_rfl
theorem g1_2t (E : Nat → Nat) (m e : Nat) (hm : m % 2 = 1 ∧ m < 256) (he : e % 15 = 2 ∧ e < 256) (s : Three) (h : s.small) (c : Cl) : (rX E (.par .u8 m 2 1 hm) (.par .u8 e 15 2 he) true (repOf s h c)).isTrue = true := by cases c <;> kernel_rfl
end Go.Proofs.YtjfmelmiegnmjaaGreatDoor
