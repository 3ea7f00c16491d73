/- DeviceTold: classes of what comes in, run by the kernel. -/
import Derived.Test.YtjfmelmiegnmjaaGreatDoorXToDToldW
set_option linter.all false
open Go Go.Sx Go.Proofs Go.RowKit
set_option linter.all false
namespace Go.Proofs.YtjfmelmiegnmjaaGreatDoor
set_option maxRecDepth 1000000
theorem g0_12f (E : Nat → Nat) (m e : Nat) (hm : m % 2 = 0 ∧ m < 256) (he : e % 15 = 12 ∧ e < 256) (s : Three) (h : s.small) (c : Cl) : (rX E (.par .u8 m 2 0 hm) (.par .u8 e 15 12 he) false (repOf s h c)).isTrue = true := by cases c <;> kernel_rfl
theorem g0_12t (E : Nat → Nat) (m e : Nat) (hm : m % 2 = 0 ∧ m < 256) (he : e % 15 = 12 ∧ e < 256) (s : Three) (h : s.small) (c : Cl) : (rX E (.par .u8 m 2 0 hm) (.par .u8 e 15 12 he) true (repOf s h c)).isTrue = true := by cases c <;> kernel_rfl
theorem g0_13f (E : Nat → Nat) (m e : Nat) (hm : m % 2 = 0 ∧ m < 256) (he : e % 15 = 13 ∧ e < 256) (s : Three) (h : s.small) (c : Cl) : (rX E (.par .u8 m 2 0 hm) (.par .u8 e 15 13 he) false (repOf s h c)).isTrue = true := by cases c <;> kernel_rfl
theorem g0_13t (E : Nat → Nat) (m e : Nat) (hm : m % 2 = 0 ∧ m < 256) (he : e % 15 = 13 ∧ e < 256) (s : Three) (h : s.small) (c : Cl) : (rX E (.par .u8 m 2 0 hm) (.par .u8 e 15 13 he) true (repOf s h c)).isTrue = true := by cases c <;> kernel_rfl
theorem g0_14f (E : Nat → Nat) (m e : Nat) (hm : m % 2 = 0 ∧ m < 256) (he : e % 15 = 14 ∧ e < 256) (s : Three) (h : s.small) (c : Cl) : (rX E (.par .u8 m 2 0 hm) (.par .u8 e 15 14 he) false (repOf s h c)).isTrue = true := by cases c <;> kernel_rfl
theorem g0_14t (E : Nat → Nat) (m e : Nat) (hm : m % 2 = 0 ∧ m < 256) (he : e % 15 = 14 ∧ e < 256) (s : Three) (h : s.small) (c : Cl) : (rX E (.par .u8 m 2 0 hm) (.par .u8 e 15 14 he) true (repOf s h c)).isTrue = true := by cases c <;> kernel_rfl
end Go.Proofs.YtjfmelmiegnmjaaGreatDoor
