/- DeviceTakes: data and runs. -/
import Derived.Test.YtjfmelmiegnmjaaGreatDoorXTkXh
set_option linter.all false
open Go Go.Sx Go.Proofs Go.RowKit
set_option linter.all false
namespace Go.Proofs.YtjfmelmiegnmjaaGreatDoor
set_option maxRecDepth 1000000
theorem f1w (E : Nat → Nat) (m k : Nat) (hm : m % 2 = 1 ∧ m < 256) (hk : k % 1 = 0 ∧ k < 256) (ao : Option Addr) (n c : Nat) (hn : 201 ≤ n ∧ n ≤ 9223372036854775807) : (rF (st0 roW E) (.par .u8 m 2 1 hm) (.par .u8 k 1 0 hk) (.osn ao n c 201 9223372036854775807 hn)).isTrue = true := by kernel_rfl
theorem f10 (E : Nat → Nat) (m k : Nat) (hm : m % 2 = 1 ∧ m < 256) (hk : k % 5 = 0 ∧ k < 256) (ao : Option Addr) (n c : Nat) (hn : 0 ≤ n ∧ n ≤ 200) : (rF (st0 roW E) (.par .u8 m 2 1 hm) (.par .u8 k 5 0 hk) (.osn ao n c 0 200 hn)).isTrue = true := by kernel_rfl
theorem f11 (E : Nat → Nat) (m k : Nat) (hm : m % 2 = 1 ∧ m < 256) (hk : k % 5 = 1 ∧ k < 256) (ao : Option Addr) (n c : Nat) (hn : 0 ≤ n ∧ n ≤ 200) : (rF (st0 roW E) (.par .u8 m 2 1 hm) (.par .u8 k 5 1 hk) (.osn ao n c 0 200 hn)).isTrue = true := by kernel_rfl
theorem f12 (E : Nat → Nat) (m k : Nat) (hm : m % 2 = 1 ∧ m < 256) (hk : k % 5 = 2 ∧ k < 256) (ao : Option Addr) (n c : Nat) (hn : 0 ≤ n ∧ n ≤ 200) : (rF (st0 roW E) (.par .u8 m 2 1 hm) (.par .u8 k 5 2 hk) (.osn ao n c 0 200 hn)).isTrue = true := by kernel_rfl
theorem f13 (E : Nat → Nat) (m k : Nat) (hm : m % 2 = 1 ∧ m < 256) (hk : k % 5 = 3 ∧ k < 256) (ao : Option Addr) (n c : Nat) (hn : 0 ≤ n ∧ n ≤ 200) : (rF (st0 roW E) (.par .u8 m 2 1 hm) (.par .u8 k 5 3 hk) (.osn ao n c 0 200 hn)).isTrue = true := by kernel_rfl
theorem f1u (E : Nat → Nat) (m k : Nat) (hm : m % 2 = 1 ∧ m < 256) (hk : k % 5 = 4 ∧ k < 256) : (rF (st0 roW E) (.par .u8 m 2 1 hm) (.par .u8 k 5 4 hk) (.slcU 200)).isTrue = true := by kernel_rfl
theorem f1t (E : Nat → Nat) (m k : Nat) (hm : m % 2 = 1 ∧ m < 256) (hk : k % 5 = 4 ∧ k < 256) (T : Nat) : (rF (stB roW E T) (.par .u8 m 2 1 hm) (.par .u8 k 5 4 hk) (.slcT 200 1 200)).isTrue = true := by kernel_rfl
end Go.Proofs.YtjfmelmiegnmjaaGreatDoor
