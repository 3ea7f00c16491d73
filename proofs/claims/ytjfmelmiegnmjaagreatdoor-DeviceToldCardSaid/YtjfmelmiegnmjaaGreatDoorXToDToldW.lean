/- DeviceTold: the law in the machine. -/
import Derived.Test.YtjfmelmiegnmjaaGreatDoorXToXh
import Derived.Test.YtjfmelmiegnmjaaGreatDoorXToDl
set_option linter.all false
open Go Go.Sx Go.Proofs Go.RowKit
set_option linter.all false
namespace Go.Proofs.YtjfmelmiegnmjaaGreatDoor
set_option maxRecDepth 1000000
noncomputable def cW : Code := bodyOf Tryz.prog 3
noncomputable def nW : Nat := ntOf Tryz.prog 3
noncomputable def rsW : List ResultVar := resultsOf Tryz.prog 3
theorem cW_fn : fnOf Tryz.prog 3 = some (nW, cW, rsW) := by kernel_rfl
noncomputable def clW : Nat → List AV → St → Ro := xcall Tryz.prog okT hW dhC 1000 60
noncomputable def rX (E : Nat → Nat) (m e : AV) (b : Bool) (r : AV) : Ro := xleave Tryz.prog dhC rsW (xcode Tryz.prog okT clW nW 1000 cW (argsTr 0 [m, e, .bool b, r] .lf) [] (st0 roW E))
/-- The slices of the answer: not looked into. -/
structure Three where
  a0 : Option Addr
  n0 : Nat
  c0 : Nat
  a1 : Option Addr
  n1 : Nat
  c1 : Nat
  a2 : Option Addr
  n2 : Nat
  c2 : Nat
def Three.small (s : Three) : Prop := (0 ≤ s.n0 ∧ s.n0 ≤ 10) ∧ (0 ≤ s.n1 ∧ s.n1 ≤ 20) ∧ (0 ≤ s.n2 ∧ s.n2 ≤ 10)
noncomputable def Three.avs (s : Three) (h : s.small) : List AV := [.osn s.a0 s.n0 s.c0 0 10 h.1, .osn s.a1 s.n1 s.c1 0 20 h.2.1, .osn s.a2 s.n2 s.c2 0 10 h.2.2]
noncomputable def reply (a0 a1 a2 a3 a4 a5 : AV) (l : List AV) : AV := .agg (a0 :: a1 :: a2 :: a3 :: a4 :: a5 :: l)

/-- The classes of answers. -/
inductive Cl where
  | ka
  | kb
  | ua
  | ub
  | da
  | db
  | Na
  | Nb
  | ya
  | yb
  | eq
noncomputable def repOf (s : Three) (h : s.small) : Cl → AV
  | .ka => reply (.int .u8 (.ofNat 0)) (.vint .i64 204 (.negSucc 9223372036854775807) (.ofNat 9223372036854775807) 0 0) (.vint .i64 205 (.negSucc 9223372036854775807) (.ofNat 9223372036854775807) 0 0) (.vint .u32 206 (.ofNat 0) (.ofNat 4294967295) 0 0) (.vint .u32 207 (.ofNat 0) (.ofNat 4294967295) 0 0) (.vint .i64 208 (.negSucc 9223372036854775807) (.ofNat 9223372036854775807) 0 0) (s.avs h)
  | .kb => reply (.vint .u8 203 (.ofNat 2) (.ofNat 255) 0 0) (.vint .i64 204 (.negSucc 9223372036854775807) (.ofNat 9223372036854775807) 0 0) (.vint .i64 205 (.negSucc 9223372036854775807) (.ofNat 9223372036854775807) 0 0) (.vint .u32 206 (.ofNat 0) (.ofNat 4294967295) 0 0) (.vint .u32 207 (.ofNat 0) (.ofNat 4294967295) 0 0) (.vint .i64 208 (.negSucc 9223372036854775807) (.ofNat 9223372036854775807) 0 0) (s.avs h)
  | .ua => reply (.int .u8 (.ofNat 1)) (.vint .i64 204 (.negSucc 9223372036854775807) (.negSucc 0) 0 0) (.vint .i64 205 (.negSucc 9223372036854775807) (.ofNat 9223372036854775807) 0 0) (.vint .u32 206 (.ofNat 0) (.ofNat 4294967295) 0 0) (.vint .u32 207 (.ofNat 0) (.ofNat 4294967295) 0 0) (.vint .i64 208 (.negSucc 9223372036854775807) (.ofNat 9223372036854775807) 0 0) (s.avs h)
  | .ub => reply (.int .u8 (.ofNat 1)) (.vint .i64 204 (.ofNat 1) (.ofNat 9223372036854775807) 0 0) (.vint .i64 205 (.negSucc 9223372036854775807) (.ofNat 9223372036854775807) 0 0) (.vint .u32 206 (.ofNat 0) (.ofNat 4294967295) 0 0) (.vint .u32 207 (.ofNat 0) (.ofNat 4294967295) 0 0) (.vint .i64 208 (.negSucc 9223372036854775807) (.ofNat 9223372036854775807) 0 0) (s.avs h)
  | .da => reply (.int .u8 (.ofNat 1)) (.int .i64 (.ofNat 0)) (.vint .i64 205 (.negSucc 9223372036854775807) (.ofNat 0) 0 0) (.vint .u32 206 (.ofNat 0) (.ofNat 4294967295) 0 0) (.vint .u32 207 (.ofNat 0) (.ofNat 4294967295) 0 0) (.vint .i64 208 (.negSucc 9223372036854775807) (.ofNat 9223372036854775807) 0 0) (s.avs h)
  | .db => reply (.int .u8 (.ofNat 1)) (.int .i64 (.ofNat 0)) (.vint .i64 205 (.ofNat 2) (.ofNat 9223372036854775807) 0 0) (.vint .u32 206 (.ofNat 0) (.ofNat 4294967295) 0 0) (.vint .u32 207 (.ofNat 0) (.ofNat 4294967295) 0 0) (.vint .i64 208 (.negSucc 9223372036854775807) (.ofNat 9223372036854775807) 0 0) (s.avs h)
  | .Na => reply (.int .u8 (.ofNat 1)) (.int .i64 (.ofNat 0)) (.int .i64 (.ofNat 1)) (.int .u32 (.ofNat 0)) (.vint .u32 207 (.ofNat 0) (.ofNat 4294967295) 0 0) (.vint .i64 208 (.negSucc 9223372036854775807) (.ofNat 9223372036854775807) 0 0) (s.avs h)
  | .Nb => reply (.int .u8 (.ofNat 1)) (.int .i64 (.ofNat 0)) (.int .i64 (.ofNat 1)) (.vint .u32 206 (.ofNat 2) (.ofNat 4294967295) 0 0) (.vint .u32 207 (.ofNat 0) (.ofNat 4294967295) 0 0) (.vint .i64 208 (.negSucc 9223372036854775807) (.ofNat 9223372036854775807) 0 0) (s.avs h)
  | .ya => reply (.int .u8 (.ofNat 1)) (.int .i64 (.ofNat 0)) (.int .i64 (.ofNat 1)) (.int .u32 (.ofNat 1)) (.int .u32 (.ofNat 0)) (.vint .i64 208 (.negSucc 9223372036854775807) (.ofNat 9223372036854775807) 0 0) (s.avs h)
  | .yb => reply (.int .u8 (.ofNat 1)) (.int .i64 (.ofNat 0)) (.int .i64 (.ofNat 1)) (.int .u32 (.ofNat 1)) (.vint .u32 207 (.ofNat 2) (.ofNat 4294967295) 0 0) (.vint .i64 208 (.negSucc 9223372036854775807) (.ofNat 9223372036854775807) 0 0) (s.avs h)
  | .eq => reply (.int .u8 (.ofNat 1)) (.int .i64 (.ofNat 0)) (.int .i64 (.ofNat 1)) (.int .u32 (.ofNat 1)) (.int .u32 (.ofNat 1)) (.vint .i64 208 (.negSucc 9223372036854775807) (.ofNat 9223372036854775807) 0 0) (s.avs h)
end Go.Proofs.YtjfmelmiegnmjaaGreatDoor
