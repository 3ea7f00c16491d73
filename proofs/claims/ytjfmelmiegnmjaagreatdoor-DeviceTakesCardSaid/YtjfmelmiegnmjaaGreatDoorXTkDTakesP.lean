/- DeviceTakes: data and runs. -/
import Derived.Test.YtjfmelmiegnmjaaGreatDoorXTkXh
set_option linter.all false
open Go Go.Sx Go.Proofs Go.RowKit Go.Pw
set_option linter.all false
namespace Go.Proofs.YtjfmelmiegnmjaaGreatDoor
set_option maxRecDepth 1000000
noncomputable def sB : Nat → Code → Code
  | 0, c => c
  | n + 1, c => sB n (seqB c)
noncomputable def condE : Code → Code
  | .cond _ _ b => b
  | _ => .skip
noncomputable def blkC : Code → Code
  | .block _ b => b
  | _ => .skip
noncomputable def regA : Code → Array Oper
  | .region _ ops _ => ops
  | _ => #[]
noncomputable def sP (n : Nat) : Code := seqA (sB n cF)
noncomputable def cPre : Code := .seq (sP 0) (.seq (sP 1) (.seq (sP 2) (.seq (sP 3) (.seq (sP 4) (.seq (sP 5) (.seq (sP 6) (.seq (sP 7) (.seq (sP 8) (.seq (sP 9) (.seq (sP 10) (.seq (sP 11) (sP 12))))))))))))
noncomputable def cTl : Code := sB 13 cF
noncomputable def c15 : Code := seqA (seqA cTl)
noncomputable def i0 : Code := blkC (seqB (seqA cTl))
noncomputable def i1 : Code := condE (seqB i0)
noncomputable def i2 : Code := condE (seqB i1)
noncomputable def i3 : Code := condE (seqB i2)
noncomputable def i4 : Code := condE (seqB i3)
noncomputable def c16 : Code := seqA i4
noncomputable def cC : Code := seqA (seqB i4)
theorem cF_eq : cF = .seq (sP 0) (.seq (sP 1) (.seq (sP 2) (.seq (sP 3) (.seq (sP 4) (.seq (sP 5) (.seq (sP 6) (.seq (sP 7) (.seq (sP 8) (.seq (sP 9) (.seq (sP 10) (.seq (sP 11) (.seq (sP 12) cTl)))))))))))) := by kernel_rfl
theorem cF_ahead : Ahead cPre cTl cF := by
  rw [cF_eq]
  exact .more _ _ _ _ (.more _ _ _ _ (.more _ _ _ _ (.more _ _ _ _ (.more _ _ _ _ (.more _ _ _ _ (.more _ _ _ _ (.more _ _ _ _ (.more _ _ _ _ (.more _ _ _ _ (.more _ _ _ _ (.more _ _ _ _ (.one _ _))))))))))))
theorem cTl_eq : cTl = .seq (.seq c15 (.block 0 i0)) (seqB cTl) := by kernel_rfl
theorem i0_eq : i0 = .seq (seqA i0) (.cond (.tmp 139) (condA (seqB i0)) i1) := by kernel_rfl
theorem i1_eq : i1 = .seq (seqA i1) (.cond (.tmp 148) (condA (seqB i1)) i2) := by kernel_rfl
theorem i2_eq : i2 = .seq (seqA i2) (.cond (.tmp 157) (condA (seqB i2)) i3) := by kernel_rfl
theorem i3_eq : i3 = .seq (seqA i3) (.cond (.tmp 182) (condA (seqB i3)) i4) := by kernel_rfl
theorem i4_eq : i4 = .seq c16 (.seq cC (seqB (seqB i4))) := by kernel_rfl
noncomputable def oArr : Array Oper := regA c16
noncomputable def oAt (i : Nat) : Oper := oArr[i]?.getD default
theorem c16_eq : c16 = .region 16 oArr false := by kernel_rfl
theorem oL_eq : oArr.toList = [oAt 0, oAt 1, oAt 2, oAt 3, oAt 4, oAt 5, oAt 6, oAt 7] := by kernel_rfl
noncomputable def xc (c : Code) (r : Rs) : Rs := xcode Tryz.prog okT clF nF 1000 c r.t r.d r.s
noncomputable def rs0 (E : Nat → Nat) (x y z : AV) : Rs := xcode Tryz.prog okT clF nF 1000 cPre (argsTr 0 [x, y, z] .lf) [] (st0 roW E)
noncomputable def rs15 (E : Nat → Nat) (x y z : AV) : Rs := xc c15 (rs0 E x y z)
noncomputable def rs21 (E : Nat → Nat) (x y z : AV) : Rs := xc (seqA i0) (rs15 E x y z)
noncomputable def rs23 (E : Nat → Nat) (x y z : AV) : Rs := xc (seqA i1) (rs21 E x y z)
noncomputable def rs25 (E : Nat → Nat) (x y z : AV) : Rs := xc (seqA i2) (rs23 E x y z)
noncomputable def rs30 (E : Nat → Nat) (x y z : AV) : Rs := xc (seqA i3) (rs25 E x y z)
noncomputable def t16 (V : AV) (t : Tr AV) (st : St) : Tr AV := putD (some (path 23)) (.int .i64 (.ofNat 0)) (putD (some (path 22)) (.ptr st.n 0) (putD (some (path 126)) (.int .i64 (.ofNat 0)) (putD (some (path 125)) V (putD (some (path 122)) (.tup [V, .int .i64 (.ofNat 0)]) (putD (some (path 124)) (.tup [V, .int .i64 (.ofNat 0)]) (putD (some (path 123)) ((getP (path 2) t).getD (.tup [])) t))))))
def bumpS : St → St
  | .mk h n => .mk h (n + 1)
noncomputable def rsC (E : Nat → Nat) (x y z V : AV) : Rs := xcode Tryz.prog okT clF nF 1000 cC (t16 V (rs30 E x y z).t (rs30 E x y z).s) (rs30 E x y z).d (bumpS (rs30 E x y z).s)
def isB (o : Option AV) : Bool := match o with
  | some (.bool b) => !b
  | _ => false
def isT (o : Option (List AV)) : Bool := match o with
  | some [.bool b] => b
  | _ => false
def isNil (d : Ds) : Bool := match d with
  | [] => true
  | _ => false
noncomputable def allOK (E : Nat → Nat) (x y z V : AV) : Bool :=
  (rs0 E x y z).isNorm && ((rs15 E x y z).isNorm && ((rs21 E x y z).isNorm && (isB (getP (path 139) (rs21 E x y z).t) && ((rs23 E x y z).isNorm && (isB (getP (path 148) (rs23 E x y z).t) && ((rs25 E x y z).isNorm && (isB (getP (path 157) (rs25 E x y z).t) && ((rs30 E x y z).isNorm && (isB (getP (path 182) (rs30 E x y z).t) && ((rsC E x y z V).isRet && (isNil (rsC E x y z V).d && isT (resOf Tryz.prog (rsC E x y z V).t (rsC E x y z V).s rsF))))))))))))
theorem ok0 (E : Nat → Nat) (m k : Nat) (hm : m % 2 = 0 ∧ m < 256) (hk : k % 5 = 4 ∧ k < 256) (ao : Option Addr) (n c : Nat) (hn : 0 ≤ n ∧ n ≤ 200) (V : AV) : allOK E (.par .u8 m 2 0 hm) (.par .u8 k 5 4 hk) (.osn ao n c 0 200 hn) V = true := by kernel_rfl
theorem ok1 (E : Nat → Nat) (m k : Nat) (hm : m % 2 = 1 ∧ m < 256) (hk : k % 5 = 4 ∧ k < 256) (ao : Option Addr) (n c : Nat) (hn : 0 ≤ n ∧ n ≤ 200) (V : AV) : allOK E (.par .u8 m 2 1 hm) (.par .u8 k 5 4 hk) (.osn ao n c 0 200 hn) V = true := by kernel_rfl
theorem at0 (E : Nat → Nat) (m k : Nat) (hm : m % 2 = 0 ∧ m < 256) (hk : k % 5 = 4 ∧ k < 256) (ao : Option Addr) (n c : Nat) (hn : 0 ≤ n ∧ n ≤ 200) : getP (path 2) (rs30 E (.par .u8 m 2 0 hm) (.par .u8 k 5 4 hk) (.osn ao n c 0 200 hn)).t = some (.osn ao n c 0 200 hn) := by kernel_rfl
theorem at1 (E : Nat → Nat) (m k : Nat) (hm : m % 2 = 1 ∧ m < 256) (hk : k % 5 = 4 ∧ k < 256) (ao : Option Addr) (n c : Nat) (hn : 0 ≤ n ∧ n ≤ 200) : getP (path 2) (rs30 E (.par .u8 m 2 1 hm) (.par .u8 k 5 4 hk) (.osn ao n c 0 200 hn)).t = some (.osn ao n c 0 200 hn) := by kernel_rfl
end Go.Proofs.YtjfmelmiegnmjaaGreatDoor
