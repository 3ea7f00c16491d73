/- Closed facts of the row of ShellNil, part 1: written by a program of ours. -/
import Derived.Test.YtlnekpnopjgbfaaGreatDoorRows
import Derived.JoinedOf
import Derived.KernelRfl
set_option linter.all false
namespace Go.Proofs.YtlnekpnopjgbfaaGreatDoor.shellNil
open Go
theorem j1 : (fun (P : Program) (f : FuncId) (fn : Func) (s : ChangeSpec) (c : OpenClaim) => (laidOutB P : Bool)) Tryz.prog 3 Tryz.f3 Rows.shellNilSpec Rows.shellNilRow = true := by kernel_rfl
theorem j5 : (fun (P : Program) (f : FuncId) (fn : Func) (s : ChangeSpec) (c : OpenClaim) => ((c.stops == []) : Bool)) Tryz.prog 3 Tryz.f3 Rows.shellNilSpec Rows.shellNilRow = true := by kernel_rfl
theorem j9 : (fun (P : Program) (f : FuncId) (fn : Func) (s : ChangeSpec) (c : OpenClaim) => ((c.inPlace == P.inPlace f) : Bool)) Tryz.prog 3 Tryz.f3 Rows.shellNilSpec Rows.shellNilRow = true := by kernel_rfl
theorem j13 : (fun (P : Program) (f : FuncId) (fn : Func) (s : ChangeSpec) (c : OpenClaim) => ((c.maps == (fn.params.toList ++ s.plain.varTypes P).any (P.mapsRec ·)) : Bool)) Tryz.prog 3 Tryz.f3 Rows.shellNilSpec Rows.shellNilRow = true := by kernel_rfl
theorem j17 : (fun (P : Program) (f : FuncId) (fn : Func) (s : ChangeSpec) (c : OpenClaim) => ((c.wideKeys == (fn.params.toList ++ s.plain.varTypes P ++ fn.resultTypes.toList).any (P.wideKeysFrom ·)) : Bool)) Tryz.prog 3 Tryz.f3 Rows.shellNilSpec Rows.shellNilRow = true := by kernel_rfl
theorem j21 : (fun (P : Program) (f : FuncId) (fn : Func) (s : ChangeSpec) (c : OpenClaim) => ((c.loopsOut == fn.resultTypes.toList.any (P.loopsFrom ·)) : Bool)) Tryz.prog 3 Tryz.f3 Rows.shellNilSpec Rows.shellNilRow = true := by kernel_rfl
theorem j25 : (fun (P : Program) (f : FuncId) (fn : Func) (s : ChangeSpec) (c : OpenClaim) => (P.mayEnter : Bool)) Tryz.prog 3 Tryz.f3 Rows.shellNilSpec Rows.shellNilRow = true := by kernel_rfl
theorem j29 : (fun (P : Program) (f : FuncId) (fn : Func) (s : ChangeSpec) (c : OpenClaim) => ((c.pinned == c.pinnedBy) : Bool)) Tryz.prog 3 Tryz.f3 Rows.shellNilSpec Rows.shellNilRow = true := by kernel_rfl
end Go.Proofs.YtlnekpnopjgbfaaGreatDoor.shellNil
