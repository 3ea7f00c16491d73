/- Closed facts of the row of ShellNil, part 3: written by a program of ours. -/
import Derived.Test.YtlnekpnopjgbfaaGreatDoorRows
import Derived.JoinedOf
import Derived.KernelRfl
set_option linter.all false
namespace Go.Proofs.YtlnekpnopjgbfaaGreatDoor.shellNil
open Go
theorem j3 : (fun (P : Program) (f : FuncId) (fn : Func) (s : ChangeSpec) (c : OpenClaim) => (fn.params.all (P.readableRec ·) : Bool)) Tryz.prog 3 Tryz.f3 Rows.shellNilSpec Rows.shellNilRow = true := by kernel_rfl
theorem j7 : (fun (P : Program) (f : FuncId) (fn : Func) (s : ChangeSpec) (c : OpenClaim) => ((c.knobs == []) : Bool)) Tryz.prog 3 Tryz.f3 Rows.shellNilSpec Rows.shellNilRow = true := by kernel_rfl
theorem j11 : (fun (P : Program) (f : FuncId) (fn : Func) (s : ChangeSpec) (c : OpenClaim) => ((c.recurses == P.recurses f) : Bool)) Tryz.prog 3 Tryz.f3 Rows.shellNilSpec Rows.shellNilRow = true := by kernel_rfl
theorem j15 : (fun (P : Program) (f : FuncId) (fn : Func) (s : ChangeSpec) (c : OpenClaim) => ((c.mapsOut == P.mapsAmong fn.resultTypes.toList) : Bool)) Tryz.prog 3 Tryz.f3 Rows.shellNilSpec Rows.shellNilRow = true := by kernel_rfl
theorem j19 : (fun (P : Program) (f : FuncId) (fn : Func) (s : ChangeSpec) (c : OpenClaim) => (fn.resultTypes.all (fun t => P.readableRec t && decide (t < P.types.size)) : Bool)) Tryz.prog 3 Tryz.f3 Rows.shellNilSpec Rows.shellNilRow = true := by kernel_rfl
theorem j23 : (fun (P : Program) (f : FuncId) (fn : Func) (s : ChangeSpec) (c : OpenClaim) => (c.shortTexts.isNone : Bool)) Tryz.prog 3 Tryz.f3 Rows.shellNilSpec Rows.shellNilRow = true := by kernel_rfl
theorem j27 : (fun (P : Program) (f : FuncId) (fn : Func) (s : ChangeSpec) (c : OpenClaim) => ((P.make == some c.make) : Bool)) Tryz.prog 3 Tryz.f3 Rows.shellNilSpec Rows.shellNilRow = true := by kernel_rfl
theorem j31 : (fun (P : Program) (f : FuncId) (fn : Func) (s : ChangeSpec) (c : OpenClaim) => (c.veiledFits P fn.params.toList (fn.params.toList ++ s.plain.varTypes P ++ fn.resultTypes.toList) : Bool)) Tryz.prog 3 Tryz.f3 Rows.shellNilSpec Rows.shellNilRow = true := by kernel_rfl
end Go.Proofs.YtlnekpnopjgbfaaGreatDoor.shellNil
