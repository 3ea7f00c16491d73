/- Closed facts of the row of ShellNil, part 2: written by a program of ours. -/
import Derived.Test.YtlnekpnopjgbfaaGreatDoorRows
import Derived.JoinedOf
import Derived.KernelRfl
set_option linter.all false
namespace Go.Proofs.YtlnekpnopjgbfaaGreatDoor.shellNil
open Go
theorem j2 : (fun (P : Program) (f : FuncId) (fn : Func) (s : ChangeSpec) (c : OpenClaim) => (mapsRowed P : Bool)) Tryz.prog 3 Tryz.f3 Rows.shellNilSpec Rows.shellNilRow = true := by kernel_rfl
theorem j6 : (fun (P : Program) (f : FuncId) (fn : Func) (s : ChangeSpec) (c : OpenClaim) => ((P.stops == []) : Bool)) Tryz.prog 3 Tryz.f3 Rows.shellNilSpec Rows.shellNilRow = true := by kernel_rfl
theorem j10 : (fun (P : Program) (f : FuncId) (fn : Func) (s : ChangeSpec) (c : OpenClaim) => ((c.unfollowed == P.unfollowed f) : Bool)) Tryz.prog 3 Tryz.f3 Rows.shellNilSpec Rows.shellNilRow = true := by kernel_rfl
theorem j14 : (fun (P : Program) (f : FuncId) (fn : Func) (s : ChangeSpec) (c : OpenClaim) => ((c.ifaces == (fn.params.toList ++ s.plain.varTypes P).any (P.ifacesRec ·)) : Bool)) Tryz.prog 3 Tryz.f3 Rows.shellNilSpec Rows.shellNilRow = true := by kernel_rfl
theorem j18 : (fun (P : Program) (f : FuncId) (fn : Func) (s : ChangeSpec) (c : OpenClaim) => (s.vars.all (P.varReadable ·) : Bool)) Tryz.prog 3 Tryz.f3 Rows.shellNilSpec Rows.shellNilRow = true := by kernel_rfl
theorem j22 : (fun (P : Program) (f : FuncId) (fn : Func) (s : ChangeSpec) (c : OpenClaim) => ((c.plainKeys == P.plainKeys) : Bool)) Tryz.prog 3 Tryz.f3 Rows.shellNilSpec Rows.shellNilRow = true := by kernel_rfl
theorem j26 : (fun (P : Program) (f : FuncId) (fn : Func) (s : ChangeSpec) (c : OpenClaim) => ((c.lifted == P.liftsFinal) : Bool)) Tryz.prog 3 Tryz.f3 Rows.shellNilSpec Rows.shellNilRow = true := by kernel_rfl
theorem j30 : (fun (P : Program) (f : FuncId) (fn : Func) (s : ChangeSpec) (c : OpenClaim) => ((c.veiled == (fn.params.toList ++ s.plain.varTypes P ++ fn.resultTypes.toList).any (P.veiledRec ·)) : Bool)) Tryz.prog 3 Tryz.f3 Rows.shellNilSpec Rows.shellNilRow = true := by kernel_rfl
end Go.Proofs.YtlnekpnopjgbfaaGreatDoor.shellNil
