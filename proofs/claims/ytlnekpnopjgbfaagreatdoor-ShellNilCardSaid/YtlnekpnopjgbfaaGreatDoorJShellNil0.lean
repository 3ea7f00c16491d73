/- Closed facts of the row of ShellNil, part 0: written by a program of ours. -/
import Derived.Test.YtlnekpnopjgbfaaGreatDoorRows
import Derived.JoinedOf
import Derived.KernelRfl
set_option linter.all false
namespace Go.Proofs.YtlnekpnopjgbfaaGreatDoor.shellNil
open Go
theorem j0 : (fun (P : Program) (f : FuncId) (fn : Func) (s : ChangeSpec) (c : OpenClaim) => (c.wf (OpenSpec.ofChange s) : Bool)) Tryz.prog 3 Tryz.f3 Rows.shellNilSpec Rows.shellNilRow = true := by kernel_rfl
theorem j4 : (fun (P : Program) (f : FuncId) (fn : Func) (s : ChangeSpec) (c : OpenClaim) => (namedTie P c.named s.vars : Bool)) Tryz.prog 3 Tryz.f3 Rows.shellNilSpec Rows.shellNilRow = true := by kernel_rfl
theorem j8 : (fun (P : Program) (f : FuncId) (fn : Func) (s : ChangeSpec) (c : OpenClaim) => ((P.stopKnobs == []) : Bool)) Tryz.prog 3 Tryz.f3 Rows.shellNilSpec Rows.shellNilRow = true := by kernel_rfl
theorem j12 : (fun (P : Program) (f : FuncId) (fn : Func) (s : ChangeSpec) (c : OpenClaim) => ((c.named == P.varsNamed f) : Bool)) Tryz.prog 3 Tryz.f3 Rows.shellNilSpec Rows.shellNilRow = true := by kernel_rfl
theorem j16 : (fun (P : Program) (f : FuncId) (fn : Func) (s : ChangeSpec) (c : OpenClaim) => ((c.loops == (fn.params.toList ++ s.plain.varTypes P).any (P.loopsFrom ·)) : Bool)) Tryz.prog 3 Tryz.f3 Rows.shellNilSpec Rows.shellNilRow = true := by kernel_rfl
theorem j20 : (fun (P : Program) (f : FuncId) (fn : Func) (s : ChangeSpec) (c : OpenClaim) => ((c.ifacesOut == fn.resultTypes.toList.any (P.ifacesRec ·)) : Bool)) Tryz.prog 3 Tryz.f3 Rows.shellNilSpec Rows.shellNilRow = true := by kernel_rfl
theorem j24 : (fun (P : Program) (f : FuncId) (fn : Func) (s : ChangeSpec) (c : OpenClaim) => (P.stopsHeard : Bool)) Tryz.prog 3 Tryz.f3 Rows.shellNilSpec Rows.shellNilRow = true := by kernel_rfl
theorem j28 : (fun (P : Program) (f : FuncId) (fn : Func) (s : ChangeSpec) (c : OpenClaim) => ((c.kinds == (if c.domain.isEmpty then [] else fn.params.toList.map fun t => match P.underlying t with | some (.int k) => some k | _ => none)) : Bool)) Tryz.prog 3 Tryz.f3 Rows.shellNilSpec Rows.shellNilRow = true := by kernel_rfl
end Go.Proofs.YtlnekpnopjgbfaaGreatDoor.shellNil
