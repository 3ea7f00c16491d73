/- WorldErrs: the law in the machine. -/
import Derived.Test.YtadbbdnjcpaooaaGreatDoorXXh
set_option linter.all false
open Go Go.Sx Go.Proofs Go.RowKit
set_option linter.all false
namespace Go.Proofs.YtadbbdnjcpaooaaGreatDoor
set_option maxRecDepth 1000000
noncomputable def cW : Code := bodyOf Tryz.prog 3
noncomputable def nW : Nat := ntOf Tryz.prog 3
noncomputable def rsW : List ResultVar := resultsOf Tryz.prog 3
theorem cW_fn : fnOf Tryz.prog 3 = some (nW, cW, rsW) := by kernel_rfl
def pows : List Int := [1, 10, 100, 1000, 10000, 100000, 1000000, 10000000, 100000000, 1000000000, 10000000000, 100000000000, 1000000000000, 10000000000000, 100000000000000, 1000000000000000, 10000000000000000, 100000000000000000, 1000000000000000000, 10000000000000000000]
def roW : List (Nat × Cont) := [(3, Cont.cells (pows.map fun z => AV.int .u64 z))]
noncomputable def clW : Nat → List AV → St → Ro := xcall Tryz.prog okT hW dhC 1000 60
noncomputable def rX (st : St) (op : AV) (g : Bool) : Ro := xleave Tryz.prog dhC rsW (xcode Tryz.prog okT clW nW 1000 cW (argsTr 0 [op, .bool g] .lf) [] st)
def pre1 : List AV := [.tok .u8 201 0 255]
def pre2 : List AV := [.tok .u8 201 0 255, .tok .u8 202 0 255]
def pre3 : List AV := [.tok .u8 201 0 255, .tok .u8 202 0 255, .tok .u8 203 0 255]
end Go.Proofs.YtadbbdnjcpaooaaGreatDoor
