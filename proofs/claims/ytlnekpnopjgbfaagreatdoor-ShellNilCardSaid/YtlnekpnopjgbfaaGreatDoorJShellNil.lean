/- The closed facts of the row of ShellNil, joined: written by a program of ours. -/
import Derived.Test.YtlnekpnopjgbfaaGreatDoorJShellNil0
import Derived.Test.YtlnekpnopjgbfaaGreatDoorJShellNil1
import Derived.Test.YtlnekpnopjgbfaaGreatDoorJShellNil2
import Derived.Test.YtlnekpnopjgbfaaGreatDoorJShellNil3
set_option linter.all false
namespace Go.Proofs.YtlnekpnopjgbfaaGreatDoor.shellNil
open Go
set_option maxRecDepth 100000
theorem band {a b : Bool} (h : a = true) (k : b = true) : (a && b) = true := by rw [h, k]; rfl
theorem joined : joinedFacts Tryz.prog 3 Tryz.f3 Rows.shellNilSpec Rows.shellNilRow = true := by
  unfold joinedFacts
  exact (band (band (band (band (band (band (band (band (band (band (band (band (band (band (band (band (band (band (band (band (band (band (band (band (band (band (band (band (band (band (band j0 j1) j2) j3) j4) j5) j6) j7) j8) j9) j10) j11) j12) j13) j14) j15) j16) j17) j18) j19) j20) j21) j22) j23) j24) j25) j26) j27) j28) j29) j30) j31)
end Go.Proofs.YtlnekpnopjgbfaaGreatDoor.shellNil
