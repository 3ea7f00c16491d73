/- The tie of the listed variables: the run that lays them. -/
import Derived.Test.YtlnekpnopjgbfaaGreatDoorXTa
set_option linter.all false
namespace Go.Proofs.YtlnekpnopjgbfaaGreatDoor.tied
open Go
set_option maxRecDepth 100000
theorem f7 : ∀ os tape, doorLeaves Tryz.prog 400 8 257 vs os tape = some (vs.filter fun x => x.2.handleName?.isNone, (funcsListed vs).map (·.2.funcsOut)) := fun _ _ => by kernel_rfl
end Go.Proofs.YtlnekpnopjgbfaaGreatDoor.tied
