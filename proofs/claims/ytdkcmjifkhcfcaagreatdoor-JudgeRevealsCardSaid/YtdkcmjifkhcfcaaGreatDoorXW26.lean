/- awake of layer 26. -/
import Derived.Test.YtdkcmjifkhcfcaaGreatDoorXKb
import Derived.Test.YtdkcmjifkhcfcaaGreatDoorXSc
set_option linter.all false
open Go Go.Sx Go.Proofs Go.RowKit
set_option linter.unusedVariables false
namespace Go.Proofs.YtdkcmjifkhcfcaaGreatDoor
set_option maxRecDepth 1000000
theorem awake26 {W : World} {E : Nat → Nat} (hW : ∀ id c, (id, c) ∈ b7.ro → BlkOK (env0 Tryz.prog) W id (.mk (E id) 0 c)) : Calls Tryz.prog 21 #[] W fun e W' => e = .returned (.bool true) ∧ Below W.heap.size W W' :=
  closed_calls closed_b (by kernel_rfl) (by kernel_rfl) (by kernel_rfl) hW
end Go.Proofs.YtdkcmjifkhcfcaaGreatDoor
