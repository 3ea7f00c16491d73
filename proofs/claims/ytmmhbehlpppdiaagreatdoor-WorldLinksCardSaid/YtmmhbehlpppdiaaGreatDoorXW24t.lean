/- awake of layer 24. -/
import Derived.Test.YtmmhbehlpppdiaaGreatDoorXKa
set_option linter.all false
open Go Go.Sx Go.Proofs Go.RowKit
namespace Go.Proofs.YtmmhbehlpppdiaaGreatDoor
set_option maxRecDepth 1000000
theorem awake24 {W : World} {E : Nat → Nat} (hW : ∀ id c, (id, c) ∈ a7.ro → BlkOK (env0 Tryz.prog) W id (.mk (E id) 0 c)) : Calls Tryz.prog 4 #[] W fun e W' => e = .returned (.bool true) ∧ Below W.heap.size W W' :=
  closed_calls closed_a (by kernel_rfl) (by kernel_rfl) (by kernel_rfl) hW
end Go.Proofs.YtmmhbehlpppdiaaGreatDoor
