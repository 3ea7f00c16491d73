/- Closed facts of the card of ShellNil, part 3: written by a program of ours. -/
import Derived.Test.YtlnekpnopjgbfaaGreatDoorRows
import Derived.Test.YtlnekpnopjgbfaaGreatDoorCards
import Derived.SevenTiedAt
import Derived.KernelRfl
set_option linter.all false
namespace Go.Proofs.YtlnekpnopjgbfaaGreatDoor.shellNil
open Go
set_option maxRecDepth 100000
theorem goes_none {P : Program} (h : P.funcs.toList.any Func.goes = false) (c : OpenClaim) : false = c.goesBy P := by
  have hf : ∀ g : Nat, ((P.funcs[g]?).any Func.goes) = false := by
    intro g
    cases hg : P.funcs[g]? with
    | none => rfl
    | some fn =>
      have := List.any_eq_false.1 h fn (Array.mem_toList_iff.2 (Array.mem_of_getElem? hg))
      simpa using this
  have ha : P.funcs.any Func.goes = false := by rw [← Array.any_toList]; exact h
  have hp : ∀ f, P.goes f = false := by
    intro f
    simp [Program.goes, hf, ha]
  have hp' : P.goes = fun _ => false := funext hp
  have hF : P.goesFrom c.func = false := by
    unfold Program.goesFrom
    rw [hp']
    cases P.funcNamed c.func <;> rfl
  symm
  unfold OpenClaim.goesBy Program.goesAt
  rw [hF, hp']
  cases c.start <;> simp
theorem c6 : false = Rows.shellNilRow.goesBy Tryz.pinned.checked.prog := goes_none (by kernel_rfl) _
end Go.Proofs.YtlnekpnopjgbfaaGreatDoor.shellNil
