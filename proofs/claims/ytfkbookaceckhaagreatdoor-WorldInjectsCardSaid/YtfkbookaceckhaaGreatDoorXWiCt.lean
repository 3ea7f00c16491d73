/- WorldInjects: the card. -/
import Derived.Test.YtfkbookaceckhaaGreatDoorRows
import Derived.Test.YtfkbookaceckhaaGreatDoorCards
import Derived.SevenTiedAt
import Derived.KernelRfl
import Derived.Test.YtfkbookaceckhaaGreatDoorXWiJs
import Derived.Test.YtfkbookaceckhaaGreatDoorTie
set_option linter.all false
section
set_option linter.all false
namespace Go.Proofs.YtfkbookaceckhaaGreatDoor.worldInjects
open Go
set_option maxRecDepth 100000
theorem c1 : Rows.worldInjectsRow.wfByText (OpenSpec.ofChange Rows.worldInjectsSpec) = true := by kernel_rfl
theorem c3 : Tryz.prog.funcNamed Rows.worldInjectsRow.func = some 3 := by kernel_rfl
theorem c5 : ([5, 25].all fun u => !Tryz.prog.wantsStandIn u) = true := by kernel_rfl
end Go.Proofs.YtfkbookaceckhaaGreatDoor.worldInjects
end
section
set_option linter.all false
namespace Go.Proofs.YtfkbookaceckhaaGreatDoor.worldInjects
open Go
set_option maxRecDepth 100000
theorem c2 : Tryz.pinned.checked.prog.mainIs = some ((true, "1997be1585a3ed6649b9f2d6174f87975a765d78574624555804960bc7228a1c").1, (true, "1997be1585a3ed6649b9f2d6174f87975a765d78574624555804960bc7228a1c").2.toList) := by kernel_rfl
end Go.Proofs.YtfkbookaceckhaaGreatDoor.worldInjects
end
section
set_option linter.all false
namespace Go.Proofs.YtfkbookaceckhaaGreatDoor.worldInjects
open Go
set_option maxRecDepth 100000
theorem c4 : true = Tryz.pinned.checked.prog.looks [] := by kernel_rfl
end Go.Proofs.YtfkbookaceckhaaGreatDoor.worldInjects
end
section
set_option linter.all false
namespace Go.Proofs.YtfkbookaceckhaaGreatDoor.worldInjects
open Go
set_option maxRecDepth 100000
theorem goes_none {P : Program} (h : P.funcs.toList.any Func.goes = false) (c : OpenClaim) : false = c.goesBy P := by
  have hf : ∀ g : Nat, ((P.funcs[g]?).any Func.goes) = false := by
    intro g
    cases hg : P.funcs[g]? with
    | none => rfl
    | some fn =>
      have := List.any_eq_false.1 h fn (Array.mem_toList_iff.2 (Array.mem_of_getElem? hg))
      simpa using this
  have ha : P.funcs.any Func.goes = false := by rw [← Array.any_toList]; exact h
  have hp : ∀ f, P.goes f = false := by
    intro f
    simp [Program.goes, hf, ha]
  have hp' : P.goes = fun _ => false := funext hp
  have hF : P.goesFrom c.func = false := by
    unfold Program.goesFrom
    rw [hp']
    cases P.funcNamed c.func <;> rfl
  symm
  unfold OpenClaim.goesBy Program.goesAt
  rw [hF, hp']
  cases c.start <;> simp
theorem c6 : false = Rows.worldInjectsRow.goesBy Tryz.pinned.checked.prog := goes_none (by kernel_rfl) _
end Go.Proofs.YtfkbookaceckhaaGreatDoor.worldInjects
end
section
set_option linter.all false
namespace Go.Proofs.YtfkbookaceckhaaGreatDoor.worldInjects
open Go
set_option maxRecDepth 100000
theorem card (walk : Walk) : Rows.WorldInjectsCardSaid :=
  Claim7.holds_tied_plain_at .later [] [.data, .data, .data, .data, .data, .sentinel, .sentinel] true (true, "1997be1585a3ed6649b9f2d6174f87975a765d78574624555804960bc7228a1c") true (said walk) (fun _ h => by cases h) c1 (fun _ h => by cases h) worldInjects_row_tie rfl ⟨rfl, rfl⟩ c2 rfl
    (fun f fn hf hfn => by
      obtain rfl : f = 3 := Option.some.inj (c3.symm.trans hf) |>.symm
      obtain rfl : fn = Tryz.f3 := (Option.some.inj (Tryz.func3.symm.trans hfn)).symm
      exact ⟨c4, fun j t ht => by
        rw [Tryz.params3] at ht
        have hm : t ∈ [5, 25] := by simpa using Array.mem_of_getElem? ht
        exact (show Tryz.prog.wantsStandIn t = false by simpa using List.all_eq_true.1 c5 t hm)⟩)
    c6
end Go.Proofs.YtfkbookaceckhaaGreatDoor.worldInjects
end
