/- FairRaces: the tied card of the law. No condition beyond the row's own. -/
import Derived.Test.YtapjommjopfbiaaGreatDoorXFf
import Derived.Test.YtapjommjopfbiaaGreatDoorTFairRaces
set_option linter.all false
open Go Go.Sx Go.Proofs Go.RowKit
set_option linter.unusedVariables false
namespace Go.Proofs.YtapjommjopfbiaaGreatDoor
set_option maxRecDepth 100000
theorem tPow : (Tryz.prog.globals[3]?).map (·.type) = some 542 := by kernel_rfl

/-- In a world in which the variables are laid the table is there. -/
theorem laid_ro {laid : List (String × DataW Unit)} {W : World} (h : laidMet Tryz.prog laid W) {nm : String} {d : DataW Unit} (hin : (nm, d) ∈ laid) (hd : d = Lib.tabData .u64 pows) (hg : Tryz.prog.globalNamed nm = some 3) :
    ∃ el, ∀ id c, (id, c) ∈ roF → BlkOK (env0 Tryz.prog) W id (.mk el 0 c) := by
  subst hd
  obtain ⟨el, hb⟩ := laid_tab_blk h hin hg tPow Tryz.underlying542 Tryz.underlying71 (by kernel_rfl) (by kernel_rfl) (by decide)
  refine ⟨el, fun id c hm => ?_⟩
  simp only [roF, List.mem_singleton, Prod.mk.injEq] at hm
  obtain ⟨rfl, rfl⟩ := hm
  exact hb

theorem fairRaces_walk : fairRaces.Walk := by
  intro H enc base W v0 v1 d0 p0 d1 p1 hL k0 t0 k1 t1
  obtain ⟨n, rfl⟩ := Go.WideShapes.okWide_int Tryz.underlying5 k0
  obtain ⟨n', he, hw⟩ := reads_int Tryz.underlying5 (reads_of t0)
  obtain rfl : n = n' := by simpa [Value.cells] using he
  have h0 : 0 ≤ n ∧ n < 256 := by
    simp [Lit.wf, IntKind.min, IntKind.max, IntKind.signed, IntKind.bits] at hw
    omega
  obtain ⟨m, rfl⟩ := Int.eq_ofNat_of_zero_le h0.1
  have hm : m < 256 := by have := h0.2; omega
  obtain ⟨f, rfl⟩ := Go.WideShapes.okWide_bool Tryz.underlying4 k1
  rw [MakeChecks.laidMetH_plain _ _ _ (by kernel_rfl)] at hL
  obtain ⟨el, hb⟩ := laid_ro hL (List.mem_of_getElem? (show Rows.fairRacesRow.laid[2]? = some (_, _) from rfl)) (by kernel_rfl) (by kernel_rfl)
  exact fairRaces_any (E := fun _ => el) hb m hm f

theorem fairRacesCard_holds : Rows.FairRacesCardSaid := fairRaces.card fairRaces_walk
end Go.Proofs.YtapjommjopfbiaaGreatDoor
