/- ShellNil: the tied card of the law. No condition beyond the row's own. -/
import Derived.Test.YtlnekpnopjgbfaaGreatDoorXFf28
import Derived.Test.YtlnekpnopjgbfaaGreatDoorTShellNil
set_option linter.all false
open Go Go.Sx Go.Proofs Go.RowKit
set_option linter.unusedVariables false
namespace Go.Proofs.YtlnekpnopjgbfaaGreatDoor
set_option maxRecDepth 100000
def pows : List Int := [1, 10, 100, 1000, 10000, 100000, 1000000, 10000000, 100000000, 1000000000, 10000000000, 100000000000, 1000000000000, 10000000000000, 100000000000000, 1000000000000000, 10000000000000000, 100000000000000000, 1000000000000000000, 10000000000000000000]
def blanks : List Int := [0, 0, 0, 0, 0, 0, 0, 0, 0, 1, 1, 1, 1, 1, 0, 0, 0, 0, 0, 0, 0, 0, 0, 0, 0, 0, 0, 0, 0, 0, 0, 0, 1] ++ List.replicate 223 0
theorem aK_ro : aK.ro = [(0, Cont.cells (blanks.map fun z => AV.int .u8 z)), (6, Cont.cells (pows.map fun z => AV.int .u64 z))] := by kernel_rfl
theorem tPow : (Tryz.prog.globals[6]?).map (·.type) = some 323 := by kernel_rfl
theorem tSpc : (Tryz.prog.globals[0]?).map (·.type) = some 50 := by kernel_rfl
theorem laid_ro {laid : List (String × DataW Unit)} {W : World} (h : laidMet Tryz.prog laid W) {nm : String} {d : DataW Unit} (hin : (nm, d) ∈ laid) (hd : d = Lib.tabData .u64 pows) (hg : Tryz.prog.globalNamed nm = some 6)
    {nm2 : String} {d2 : DataW Unit} (hin2 : (nm2, d2) ∈ laid) (hd2 : d2 = Lib.tabData .u8 blanks) (hg2 : Tryz.prog.globalNamed nm2 = some 0) :
    ∃ E : Nat → Nat, ∀ id c, (id, c) ∈ aK.ro → BlkOK (env0 Tryz.prog) W id (.mk (E id) 0 c) := by
  subst hd hd2
  obtain ⟨e1, hb1⟩ := laid_tab_blk h hin hg tPow Tryz.underlying323 Tryz.underlying105 (by kernel_rfl) (by kernel_rfl) (by decide)
  obtain ⟨e2, hb2⟩ := laid_tab_blk h hin2 hg2 tSpc Tryz.underlying50 Tryz.underlying5 (by kernel_rfl) (by kernel_rfl) (by decide)
  refine ⟨fun id => if id = 6 then e1 else e2, fun id c hm => ?_⟩
  rw [aK_ro] at hm
  simp only [List.mem_cons, List.not_mem_nil, or_false, Prod.mk.injEq] at hm
  rcases hm with ⟨rfl, rfl⟩ | ⟨rfl, rfl⟩
  · exact hb2
  · exact hb1

theorem shellNil_walk : shellNil.Walk := by
  intro H enc base W v0 d0 p0 hL k0 t0
  obtain ⟨s, rfl⟩ := Go.WideShapes.okWide_string Tryz.underlying9 k0
  rw [MakeChecks.laidMetH_plain _ _ _ (by kernel_rfl)] at hL
  obtain ⟨E, hb⟩ := laid_ro hL (List.mem_of_getElem? (show Rows.shellNilRow.laid[4]? = some (_, _) from rfl)) (by kernel_rfl) (by kernel_rfl) (List.mem_of_getElem? (show Rows.shellNilRow.laid[2]? = some (_, _) from rfl)) (by kernel_rfl) (by kernel_rfl)
  exact shellNil_any s hb

theorem shellNilCard_holds : Rows.ShellNilCardSaid := shellNil.card shellNil_walk
end Go.Proofs.YtlnekpnopjgbfaaGreatDoor
