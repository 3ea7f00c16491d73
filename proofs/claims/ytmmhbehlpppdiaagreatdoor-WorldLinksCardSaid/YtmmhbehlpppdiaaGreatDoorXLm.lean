/- The table of powers is laid; an act that came in. -/
import Derived.Test.YtmmhbehlpppdiaaGreatDoorXB0
import Derived.Test.YtmmhbehlpppdiaaGreatDoorXSc
set_option linter.all false
open Go Go.Sx Go.Proofs Go.RowKit
namespace Go.Proofs.YtmmhbehlpppdiaaGreatDoor
set_option maxRecDepth 100000
theorem tPow : (Tryz.prog.globals[3]?).map (·.type) = some 529 := by kernel_rfl
def pows : List Int := [1, 10, 100, 1000, 10000, 100000, 1000000, 10000000, 100000000, 1000000000, 10000000000, 100000000000, 1000000000000, 10000000000000, 100000000000000, 1000000000000000, 10000000000000000, 100000000000000000, 1000000000000000000, 10000000000000000000]
theorem laid_ro {laid : List (String × DataW Unit)} {W : World} (h : laidMet Tryz.prog laid W) {nm : String} {d : DataW Unit} (hin : (nm, d) ∈ laid) (hd : d = Lib.tabData .u64 pows) (hg : Tryz.prog.globalNamed nm = some 3) :
    ∃ el, ∀ id c, (id, c) ∈ [(3, Cont.cells (pows.map fun z => AV.int .u64 z))] → BlkOK (env0 Tryz.prog) W id (.mk el 0 c) := by
  subst hd
  obtain ⟨el, hb⟩ := laid_tab_blk h hin hg tPow Tryz.underlying529 Tryz.underlying68 (by kernel_rfl) (by kernel_rfl) (by decide)
  refine ⟨el, fun id c hm => ?_⟩
  simp only [List.mem_singleton, Prod.mk.injEq] at hm
  obtain ⟨rfl, rfl⟩ := hm
  exact hb
end Go.Proofs.YtmmhbehlpppdiaaGreatDoor
