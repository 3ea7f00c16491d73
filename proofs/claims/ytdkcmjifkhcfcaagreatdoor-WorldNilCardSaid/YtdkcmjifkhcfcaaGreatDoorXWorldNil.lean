/- WorldNil: the tied card of the law. No condition beyond the row's own. -/
import Derived.Test.YtdkcmjifkhcfcaaGreatDoorXLm
import Derived.Test.YtdkcmjifkhcfcaaGreatDoorXW24
import Derived.Test.YtdkcmjifkhcfcaaGreatDoorTWorldNil
set_option linter.all false
open Go Go.Sx Go.Proofs Go.RowKit
set_option linter.unusedVariables false
namespace Go.Proofs.YtdkcmjifkhcfcaaGreatDoor
set_option maxRecDepth 100000
theorem ro_a : a7.ro = [(3, Cont.cells (pows.map fun z => AV.int .u64 z))] := by kernel_rfl
theorem worldNil_walk : worldNil.Walk := by
  intro H enc base W v0 v1 v2 d0 p0 d1 p1 d2 p2 hL k0 t0 k1 t1 k2 t2
  obtain ⟨n, rfl⟩ := Go.WideShapes.okWide_int Tryz.underlying5 k0
  obtain ⟨n', he, hw⟩ := reads_int Tryz.underlying5 (reads_of t0)
  obtain rfl : n = n' := by simpa [Value.cells] using he
  have h0 : 0 ≤ n := by
    simp [Lit.wf, IntKind.min, IntKind.max, IntKind.signed, IntKind.bits] at hw
    omega
  obtain ⟨m, rfl⟩ := Int.eq_ofNat_of_zero_le h0
  obtain ⟨x0, x1, x2, x3, x4, a5, n5, c5, rfl⟩ := open31 k1 t1
  obtain ⟨i, rfl⟩ := Go.WideShapes.okWide_int Tryz.underlying3 k2
  rw [MakeChecks.laidMetH_plain _ _ _ (by kernel_rfl)] at hL
  obtain ⟨el, hb⟩ := laid_ro hL (List.mem_of_getElem? (show Rows.worldNilRow.laid[2]? = some (_, _) from rfl)) (by kernel_rfl) (by kernel_rfl)
  exact worldNil_any x0 x1 x2 x3 x4 a5 n5 c5 i (fun _ => el) (by rw [ro_a]; exact hb) m

theorem worldNilCard_holds : Rows.WorldNilCardSaid := worldNil.card worldNil_walk
end Go.Proofs.YtdkcmjifkhcfcaaGreatDoor
