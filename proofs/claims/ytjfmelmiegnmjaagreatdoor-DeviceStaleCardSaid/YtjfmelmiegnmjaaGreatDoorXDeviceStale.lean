/- DeviceStale: the tied card of the law. No condition beyond the row's own. -/
import Derived.Test.YtjfmelmiegnmjaaGreatDoorXStDStale
import Derived.Test.YtjfmelmiegnmjaaGreatDoorTDeviceStale
set_option linter.all false
open Go Go.Sx Go.Proofs Go.RowKit
set_option linter.unusedVariables false
namespace Go.Proofs.YtjfmelmiegnmjaaGreatDoor
set_option maxRecDepth 100000
theorem u8_in {H : Type} {enc : TypeId × Value → H} {base : Nat} {W : World} {v : Value} {d : DataW H} {p : List MemPlace} (k0 : Value.okWide Tryz.prog W .any base 5 v) (t0 : DataW.Trod enc Tryz.prog W 0 (fun _ => true) true 5 v d p) : ∃ m : Nat, m < 256 ∧ v = .int .u8 m := by
  obtain ⟨n, rfl⟩ := Go.WideShapes.okWide_int Tryz.underlying5 k0
  obtain ⟨n', he, hw⟩ := reads_int Tryz.underlying5 (reads_of t0)
  obtain rfl : n = n' := by simpa [Value.cells] using he
  have h0 : 0 ≤ n ∧ n < 256 := by
    simp [Lit.wf, IntKind.min, IntKind.max, IntKind.signed, IntKind.bits] at hw
    omega
  obtain ⟨m, rfl⟩ := Int.eq_ofNat_of_zero_le h0.1
  exact ⟨m, by have := h0.2; omega, rfl⟩
theorem f64_in {H : Type} {enc : TypeId × Value → H} {base : Nat} {W : World} {v : Value} {d : DataW H} {p : List MemPlace} (k0 : Value.okWide Tryz.prog W .any base 47 v) (t0 : DataW.Trod enc Tryz.prog W 0 (fun _ => true) true 47 v d p) : ∃ x : Nat, v = .float .f64 x := by
  obtain ⟨n, rfl⟩ := Go.ChangeShapes.okWide_float Tryz.underlying47 k0
  exact ⟨n, rfl⟩
theorem deviceStale_walk : deviceStale.Walk := by
  intro H enc base W v0 v1 v2 d0 p0 d1 p1 d2 p2 hL k0 t0 k1 t1 k2 t2
  obtain ⟨n, hn, rfl⟩ := u8_in k0 t0
  obtain ⟨now, rfl⟩ := f64_in k1 t1
  obtain ⟨later, rfl⟩ := f64_in k2 t2
  rw [MakeChecks.laidMetH_plain _ _ _ (by kernel_rfl)] at hL
  obtain ⟨E, hb⟩ := laid_ro hL (List.mem_of_getElem? (show Rows.deviceStaleRow.laid[4]? = some (_, _) from rfl)) (List.mem_of_getElem? (show Rows.deviceStaleRow.laid[3]? = some (_, _) from rfl)) (List.mem_of_getElem? (show Rows.deviceStaleRow.laid[2]? = some (_, _) from rfl)) (by kernel_rfl) (by kernel_rfl) (by kernel_rfl) (by kernel_rfl) (by kernel_rfl) (by kernel_rfl)
  exact deviceStale_any (E := E) hb n now later hn

theorem deviceStaleCard_holds : Rows.DeviceStaleCardSaid := deviceStale.card deviceStale_walk
end Go.Proofs.YtjfmelmiegnmjaaGreatDoor
