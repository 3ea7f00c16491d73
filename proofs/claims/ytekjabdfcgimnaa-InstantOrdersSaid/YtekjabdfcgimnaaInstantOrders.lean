/- InstantOrders returns true for every two floats: how they stand to one another is as the reference says. No condition. -/
import Derived.Test.YtekjabdfcgimnaaInst3
import Derived.Test.YtekjabdfcgimnaaOpenS
import Derived.Test.YtekjabdfcgimnaaSInstantOrders
namespace Go.Proofs.Ytekjabdfcgimnaa
open Go.RowKit Go.Pw Go.Pw.Fl

theorem f64_wf1 {b : Nat} (h : (Lit.float .f64 b).wf = true) : b < 18446744073709551616 := by simpa [Lit.wf] using h

set_option maxRecDepth 100000 in
set_option maxHeartbeats 800000 in
theorem orders_walk (a b : Nat) (ha : a < 18446744073709551616) (hb : b < 18446744073709551616) (w : World) :
    Calls Try.prog 5 #[.float .f64 a, .float .f64 b] w fun e w' => e = .returned (.bool true) ∧ Below w.heap.size w w' := by
  have h1 := before_any a b ha hb
  have h2 := ahead_any a b ha hb
  have h3 := same_any a b ha hb
  have h4 := rsame_any a b ha hb
  have hp : ∃ p, p = decide (kKey a < kKey b) := ⟨_, rfl⟩
  obtain ⟨p, hp⟩ := hp
  have hq : ∃ q, q = decide (kKey a = kKey b) := ⟨_, rfl⟩
  obtain ⟨q, hq⟩ := hq
  rw [← hp] at h1 h2
  rw [← hq] at h3 h4
  have hpp : (decide (kKey a < kKey b) == p) = true := by rw [hp]; simp
  have H1 := Lib.hid h1
  have H2 := Lib.hid h2
  have H3 := Lib.hid h3
  have H4 := Lib.hid h4
  have H5 := Lib.hid (key_any a ha)
  have H6 := Lib.hid (rkey_any a ha)
  have H7 := Lib.hid (key_any b hb)
  generalize kKey a = ka at *
  generalize kKey b = kb at *
  clear h1 h2 h3 h4 hp hq ha hb
  go_enter Try.func5, Try.ntmps5
  go_wp2_with fail
  refine (awake1 _).mono ?_
  rintro e w1 ⟨rfl, h1⟩
  go_wp2_with fail
  refine (H1.out _).mono ?_
  rintro e w' ⟨rfl, rfl⟩
  go_wp2_with fail
  refine (H2.out _).mono ?_
  rintro e w' ⟨rfl, rfl⟩
  go_wp2_with fail
  refine (H3.out _).mono ?_
  rintro e w' ⟨rfl, rfl⟩
  go_wp2_with fail
  refine (H4.out _).mono ?_
  rintro e w' ⟨rfl, rfl⟩
  go_wp2_with fail
  refine (H5.out _).mono ?_
  rintro e w' ⟨rfl, rfl⟩
  go_wp2_with fail
  refine (H6.out _).mono ?_
  rintro e w' ⟨rfl, rfl⟩
  go_wp2_with fail
  refine (H5.out _).mono ?_
  rintro e w' ⟨rfl, rfl⟩
  go_wp2_with fail
  refine (H7.out _).mono ?_
  rintro e w' ⟨rfl, rfl⟩
  go_wp2_with fail
  refine (H2.out _).mono ?_
  rintro e w' ⟨rfl, rfl⟩
  go_wp2_with fail
  go_ret
  exact ⟨rfl, h1.below (Nat.le_refl _) (by simp)⟩

theorem instantOrders_holds : Rows.InstantOrdersSaid := instantOrders.said fun H enc base W v0 v1 d0 p0 d1 p1 h0 h1 h2 h3 => by
  obtain ⟨a, rfl, _, _, wa⟩ := Go.ChangeShapes.open_float Try.underlying22 h0 h1
  obtain ⟨b, rfl, _, _, wb⟩ := Go.ChangeShapes.open_float Try.underlying22 h2 h3
  exact orders_walk a b (f64_wf1 wa) (f64_wf1 wb) W
end Go.Proofs.Ytekjabdfcgimnaa
