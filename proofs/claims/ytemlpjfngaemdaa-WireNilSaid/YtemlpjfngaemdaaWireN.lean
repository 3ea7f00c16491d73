/- The Reader's methods at nil: there is a fault, and nothing else. -/
import Derived.Test.YtemlpjfngaemdaaWireR
namespace Go.Proofs.Ytemlpjfngaemdaa
open Go.RowKit Go.Pw

set_option maxHeartbeats 400000 in
theorem rnum_nil (k : Int) (w : World) :
    Calls Try.prog 25 #[.pointer none, .int .i64 k] w fun e w' => e = .returned (.int .u64 0) ∧ w = w' := by
  go_enter Try.func25, Try.ntmps25
  go_wp2_with (go_at_call 47; refine (rspoil_nil _).mono ?_; rintro e w' ⟨rfl, rfl⟩)
  go_ret
  exact ⟨rfl, rfl⟩

set_option maxHeartbeats 400000 in
theorem rbytes_nil (k : Int) (w : World) :
    Calls Try.prog 17 #[.pointer none, .int .i64 k] w fun e w' => e = .returned (.slice none 0 0) ∧ w = w' := by
  go_enter Try.func17, Try.ntmps17
  go_wp2_with fail
  refine (rnum_nil _ _).mono ?_
  rintro e w' ⟨rfl, rfl⟩
  go_wp2_with (go_at_call 47; refine (rspoil_nil _).mono ?_; rintro e w' ⟨rfl, rfl⟩)
  go_ret
  exact ⟨rfl, rfl⟩

set_option maxHeartbeats 400000 in
theorem rflag_nil (w : World) :
    Calls Try.prog 26 #[.pointer none] w fun e w' => e = .returned (.bool false) ∧ w = w' := by
  go_enter Try.func26, Try.ntmps26
  go_wp2_with fail
  refine (rnum_nil _ _).mono ?_
  rintro e w' ⟨rfl, rfl⟩
  go_wp2_with fail
  go_ret
  exact ⟨rfl, rfl⟩

set_option maxHeartbeats 400000 in
theorem rcount_nil (k : Int) (hk : 0 ≤ k) (w : World) (hk1 : k ≤ 9223372036854775807) :
    Calls Try.prog 27 #[.pointer none, .int .i64 k] w fun e w' => e = .returned (.int .i64 0) ∧ w = w' := by
  have d0 : decide (k < 0) = false := by simp; omega
  go_enter Try.func27, Try.ntmps27
  go_wp2_with fail
  refine (rnum_nil _ _).mono ?_
  rintro e w' ⟨rfl, rfl⟩
  go_wp2_with fail
  go_ret
  exact ⟨rfl, rfl⟩

set_option maxHeartbeats 400000 in
theorem rbad_nil (w : World) :
    Calls Try.prog 28 #[.pointer none] w fun e w' => e = .returned (.bool true) ∧ w = w' := by
  go_enter Try.func28, Try.ntmps28
  go_wp2
  go_ret
  exact ⟨rfl, rfl⟩

set_option maxHeartbeats 400000 in
theorem rend_nil (w : World) :
    Calls Try.prog 30 #[.pointer none] w fun e w' => e = .returned (.bool false) ∧ w = w' := by
  go_enter Try.func30, Try.ntmps30
  go_wp2_with (go_at_call 28; refine (rbad_nil _).mono ?_; rintro e w' ⟨rfl, rfl⟩)
  go_ret
  exact ⟨rfl, rfl⟩

set_option maxHeartbeats 400000 in
theorem rleft_nil (w : World) :
    Calls Try.prog 29 #[.pointer none] w fun e w' => e = .returned (.int .i64 0) ∧ w = w' := by
  go_enter Try.func29, Try.ntmps29
  go_wp2_with (go_at_call 28; refine (rbad_nil _).mono ?_; rintro e w' ⟨rfl, rfl⟩)
  go_ret
  exact ⟨rfl, rfl⟩

set_option maxHeartbeats 400000 in
theorem rbad_at (R : Nat) (u : Value) (b : Bool) (w : World) (h : w.heap[R]? = some (.cells #[u, .bool b] 87 (0, 0))) :
    Calls Try.prog 28 #[.pointer (some ⟨R, 0, none⟩)] w fun e w' => e = .returned (.bool b) ∧ w = w' := by
  have h1 := cell_two1 h
  go_enter Try.func28, Try.ntmps28
  go_wp2
  go_ret
  exact ⟨rfl, rfl⟩

/-- Asked for less than nothing: a fault, and no bytes. -/
theorem rbytes_neg (R : Nat) (p : Value) (l : List Int) (b : Bool) (most : Int) (w : World) (h : IsR 87 R p l b w) (hl : l.length ≤ 1000000000) (hm : -9223372036854775808 ≤ most ∧ most < 0) :
    Calls Try.prog 17 #[.pointer (some ⟨R, 0, none⟩), .int .i64 most] w fun e w' => (∃ ao c, e = .returned (.slice ao 0 c)) ∧ (∃ u, w'.heap[R]? = some (.cells #[u, .bool true] 87 (0, 0))) ∧ Only w w' [R] := by
  refine (rbytes_any R p l b most w h hl (by omega)).mono ?_
  have hf : ∀ b' n len, BF b' most n len = true := fun b' n len => by simp [BF, hm.2]
  rintro e w' ⟨v, rfl, h1, _, ⟨p', _, h2⟩, h3⟩
  rw [hf] at h1 h2
  obtain ⟨ao, c, rfl⟩ := own_slice h1
  exact ⟨⟨ao, c, rfl⟩, ⟨_, h2.1⟩, h3⟩
end Go.Proofs.Ytemlpjfngaemdaa
