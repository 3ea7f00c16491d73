/- MailboxLong returns true for every length that it takes: an envelope that is too long is refused, and takes no number. No condition. -/
import Derived.Test.YtjopgcbfahlmnaaBoxA
import Derived.Test.YtjopgcbfahlmnaaSMailboxLong
namespace Go.Proofs.Ytjopgcbfahlmnaa
open Go.RowKit Go.Pw
set_option linter.unusedVariables false

theorem run_make_bytes (w : World) (k : Nat) (hk : k ≤ 1000000) :
    ∃ w', (Instr.makeSlice 23 (.int .i64 (k : Int)) (.int .i64 (k : Int))).run Try.prog w = .ok (.slice (some ⟨w.heap.size, 0, none⟩) k k) w' ∧ Src w' (.slice (some ⟨w.heap.size, 0, none⟩) k k) 1 k (((List.replicate k (0 : Int))).map (.int .u8)) ∧ Only w w' [] := by
  obtain ⟨i0, hi, hz0, hz1, hz2⟩ := info_parts Try.info5
  obtain ⟨w', h1, h2, h3⟩ := run_make_full (P := Try.prog) w 0 23 5 i0 (.int .u8 0) 1 Try.underlying23 hi hz0 hz1 .i64 .i64 k (by rw [hz2]; omega) (by unfold maxLen; omega) (Nat.zero_le _)
  refine ⟨w', h1, ?_, Only.grown h3 (by simp)⟩
  have := own_src h2
  rw [show (Value.int .u8 0).cells = #[Value.int .u8 0] from rfl, Nat.mul_one, toList_madeCells_one] at this
  simpa using this

set_option maxRecDepth 100000 in
set_option maxHeartbeats 1600000 in
theorem long_walk (y : Int) (w : World) (h0 : 0 ≤ y) (h1 : y < 256) :
    Calls Try.prog 4 #[.int .u8 y] w fun e w' => e = .returned (.bool true) ∧ Below w.heap.size w w' := by
  obtain ⟨k, hk⟩ : ∃ k : Nat, 65530 + y % 13 = k := ⟨(65530 + y % 13).toNat, by omega⟩
  have hkl : k ≤ 65542 := by omega
  have s1 := box_new (Sep.nil w)
  obtain ⟨W, hm1, hm2, hm3⟩ := run_make_bytes (w.alloc (.cells #[.slice none 0 0, .int .u64 0] 31)) k (by omega)
  simp only [World.size_alloc] at hm1 hm2
  have s2 := s1.quiet hm3
  clear hm3
  by_cases hkk : k ≤ 65536
  · have d1 : decide ((k : Int) ≤ 65536) = true := by simp; omega
    go_enter Try.func4, Try.ntmps4
    go_wp2_with fail
    refine (put_ok w.heap.size _ [] 0 _ (List.replicate k 0) _ s2 (by simp) (by decide) (by simpa using hm2) (fun j hj => by simp [Value.ownBlock] at hj; omega) (by simp; omega)).mono ?_
    rintro e w1 ⟨rfl, v1, x1, hx1, t1⟩
    clear hm1 hm2 s1 s2
    go_wp2_with fail
    refine (awake18 _).mono ?_
    rintro e w2 ⟨rfl, ho2⟩
    have t2 := t1.quiet ho2
    go_wp2_with fail
    go_ret
    exact ⟨rfl, t2.only.below (Nat.le_refl _) (by simp)⟩
  · have d1 : decide ((k : Int) ≤ 65536) = false := by simp; omega
    go_enter Try.func4, Try.ntmps4
    go_wp2_with fail
    refine (put_long w.heap.size _ k _ _ (by omega)).mono ?_
    rintro e w1 ⟨rfl, rfl⟩
    clear hm1 hm2 s1
    go_wp2_with fail
    refine (awake18 _).mono ?_
    rintro e w2 ⟨rfl, ho2⟩
    have t2 := s2.quiet ho2
    go_wp2_with (first | (go_at_call 11; refine (len_any w.heap.size _ [] 0 _ t2).mono ?_; rintro e w' ⟨rfl, rfl⟩) | (go_at_call 13; refine (last_any w.heap.size _ [] 0 _ t2).mono ?_; rintro e w' ⟨rfl, rfl⟩))
    go_ret
    exact ⟨rfl, t2.only.below (Nat.le_refl _) (by simp)⟩

theorem mailboxLong_holds : Rows.MailboxLongSaid := mailboxLong.said fun H enc base W v0 d0 p0 h0 t0 => by
  obtain ⟨y, rfl, _, _, hw⟩ := Go.ChangeShapes.open_int Try.underlying5 h0 t0
  simp [Lit.wf, IntKind.min, IntKind.max, IntKind.signed, IntKind.bits] at hw
  exact long_walk y W (by omega) (by omega)

end Go.Proofs.Ytjopgcbfahlmnaa
