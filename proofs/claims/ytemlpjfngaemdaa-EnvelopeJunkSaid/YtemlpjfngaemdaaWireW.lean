/- The contracts of the Writer of layer 9 (wire): Num, Flag, Bytes, Done lay the document's bytes, for writers whose row is shorter than the bounds that each names. -/
import Derived.Test.YtemlpjfngaemdaaRows
import Derived.Test.YtemlpjfngaemdaaBase
import Derived.Test.YtemlpjfngaemdaaWireR
namespace Go.Proofs.Ytemlpjfngaemdaa
open Go.RowKit Go.Pw
set_option linter.unusedVariables false

/-- The big-endian bytes of n, k of them. -/
def be (n : Int) : Nat → List Int
  | 0 => []
  | k + 1 => (n / 256 ^ k) % 256 :: be n k

theorem be_len (n : Int) (k : Nat) : (be n k).length = k := by
  induction k with
  | zero => rfl
  | succ k ih => simp [be, ih]

theorem be_head (n : Int) (k : Nat) (hn0 : 0 ≤ n) : IntKind.u8.wrap (n / 2 ^ (8 * k)) = (n / 256 ^ k) % 256 := by
  rw [show (2 : Int) ^ (8 * k) = 256 ^ k by rw [Int.pow_mul]; rfl]
  simp [IntKind.wrap, IntKind.bits, IntKind.signed]

set_option maxHeartbeats 400000 in
theorem wnum_any (B : Nat) (v0 : Value) (xs : List Int) (n : Int) (k : Nat) (w : World) (hk : k ≤ 8) (hn0 : 0 ≤ n) (hn1 : n < 18446744073709551616) (hw : IsW 26 5 B v0 xs w) (hx : xs.length ≤ 1000000) :
    Calls Try.prog 32 #[.pointer (some ⟨B, 0, none⟩), .int .u64 n, .int .i64 k] w fun e w' => e = .returned (.pointer (some ⟨B, 0, none⟩)) ∧ ∃ v', IsW 26 5 B v' (xs ++ be n k) w' ∧ SoN w v0 v' ∧ Only w w' (B :: v0.ownBlock.toList) := by
  obtain ⟨i0, hi, hz0, hz1, hz2⟩ := info_parts Try.info5
  go_enter Try.func32, Try.ntmps32
  go_wp2
  go_loopw [7] (fun i wr => ∃ j : Nat, i = .int .i64 ((j : Int) - 1) ∧ j ≤ k ∧ ∃ v ys, IsW 26 5 B v ys wr ∧ SoN w v0 v ∧ Only w wr (B :: v0.ownBlock.toList) ∧ ys ++ be n j = xs ++ be n k ∧ ys.length ≤ 1000000 + k - j)
    (fun i _ => (intOf i + 1).toNat)
  case atStart => exact ⟨k, rfl, Nat.le_refl _, v0, xs, hw, SoN.refl _ _, Only.refl _ _, rfl, by omega⟩
  case round =>
    obtain ⟨j, rfl, hj, v, ys, ⟨hB, hown⟩, hson, honly, hys, hyl⟩ := hrel
    by_cases hj0 : j = 0
    · subst hj0
      go_wp2
      go_ret
      refine ⟨rfl, v, ?_, hson, honly⟩
      have e : ys = xs ++ be n k := by simpa [be] using hys
      subst e
      exact ⟨hB, hown⟩
    · obtain ⟨j', rfl⟩ : ∃ j', j = j' + 1 := ⟨j - 1, by omega⟩
      have hc := cell_of_one hB
      have hf := free_of_one hB
      obtain ⟨ao, cc, hv⟩ := own_slice hown
      have e1 : IntKind.i64.wrap (8 * (j' : Int)) = 8 * (j' : Int) := IntWalk.i64_in _ (by omega)
      have p1 : 0 ≤ 8 * (j' : Int) := by omega
      have m1 : (8 * (j' : Int)).toNat = 8 * j' := by omega
      have hne := own_ne hown hB (by decide)
      subst hv
      have hca : ∀ o, (wr.alloc o).cell? ⟨B, 0, none⟩ = some (.slice ao ys.length cc) := cell_al hc
      go_wp2
      go_region_law (refine step_append_src rfl (.tmp 22) (.tmp 28) 22 rfl 5 i0 (.int .u8 0) 1 1 Try.underlying22 hi hz0 hz1 hz2 rfl (by decide) _ ys.length _ (by simp [Act.eval]) (hown.alloc _).drew _ 1 _ (by simp [Act.eval]) (src_one _ _ _).drew (by simp [Value.oneCell']) (by unfold maxLen; omega) (by omega) (fun v' w' h1 h2 h3 => ?_); obtain ⟨ao', cc', rfl⟩ := own_slice h1; have hB' := grown_block h2 (show _ = some (.cells #[_] 26 (0, 0)) from (Below.heap_alloc wr _ B (Array.getElem?_eq_some_iff.1 hB).1).trans hB) hne; have hc' := cell_of_one hB'; have hf' := free_of_one hB')
      all_goals
        go_wp2
        go_roundw
        case rel =>
          obtain ⟨r1, r2, r3⟩ := isw_step (news := [IntKind.u8.wrap (n / 2 ^ (8 * j'))]) (by decide) ⟨hB, hown⟩ ((Only.alloc wr _ []).trans (Only.drew _ [])) h1 h2 h3
          exact ⟨j', rfl, by omega, _, _, r1, hson.trans r2 honly.size, honly.step r3 (own_list hson), by rw [← hys]; simp [be, be_head n j' hn0], by simp; omega⟩
        case measure => simp [intOf]

set_option maxHeartbeats 400000 in
theorem wflag_any (B : Nat) (v0 : Value) (xs : List Int) (b : Bool) (w : World) (hw : IsW 26 5 B v0 xs w) (hx : xs.length ≤ 1000000) :
    Calls Try.prog 34 #[.pointer (some ⟨B, 0, none⟩), .bool b] w fun e w' => e = .returned (.pointer (some ⟨B, 0, none⟩)) ∧ ∃ v', IsW 26 5 B v' (xs ++ [if b then 1 else 0]) w' ∧ SoN w v0 v' ∧ Only w w' (B :: v0.ownBlock.toList) := by
  cases b
  · go_enter Try.func34, Try.ntmps34
    go_wp2_with (go_at_call 32; refine (wnum_any B v0 xs 0 1 _ (by decide) (by decide) (by decide) hw hx).mono ?_; rintro e w' ⟨rfl, hq⟩)
    go_ret
    exact ⟨rfl, hq⟩
  · go_enter Try.func34, Try.ntmps34
    go_wp2_with (go_at_call 32; refine (wnum_any B v0 xs 1 1 _ (by decide) (by decide) (by decide) hw hx).mono ?_; rintro e w' ⟨rfl, hq⟩)
    go_ret
    exact ⟨rfl, hq⟩

set_option maxHeartbeats 400000 in
theorem wdone_any (B : Nat) (v0 : Value) (xs : List Int) (w : World) (hw : IsW 26 5 B v0 xs w) (hx : xs.length ≤ 1000000000) :
    Calls Try.prog 15 #[.pointer (some ⟨B, 0, none⟩)] w fun e w' => ∃ v, e = .returned v ∧ w'.ownsRow 0 5 1 v xs.length (xs.map (Value.int .u8)) ∧ SoN w (.slice none 0 0) v ∧ Only w w' [] := by
  obtain ⟨i0, hi, hz0, hz1, hz2⟩ := info_parts Try.info5
  obtain ⟨ao, c, rfl⟩ := hw.slice
  have hc := cell_of_one hw.1
  have hs := own_src hw.2
  go_enter Try.func15, Try.ntmps15
  go_wp2_with (at_builtin; refine wpList_append_src rfl _ _ 22 rfl 5 i0 (.int .u8 0) 1 1 Try.underlying22 hi hz0 hz1 hz2 rfl (by decide) (.slice none 0 0) 0 [] rfl (World.ownsRow_nil _ _ _ _) _ xs.length _ rfl hs (by simp [Value.oneCell']) (by unfold maxLen; omega) (by omega) ?_; intro v' w' h1 h2 h3; simp only [Nat.zero_add, List.nil_append] at h1; obtain ⟨ao', cc', rfl⟩ := own_slice h1)
  go_ret
  exact ⟨_, rfl, h1, h3, Only.grown h2 (by simp [Value.ownBlock])⟩

set_option maxHeartbeats 400000 in
theorem wbytes_any (B : Nat) (v0 p : Value) (xs ps : List Int) (w : World) (hw : IsW 26 5 B v0 xs w) (hx : xs.length ≤ 900000) (hp : Src w p 1 ps.length (ps.map (Value.int .u8))) (hpl : ps.length ≤ 1000000000) (ha : Off p (B :: v0.ownBlock.toList)) :
    Calls Try.prog 14 #[.pointer (some ⟨B, 0, none⟩), p] w fun e w' => e = .returned (.pointer (some ⟨B, 0, none⟩)) ∧ ∃ v', IsW 26 5 B v' (xs ++ be ps.length 4 ++ ps) w' ∧ SoN w v0 v' ∧ Only w w' (B :: v0.ownBlock.toList) := by
  obtain ⟨i0, hi, hz0, hz1, hz2⟩ := info_parts Try.info5
  obtain ⟨ao, c, rfl, _, _, _⟩ := id hp
  go_enter Try.func14, Try.ntmps14
  go_wp2_with fail
  refine (wnum_any B v0 xs ps.length 4 _ (by decide) (by omega) (by omega) hw (by omega)).mono ?_
  rintro e w1 ⟨rfl, v1, hw1, hs1, ho1⟩
  obtain ⟨ys, hys⟩ : ∃ ys, ys = xs ++ be ps.length 4 := ⟨_, rfl⟩
  rw [← hys] at hw1
  have hyl : ys.length ≤ 900004 := by rw [hys]; simp [be_len]; omega
  have Hys := Lib.hid hys
  clear hys hw hx
  have hsz := ho1.size
  have hp1 := hp.off ho1 ha
  obtain ⟨ao1, c1, hv1⟩ := hw1.slice
  obtain rfl := hv1
  have hc := cell_of_one hw1.1
  go_wp2_with (at_builtin; refine wpList_append_src rfl _ _ 22 rfl 5 i0 (.int .u8 0) 1 1 Try.underlying22 hi hz0 hz1 hz2 rfl (by decide) (.slice ao1 ys.length c1) _ _ rfl hw1.2 _ ps.length _ rfl hp1 (by simp [Value.oneCell']) (by unfold maxLen; omega) (by omega) ?_; intro v' w' h1 h2 h3; obtain ⟨ao', cc', rfl⟩ := own_slice h1; have hB' := grown_block h2 hw1.1 (own_ne hw1.2 hw1.1 (by decide)); have hc' := cell_of_one hB'; have hf' := free_of_one hB')
  obtain ⟨r1, r2, r3⟩ := isw_step (news := ps) (by decide) hw1 (Only.refl _ []) h1 h2 h3
  go_ret
  exact ⟨rfl, _, Hys.out ▸ r1, hs1.trans r2 hsz, ho1.step r3 (own_list hs1)⟩
end Go.Proofs.Ytemlpjfngaemdaa
