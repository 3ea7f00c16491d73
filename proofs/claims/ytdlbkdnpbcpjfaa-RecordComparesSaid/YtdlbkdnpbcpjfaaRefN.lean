/- The contract of Num of the reference (pawlref09) alone, for a seat that reaches no more of it. -/
import Derived.Test.YtdlbkdnpbcpjfaaRows
import Derived.Test.YtdlbkdnpbcpjfaaBase
import Derived.Deep.RegionHeld3
namespace Go.Proofs.Ytdlbkdnpbcpjfaa
open Go.RowKit Go.Pw
set_option linter.unusedVariables false

theorem Try.info5 : (Try.prog.info? 5).map (fun i => (i.zero, i.size, i.bytes)) = some (some (.int .u8 0), 1, 1) := by kernel_rfl
def be (n : Int) : Nat → List Int
  | 0 => []
  | k + 1 => (n / 256 ^ k) % 256 :: be n k

theorem be_len (n : Int) (k : Nat) : (be n k).length = k := by
  induction k with
  | zero => rfl
  | succ k ih => simp [be, ih]

theorem be_head (n : Int) (k : Nat) (hn0 : 0 ≤ n) : IntKind.u8.wrap (n / 2 ^ (8 * k)) = (n / 256 ^ k) % 256 := by
  rw [show (2 : Int) ^ (8 * k) = 256 ^ k by rw [Int.pow_mul]; rfl]
  simp [IntKind.wrap, IntKind.bits, IntKind.signed]

/-- The answer is a row of the call's own, which holds xs; nothing that was there has turned. -/
def Fresh (xs : List Int) (w : World) (e : Ending) (w' : World) : Prop :=
  ∃ v, e = .returned v ∧ w'.ownsRow 0 5 1 v xs.length (xs.map (Value.int .u8)) ∧ SoN w (.slice none 0 0) v ∧ Only w w' []

/-- A slice of bytes that is read. -/
def Rd (w : World) (v : Value) (xs : List Int) : Prop := Src w v 1 xs.length (xs.map (Value.int .u8))

theorem Rd.nil (w : World) : Rd w (.slice none 0 0) [] := ⟨none, 0, rfl, Nat.le_refl _, Nat.zero_le _, rfl, fun _ => ⟨rfl, rfl⟩, by simp⟩
theorem Rd.new {w w' : World} {v : Value} {xs : List Int} (h : Rd w v xs) (ho : Only w w' []) : Rd w' v xs := Src.off h ho (fun _ _ _ => by simp)
theorem Rd.slice {w : World} {v : Value} {xs : List Int} (h : Rd w v xs) : ∃ ao c, v = .slice ao xs.length c := by
  obtain ⟨ao, c, h, _⟩ := h
  exact ⟨ao, c, h⟩

theorem own_rd {w : World} {v : Value} {xs : List Int} (h : w.ownsRow 0 5 1 v xs.length (xs.map (Value.int .u8))) : Rd w v xs := own_src h

set_option maxHeartbeats 800000 in
theorem rfnum_any (v0 : Value) (xs : List Int) (n : Int) (k : Nat) (w : World) (h0 : Rd w v0 xs) (hl : xs.length ≤ 1000000) (hk : k ≤ 8) (hn0 : 0 ≤ n) (hn1 : n < 18446744073709551616) :
    Calls Try.prog 22 #[v0, .int .u64 n, .int .i64 k] w (Fresh (xs ++ be n k) w) := by
  obtain ⟨i0, hi, hz0, hz1, hz2⟩ := info_parts Try.info5
  obtain ⟨ao, c, rfl⟩ := h0.slice
  have h0 := Lib.hid h0
  go_enter Try.func22, Try.ntmps22
  go_wp2_with (at_builtin; refine wpList_append_src rfl _ _ 28 rfl 5 i0 (.int .u8 0) 1 1 Try.underlying28 hi hz0 hz1 hz2 rfl (by decide) (.slice none 0 0) 0 [] rfl (World.ownsRow_nil _ _ _ _) _ xs.length _ rfl h0.out (one_ints _ _) (by unfold maxLen; omega) (by omega) ?_; intro v' w2 g1 g2 g3; simp only [Nat.zero_add, List.nil_append] at g1; obtain ⟨aq, cq, rfl⟩ := own_slice g1)
  have ho2 : Only w w2 [] := Only.grown g2 (by simp [Value.ownBlock])
  clear g2
  go_loopw [7, 8] (fun vv i wr => ∃ j : Nat, i = .int .i64 ((j : Int) - 1) ∧ j ≤ k ∧ ∃ ys, wr.ownsRow 0 5 1 vv ys.length (ys.map (Value.int .u8)) ∧ SoN w (.slice none 0 0) vv ∧ Only w wr [] ∧ ys ++ be n j = xs ++ be n k ∧ ys.length ≤ 1000000 + k - j)
    (fun _ i _ => (intOf i + 1).toNat)
  case atStart => exact ⟨k, rfl, Nat.le_refl _, xs, g1, g3, ho2, rfl, by omega⟩
  case round =>
    obtain ⟨j, rfl, hj, ys, hown, hson, honly, hys, hyl⟩ := hrel
    clear g1 g3 ho2
    by_cases hj0 : j = 0
    · subst hj0
      obtain ⟨ao', cc', rfl⟩ := own_slice hown
      have Hys := Lib.hid hys
      clear hys
      go_wp2
      go_ret
      have e : ys = xs ++ be n k := by simpa [be] using Hys.out
      subst e
      exact ⟨_, rfl, hown, hson, honly⟩
    · obtain ⟨j', rfl⟩ : ∃ j', j = j' + 1 := ⟨j - 1, by omega⟩
      obtain ⟨ao', cc', rfl⟩ := own_slice hown
      have p1 : 0 ≤ 8 * (j' : Int) := by omega
      have m1 : (8 * (j' : Int)).toNat = 8 * j' := by omega
      have Hys := Lib.hid hys
      clear hys
      go_wp2_with (at_builtin; refine wpList_append_src rfl _ _ 28 rfl 5 i0 (.int .u8 0) 1 1 Try.underlying28 hi hz0 hz1 hz2 rfl (by decide) (.slice ao' ys.length cc') ys.length _ rfl (hown.alloc _) _ 1 _ rfl (src_one wr (.int .u8 (IntKind.u8.wrap (n / 2 ^ (8 * j')))) 5) (by simp [Value.oneCell']) (by unfold maxLen; omega) (by omega) ?_; intro v' w2 q1 q2 q3)
      go_roundw
      case rel =>
        refine ⟨j', rfl, by omega, ys ++ [IntKind.u8.wrap (n / 2 ^ (8 * j'))], by simpa using q1, hson.trans (q3.weaken (by simp)) honly.size, ?_, ?_, by simp; omega⟩
        · refine (honly.trans (Only.alloc wr _ [])).step (Only.grown q2 (L := (Value.slice ao' ys.length cc').ownBlock.toList) (fun k hk => by simp [hk])) (fun i hi => ?_)
          rcases hson i (by simpa using hi) with h | h
          · simp [Value.ownBlock] at h
          · exact .inr h
        · rw [← Hys.out]; simp [be, be_head n j' hn0]
      case measure => simp [intOf]

theorem rfnum4 (v0 : Value) (xs : List Int) (n : Int) (w : World) (h0 : Rd w v0 xs) (hl : xs.length ≤ 1000000) (hn0 : 0 ≤ n) (hn1 : n < 18446744073709551616) :
    Calls Try.prog 22 #[v0, .int .u64 n, .int .i64 4] w (Fresh (xs ++ be n 4) w) := rfnum_any v0 xs n 4 w h0 hl (by decide) hn0 hn1

/-- A Fresh row, its bytes under a name, its value written out. -/
theorem Fresh.name {xs : List Int} {w : World} {e : Ending} {w' : World} (h : Fresh xs w e w') : ∃ ys ao c, Hid (ys = xs) ∧ e = .returned (.slice ao ys.length c) ∧ w'.ownsRow 0 5 1 (.slice ao ys.length c) ys.length (ys.map (Value.int .u8)) ∧ SoN w (.slice none 0 0) (.slice ao ys.length c) ∧ Only w w' [] := by
  obtain ⟨v, rfl, h1, h2, h3⟩ := h
  obtain ⟨ao, c, rfl⟩ := own_slice h1
  exact ⟨xs, ao, c, rfl, rfl, h1, h2, h3⟩

theorem u64_u32 (u : Int) : IntKind.u64.wrap (IntKind.u32.wrap u) = IntKind.u32.wrap u := by simp [IntKind.wrap, IntKind.bits, IntKind.signed]; omega
theorem u32_lo (u : Int) : 0 ≤ IntKind.u32.wrap u := by simp [IntKind.wrap, IntKind.bits, IntKind.signed]; omega
theorem u32_hi (u : Int) : IntKind.u32.wrap u < 18446744073709551616 := by simp [IntKind.wrap, IntKind.bits, IntKind.signed]; omega

theorem fresh_end {xs ys : List Int} {w w1 w2 : World} {v : Value} (h : w2.ownsRow 0 5 1 v ys.length (ys.map (Value.int .u8))) (hs : SoN w1 (.slice none 0 0) v) (hz : w.heap.size ≤ w1.heap.size) (ho : Only w w2 []) (e : ys = xs) : Fresh xs w (.returned v) w2 := by
  subst e
  exact ⟨v, rfl, h, hs.weaken hz, ho⟩
theorem u64_in (n : Int) (h0 : 0 ≤ n) (h1 : n < 4294967296) : IntKind.u64.wrap n = n := by simp [IntKind.wrap, IntKind.bits, IntKind.signed]; omega

/-- The bytes of a device; of what is public of it. -/
def whoB (u d : Int) : List Int := be (IntKind.u32.wrap u) 4 ++ be (IntKind.u32.wrap d) 4
def identB (a s : List Int) : List Int := be a.length 4 ++ a ++ be s.length 4 ++ s

/-- The bytes of a Hello; of a head. -/
def helloB (a s key : List Int) (signed : Int) (has : Bool) (once : Int) : List Int :=
  identB a s ++ be key.length 4 ++ key ++ be signed 4 ++ [if has then 1 else 0] ++ if has then be once 4 else []
def headB (key : List Int) (prev n : Int) : List Int := be key.length 4 ++ key ++ be prev 4 ++ be n 4

/-- A number of four bytes. -/
def U32 (n : Int) : Prop := 0 ≤ n ∧ n < 4294967296

end Go.Proofs.Ytdlbkdnpbcpjfaa
