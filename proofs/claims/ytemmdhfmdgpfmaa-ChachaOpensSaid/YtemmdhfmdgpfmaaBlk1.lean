/- Layer 5 (chacha): words of four bytes; the block's plain form. -/
import Derived.Test.YtemmdhfmdgpfmaaCha2
import Derived.Test.YtemmdhfmdgpfmaaTag5
namespace Go.Proofs.Ytemmdhfmdgpfmaa
open Go.RowKit Go.Pw
set_option linter.unusedVariables false

/-- Four bytes as a number. -/
def wd (l : List Int) (i : Nat) : Int := gtI l i + gtI l (i + 1) * 256 + gtI l (i + 2) * 65536 + gtI l (i + 3) * 16777216
def wj (l : List Int) (i : Nat) : Nat → Int
  | 0 => 0
  | k + 1 => wj l i k * 256 + gtI l (i + (3 - k))
theorem wj_wd (l : List Int) (i : Nat) : wj l i 4 = wd l i := by
  simp only [wj, wd, Nat.sub_zero, Nat.sub_self, Nat.add_zero, show 3 - 1 = 2 from rfl, show 3 - 2 = 1 from rfl]
  omega
theorem wd_bd {l : List Int} {i : Nat} (h : ∀ x ∈ l, 0 ≤ x ∧ x < 256) (hi : i + 4 ≤ l.length) : W32 (wd l i) := by
  have h0 := h _ (gtI_mem (l := l) (k := i) (by omega))
  have h1 := h _ (gtI_mem (l := l) (k := i + 1) (by omega))
  have h2 := h _ (gtI_mem (l := l) (k := i + 2) (by omega))
  have h3 := h _ (gtI_mem (l := l) (k := i + 3) (by omega))
  unfold W32 wd
  omega
theorem or32 (x y : Int) (s : Nat) (hx : 0 ≤ x ∧ x < 2 ^ s) (hy : 0 ≤ y) (h1 : y * 2 ^ s + x < 4294967296) : bits .or .u32 x (y * 2 ^ s) = y * 2 ^ s + x := by
  obtain ⟨n, rfl⟩ := Int.eq_ofNat_of_zero_le hx.1
  obtain ⟨m, rfl⟩ := Int.eq_ofNat_of_zero_le hy
  have h2 : (n : Int) < ((2 ^ s : Nat) : Int) := by rw [Int.natCast_pow]; exact hx.2
  have hm : (0 : Int) ≤ (m : Int) * 2 ^ s := Int.mul_nonneg (by omega) (Int.pow_nonneg (by decide))
  rw [u32_or _ _ (by omega) (by omega) hm (by omega)]
  have e : ((m : Int) * 2 ^ s).toNat = m * 2 ^ s := by
    have : ((m : Int) * 2 ^ s) = ((m * 2 ^ s : Nat) : Int) := by rw [Int.natCast_mul, Int.natCast_pow]; rfl
    rw [this, Int.toNat_natCast]
  rw [e, Int.toNat_natCast, Nat.or_comm, Nat.mul_comm m (2 ^ s), ← Nat.two_pow_add_eq_or_of_lt (by omega)]
  rw [Int.natCast_add, Int.natCast_mul, Int.natCast_pow, Int.mul_comm]
  rfl

set_option maxRecDepth 100000 in
set_option maxHeartbeats 1600000 in
theorem word_any (p : Value) (xs : List Int) (w : World) (hp : Src w p 1 xs.length (xs.map (Value.int .u8))) (hb : ∀ x ∈ xs, 0 ≤ x ∧ x < 256) (hl : 4 ≤ xs.length) :
    Calls Try.prog 28 #[p] w fun e w' => e = .returned (.int .u32 (wd xs 0)) ∧ Only w w' [] := by
  obtain ⟨ao, cp, rfl, _⟩ := id hp
  obtain ⟨b, o, rfl, hc⟩ := src_at hp (show 0 < xs.length by omega)
  have h0 := hb _ (gtI_mem (l := xs) (k := 0) (by omega))
  have h1 := hb _ (gtI_mem (l := xs) (k := 1) (by omega))
  have h2 := hb _ (gtI_mem (l := xs) (k := 2) (by omega))
  have h3 := hb _ (gtI_mem (l := xs) (k := 3) (by omega))
  have c0 : w.cell? ⟨b, o, none⟩ = _ := hc 0 (.int .u8 (gtI xs 0)) (by rw [List.getElem?_map, List.getElem?_eq_getElem (by omega), gtI_get (by omega)]; rfl)
  have c1 := hc 1 (.int .u8 (gtI xs 1)) (by rw [List.getElem?_map, List.getElem?_eq_getElem (by omega), gtI_get (by omega)]; rfl)
  have c2 := hc 2 (.int .u8 (gtI xs 2)) (by rw [List.getElem?_map, List.getElem?_eq_getElem (by omega), gtI_get (by omega)]; rfl)
  have c3 := hc 3 (.int .u8 (gtI xs 3)) (by rw [List.getElem?_map, List.getElem?_eq_getElem (by omega), gtI_get (by omega)]; rfl)
  have hw : Hid (wd xs 0 = gtI xs 0 + gtI xs 1 * 256 + gtI xs 2 * 65536 + gtI xs 3 * 16777216) := rfl
  generalize gtI xs 0 = x0 at *
  generalize gtI xs 1 = x1 at *
  generalize gtI xs 2 = x2 at *
  generalize gtI xs 3 = x3 at *
  have o1 : bits .or .u32 x0 (x1 * 256) = x1 * 256 + x0 := or32 x0 x1 8 (by omega) h1.1 (by omega)
  have o2 : bits .or .u32 (x1 * 256 + x0) (x2 * 65536) = x2 * 65536 + (x1 * 256 + x0) := or32 _ x2 16 (by omega) h2.1 (by omega)
  have o3 : bits .or .u32 (x2 * 65536 + (x1 * 256 + x0)) (x3 * 16777216) = x3 * 16777216 + (x2 * 65536 + (x1 * 256 + x0)) := or32 _ x3 24 (by omega) h3.1 (by omega)
  have l0 : (0 : Int) < (xs.length : Int) := by omega
  have l1 : (1 : Int) < (xs.length : Int) := by omega
  have l2 : (2 : Int) < (xs.length : Int) := by omega
  have l3 : (3 : Int) < (xs.length : Int) := by omega
  clear hc hp
  go_enter Try.func28, Try.ntmps28
  go_wp2_with fail
  go_quiet (fail)
  go_wp2_with fail
  go_ret
  have e : x3 * 16777216 + (x2 * 65536 + (x1 * 256 + x0)) = x0 + x1 * 256 + x2 * 65536 + x3 * 16777216 := by omega
  rw [hw.out, ← e]
  exact ⟨rfl, Only.drewN _ _ _⟩

theorem wj_bd {l : List Int} (h : ∀ x ∈ l, 0 ≤ x ∧ x < 256) {i : Nat} (hi : i + 4 ≤ l.length) : ∀ k, k ≤ 4 → 0 ≤ wj l i k ∧ wj l i k < 256 ^ k
  | 0, _ => ⟨Int.le_refl _, by show (0 : Int) < 256 ^ 0; decide⟩
  | k + 1, hk => by
    have := wj_bd h hi k (by omega)
    have hx := h _ (gtI_mem (l := l) (k := i + (3 - k)) (by omega))
    simp only [wj, Int.pow_succ]
    omega

set_option maxRecDepth 100000 in
set_option maxHeartbeats 1600000 in
theorem rword_any (p : Value) (xs : List Int) (a : Nat) (w : World) (hp : Src w p 1 xs.length (xs.map (Value.int .u8))) (hb : ∀ x ∈ xs, 0 ≤ x ∧ x < 256) (hl : a + 4 ≤ xs.length) (ha : a ≤ 1000000) :
    Calls Try.prog 30 #[p, .int .i64 a] w fun e w' => e = .returned (.int .u32 (wd xs a)) ∧ Only w w' [] := by
  obtain ⟨ao, cp, rfl, _⟩ := id hp
  go_enter Try.func30, Try.ntmps30
  go_wp2_with fail
  go_loopw [5, 6] (fun u5 u6 wr => ∃ k : Nat, k ≤ 4 ∧ u5 = .int .u32 (wj xs a k) ∧ u6 = .int .i64 (3 - (k : Int)) ∧ Only w wr []) (fun _ u6 _ => (intOf u6 + 1).toNat)
  case atStart => exact ⟨0, by omega, rfl, rfl, Only.refl _ _⟩
  case round =>
    obtain ⟨k, hk, rfl, rfl, ho⟩ := hrel
    by_cases hk4 : k < 4
    · obtain ⟨b, o, rfl, hc⟩ := src_at (hp.off ho (fun _ _ _ => by simp)) (show a < xs.length by omega)
      have hj : a + (3 - k) < xs.length := by omega
      have c0 := hc (a + (3 - k)) (.int .u8 (gtI xs (a + (3 - k)))) (by rw [List.getElem?_map, List.getElem?_eq_getElem hj, gtI_get hj]; rfl)
      have hx := hb _ (gtI_mem hj)
      have h1 := wj_bd hb hl k hk
      have h2 := wj_bd hb hl (k + 1) hk4
      have hpw : (256 : Int) ^ (k + 1) ≤ 4294967296 := by
        rcases (by omega : k = 0 ∨ k = 1 ∨ k = 2 ∨ k = 3) with rfl | rfl | rfl | rfl <;> decide
      have e1 : wj xs a (k + 1) = wj xs a k * 256 + gtI xs (a + (3 - k)) := rfl
      have i0 : (0 : Int) ≤ (a : Int) + (3 - (k : Int)) := by omega
      have i1 : (a : Int) + (3 - (k : Int)) < xs.length := by omega
      have i2 : ((a : Int) + (3 - (k : Int))).toNat = a + (3 - k) := by omega
      have i3 : IntKind.i64.wrap ((a : Int) + (3 - (k : Int))) = (a : Int) + (3 - (k : Int)) := IntWalk.i64_in _ (by omega)
      have i4 : (0 : Int) ≤ 3 - (k : Int) := by omega
      have n1 : IntKind.u32.wrap (wj xs a k * 256) = wj xs a k * 256 := by simp [IntKind.wrap, IntKind.bits, IntKind.signed]; omega
      have n2 : IntKind.u32.wrap (wj xs a k * 256 + gtI xs (a + (3 - k))) = wj xs a (k + 1) := by simp [IntKind.wrap, IntKind.bits, IntKind.signed]; omega
      obtain ⟨z, hz⟩ : ∃ z, z = wj xs a (k + 1) := ⟨_, rfl⟩
      rw [← hz] at n2 h2 e1
      have HZ := Lib.hid hz
      clear hz
      generalize wj xs a k = y at *
      generalize gtI xs (a + (3 - k)) = x at *
      clear e1 hpw hc
      go_wp2_with fail
      exact ⟨⟨k + 1, by omega, by rw [HZ.out], by simp; omega, ho⟩, by simp [intOf]; omega⟩
    · obtain rfl : k = 4 := by omega
      rw [wj_wd]
      go_wp2_with fail
      go_ret
      exact ⟨rfl, ho⟩
end Go.Proofs.Ytemmdhfmdgpfmaa
