/- Plain laws on numbers in parts: values of lists of digits, in any base. No program. -/
import Derived.Test.YtemmdhfmdgpfmaaSep
import Derived.Laws.BitsAllLaws
namespace Go.Pw
open Go.RowKit
set_option linter.unusedVariables false

/-- The number that digits are, the lowest first. -/
def lv (B : Int) : List Int → Int
  | [] => 0
  | x :: l => x + B * lv B l
theorem lv_app (B : Int) (l m : List Int) : lv B (l ++ m) = lv B l + B ^ l.length * lv B m := by
  induction l with
  | nil => simp [lv]
  | cons x l ih =>
    simp only [List.cons_append, lv, List.length_cons]
    rw [ih, Int.mul_add, Int.pow_succ, ← Int.mul_assoc, ← Int.add_assoc, Int.mul_comm B (B ^ l.length)]
theorem lv_snoc (B : Int) (l : List Int) (x : Int) : lv B (l ++ [x]) = lv B l + B ^ l.length * x := by
  rw [lv_app]; simp [lv]
def gtI (l : List Int) (i : Nat) : Int := l.getD i 0
theorem gtI_get {l : List Int} {k : Nat} (h : k < l.length) : gtI l k = l[k] := by simp [gtI, List.getD_eq_getElem?_getD, List.getElem?_eq_getElem h]
theorem gtI_set_same {l : List Int} {k : Nat} (h : k < l.length) (x : Int) : gtI (l.set k x) k = x := by
  rw [gtI_get (by simpa using h)]; simp
theorem gtI_set_ne {l : List Int} {i k : Nat} (h : i ≠ k) (x : Int) : gtI (l.set i x) k = gtI l k := by
  simp [gtI, List.getD_eq_getElem?_getD, List.getElem?_set_ne h]
theorem take_succ_gt {l : List Int} {k : Nat} (h : k < l.length) : l.take (k + 1) = l.take k ++ [gtI l k] := by
  rw [List.take_succ_eq_append_getElem h, gtI_get h]
theorem lv_take_succ (B : Int) {l : List Int} {k : Nat} (h : k < l.length) : lv B (l.take (k + 1)) = lv B (l.take k) + B ^ k * gtI l k := by
  rw [take_succ_gt h, lv_snoc, List.length_take, Nat.min_eq_left (by omega)]
theorem lv_set (B : Int) {l : List Int} {k : Nat} (h : k < l.length) (x : Int) : lv B (l.set k x) = lv B l + B ^ k * (x - gtI l k) := by
  induction l generalizing k with
  | nil => simp at h
  | cons y l ih =>
    cases k with
    | zero => simp [lv, gtI]; omega
    | succ k =>
      have h' : k < l.length := by simpa using h
      simp only [List.set_cons_succ, lv]
      rw [ih h', Int.mul_add, Int.pow_succ, show gtI (y :: l) (k + 1) = gtI l k by simp [gtI], ← Int.mul_assoc, Int.mul_comm B (B ^ k), ← Int.add_assoc]
theorem lv_nonneg {B : Int} (hB : 0 ≤ B) : ∀ (l : List Int), (∀ x ∈ l, 0 ≤ x) → 0 ≤ lv B l
  | [], _ => Int.le_refl _
  | x :: l, h => by
    have h1 := h x (by simp)
    have h2 := Int.mul_nonneg hB (lv_nonneg hB l fun y hy => h y (by simp [hy]))
    simp only [lv]; omega
theorem lv_lt {B : Int} (hB : 0 < B) : ∀ (l : List Int), (∀ x ∈ l, 0 ≤ x ∧ x < B) → lv B l < B ^ l.length
  | [], _ => by simp [lv]
  | x :: l, h => by
    have h1 := h x (by simp)
    have h2 := lv_lt hB l fun y hy => h y (by simp [hy])
    simp only [lv, List.length_cons, Int.pow_succ]
    have : B * (lv B l + 1) ≤ B * B ^ l.length := Int.mul_le_mul_of_nonneg_left (by omega) (by omega)
    rw [Int.mul_add, Int.mul_one] at this
    rw [Int.mul_comm (B ^ l.length) B]
    omega
theorem lv_zeros (B : Int) (n : Nat) : lv B (List.replicate n 0) = 0 := by
  induction n with
  | zero => rfl
  | succ n ih => simp [List.replicate_succ, lv, ih]

/-- The lowest digits of a number. -/
def dg (B n : Int) : Nat → List Int
  | 0 => []
  | k + 1 => n % B :: dg B (n / B) k
theorem dg_len (B n : Int) (k : Nat) : (dg B n k).length = k := by
  induction k generalizing n with
  | zero => rfl
  | succ k ih => simp [dg, ih]
theorem dg_lv {B : Int} (hB : 0 < B) : ∀ (l : List Int), (∀ x ∈ l, 0 ≤ x ∧ x < B) → dg B (lv B l) l.length = l
  | [], _ => rfl
  | x :: l, h => by
    have h1 := h x (by simp)
    have e1 : (x + B * lv B l) % B = x := by rw [Int.add_mul_emod_self_left, Int.emod_eq_of_lt h1.1 h1.2]
    have e2 : (x + B * lv B l) / B = lv B l := by rw [Int.add_mul_ediv_left _ _ (by omega), Int.ediv_eq_zero_of_lt h1.1 h1.2, Int.zero_add]
    simp only [List.length_cons, dg, lv]
    rw [e1, e2, dg_lv hB l fun y hy => h y (by simp [hy])]
theorem lv_dg {B : Int} (hB : 0 < B) (n : Int) (k : Nat) : lv B (dg B n k) = n % B ^ k := by
  induction k generalizing n with
  | zero => simp [dg, lv, Int.emod_one]
  | succ k ih =>
    simp only [dg, lv]
    rw [ih, Int.pow_succ, Int.mul_comm (B ^ k) B]
    have h1 := Int.mul_ediv_add_emod n B
    have h2 := Int.mul_ediv_add_emod (n / B) (B ^ k)
    have hp : (0 : Int) < B ^ k := Int.pow_pos hB
    have h3 : 0 ≤ n / B % B ^ k ∧ n / B % B ^ k < B ^ k := ⟨Int.emod_nonneg _ (by omega), Int.emod_lt_of_pos _ hp⟩
    have h4 : 0 ≤ n % B ∧ n % B < B := ⟨Int.emod_nonneg _ (by omega), Int.emod_lt_of_pos _ hB⟩
    have e : n = (n % B + B * (n / B % B ^ k)) + B * B ^ k * (n / B / B ^ k) := by
      rw [Int.mul_assoc, Int.add_assoc, ← Int.mul_add]
      rw [show n / B % B ^ k + B ^ k * (n / B / B ^ k) = n / B by omega]
      omega
    have hlt : n % B + B * (n / B % B ^ k) < B * B ^ k := by
      have : B * (n / B % B ^ k + 1) ≤ B * B ^ k := Int.mul_le_mul_of_nonneg_left (by omega) (by omega)
      rw [Int.mul_add, Int.mul_one] at this
      omega
    have hge : 0 ≤ n % B + B * (n / B % B ^ k) := by
      have := Int.mul_nonneg (show 0 ≤ B by omega) h3.1
      omega
    conv => rhs; rw [e]
    rw [Int.add_mul_emod_self_left, Int.emod_eq_of_lt hge hlt]
theorem dg_bd {B : Int} (hB : 0 < B) (n : Int) (k : Nat) : ∀ x ∈ dg B n k, 0 ≤ x ∧ x < B := by
  induction k generalizing n with
  | zero => simp [dg]
  | succ k ih =>
    intro x hx
    rcases List.mem_cons.1 hx with rfl | hx
    · exact ⟨Int.emod_nonneg _ (by omega), Int.emod_lt_of_pos _ hB⟩
    · exact ih _ x hx

/-- Masks. -/
theorem msk64 (x : Int) (j : Nat) (h0 : 0 ≤ x) (h1 : x < 18446744073709551616) (hj : j ≤ 64) : bits .and .u64 x ((2 ^ j - 1 : Nat) : Int) = x % ((2 ^ j : Nat) : Int) := by
  obtain ⟨n, rfl⟩ := Int.eq_ofNat_of_zero_le h0
  have hp : 2 ^ j ≤ 2 ^ 64 := Nat.pow_le_pow_right (by decide) hj
  have hq : 0 < 2 ^ j := Nat.pow_pos (by decide)
  have h64 : 2 ^ 64 = 18446744073709551616 := by decide
  rw [u64_and _ _ (by omega) (by omega) (by omega) (by omega)]
  simp only [Int.toNat_natCast]
  rw [Nat.and_two_pow_sub_one_eq_mod]
  exact Int.natCast_emod _ _
theorem or64 (x y : Int) (s : Nat) (hx : 0 ≤ x ∧ x < 2 ^ s) (hy : 0 ≤ y) (h1 : y * 2 ^ s + x < 18446744073709551616) : bits .or .u64 x (y * 2 ^ s) = y * 2 ^ s + x := by
  obtain ⟨n, rfl⟩ := Int.eq_ofNat_of_zero_le hx.1
  obtain ⟨m, rfl⟩ := Int.eq_ofNat_of_zero_le hy
  have h2 : (n : Int) < ((2 ^ s : Nat) : Int) := by rw [Int.natCast_pow]; exact hx.2
  have hm : (0 : Int) ≤ (m : Int) * 2 ^ s := Int.mul_nonneg (by omega) (Int.pow_nonneg (by decide))
  rw [u64_or _ _ (by omega) (by omega) hm (by omega)]
  have e : ((m : Int) * 2 ^ s).toNat = m * 2 ^ s := by
    have : ((m : Int) * 2 ^ s) = ((m * 2 ^ s : Nat) : Int) := by rw [Int.natCast_mul, Int.natCast_pow]; rfl
    rw [this, Int.toNat_natCast]
  rw [e, Int.toNat_natCast, Nat.or_comm, Nat.mul_comm m (2 ^ s), ← Nat.two_pow_add_eq_or_of_lt (by omega)]
  rw [Int.natCast_add, Int.natCast_mul, Int.natCast_pow, Int.mul_comm]
  rfl
end Go.Pw
