/- IEEE doubles: how any two stand to one another, and that a rounded sum follows the exact one. No program. -/
import Derived.Laws.FloatArith
namespace Go.Pw.Fl
open Ieee
set_option linter.all false

theorem binade_eq : double.binade = 4503599627370496 := rfl
theorem weight_eq : double.signWeight = 9223372036854775808 := rfl
theorem inf_eq : double.infRung = 9218868437227405312 := rfl
theorem least_eq : double.leastPlace = -1074 := rfl

/-- The sign, the rung of a word. -/
def sg (x : Nat) : Bool := x / 9223372036854775808 % 2 == 1
def rg (x : Nat) : Nat := x % 9223372036854775808
/-- The significand, the place of a rung. -/
def mg (r : Nat) : Nat := if r < 4503599627370496 then r else 4503599627370496 + r % 4503599627370496
def pl (r : Nat) : Nat := r / 4503599627370496 - 1
/-- A finite number in units of the least place. -/
def val (r : Nat) : Nat := mg r * 2 ^ pl r
def sV (s : Bool) (n : Nat) : Int := if s then -(n : Int) else n
def V (x : Nat) : Int := sV (sg x) (val (rg x))
def sr (x : Nat) : Int := sV (sg x) (rg x)

theorem read_fin (x : Nat) (h : rg x < 9218868437227405312) : double.read x = .number (sg x) (mg (rg x)) (-1074 + (pl (rg x) : Int)) := by
  unfold Format.read
  rw [weight_eq, binade_eq, inf_eq, least_eq]
  show (if rg x < 4503599627370496 then Datum.number (sg x) (rg x) (-1074) else if rg x < 9218868437227405312 then .number (sg x) (4503599627370496 + rg x % 4503599627370496) (-1074 + ((rg x / 4503599627370496 - 1 : Nat) : Int)) else _) = _
  by_cases h1 : rg x < 4503599627370496
  · rw [if_pos h1, mg, if_pos h1, pl, Nat.div_eq_of_lt h1]
    rfl
  · rw [if_neg h1, if_pos h, mg, if_neg h1, pl]

theorem read_inf (x : Nat) (h : rg x = 9218868437227405312) : double.read x = .infinity (sg x) := by
  unfold Format.read
  rw [weight_eq, binade_eq, inf_eq, least_eq]
  show (if rg x < 4503599627370496 then Datum.number (sg x) (rg x) (-1074) else if rg x < 9218868437227405312 then _ else if rg x = 9218868437227405312 then Datum.infinity (sg x) else _) = _
  rw [if_neg (by omega), if_neg (by omega), if_pos h]

theorem read_nan (x : Nat) (h : 9218868437227405312 < rg x) : double.read x = .nan (sg x) (rg x - 9218868437227405312) := by
  unfold Format.read
  rw [weight_eq, binade_eq, inf_eq, least_eq]
  show (if rg x < 4503599627370496 then Datum.number (sg x) (rg x) (-1074) else if rg x < 9218868437227405312 then _ else if rg x = 9218868437227405312 then Datum.infinity (sg x) else .nan (sg x) (rg x - 9218868437227405312)) = _
  rw [if_neg (by omega), if_neg (by omega), if_neg (by omega)]

/-- n / 2 ^ d, to the nearest, between two the even one. -/
def rnd (n d : Nat) : Nat := n / 2 ^ d + (if 2 ^ d < 2 * (n % 2 ^ d) ∨ (2 ^ d = 2 * (n % 2 ^ d) ∧ n / 2 ^ d % 2 = 1) then 1 else 0)

theorem rnd_mul (n d k : Nat) : rnd (n * 2 ^ k) (d + k) = rnd n d := by
  have hp : 0 < 2 ^ k := Nat.two_pow_pos k
  unfold rnd
  rw [Nat.pow_add, Nat.mul_div_mul_right _ _ hp, Nat.mul_mod_mul_right]
  have e1 : (2 ^ d * 2 ^ k < 2 * (n % 2 ^ d * 2 ^ k)) = (2 ^ d < 2 * (n % 2 ^ d)) := by
    rw [← Nat.mul_assoc]
    exact propext (Nat.mul_lt_mul_right hp)
  have e2 : (2 ^ d * 2 ^ k = 2 * (n % 2 ^ d * 2 ^ k)) = (2 ^ d = 2 * (n % 2 ^ d)) := by
    rw [← Nat.mul_assoc]
    exact propext ⟨fun h => Nat.eq_of_mul_eq_mul_right hp h, fun h => congrArg (· * 2 ^ k) h⟩
  simp only [e1, e2]

theorem rnd_zero (n : Nat) : rnd n 0 = n := by
  simp [rnd, Nat.mod_one]

theorem rnd_exact (n d : Nat) : rnd (n * 2 ^ d) d = n := by
  have := rnd_mul n 0 d
  rw [Nat.zero_add] at this
  rw [this, rnd_zero]

theorem rnd_mono {n m : Nat} (d : Nat) (h : n ≤ m) : rnd n d ≤ rnd m d := by
  have hp : 0 < 2 ^ d := Nat.two_pow_pos d
  have hq := Nat.div_le_div_right (c := 2 ^ d) h
  unfold rnd
  rcases Nat.lt_or_eq_of_le hq with hlt | heq
  · split <;> split <;> omega
  · have hn := Nat.div_add_mod n (2 ^ d)
    have hm := Nat.div_add_mod m (2 ^ d)
    rw [← heq] at hm ⊢
    have : n % 2 ^ d ≤ m % 2 ^ d := by omega
    split <;> split <;> omega

theorem rnd_lo (n d : Nat) : n / 2 ^ d ≤ rnd n d := by unfold rnd; omega
theorem rnd_hi (n d : Nat) : rnd n d ≤ n / 2 ^ d + 1 := by unfold rnd; split <;> omega

/-- The rung nearest to a number of units. -/
def ex (n : Nat) : Nat := n.log2 - 52
def R (n : Nat) : Nat := ex n * 4503599627370496 + rnd n (ex n)
def RI (n : Nat) : Nat := min (R n) 9218868437227405312

theorem pow52 : (2 : Nat) ^ 52 = 4503599627370496 := rfl
theorem pow53 : (2 : Nat) ^ 53 = 9007199254740992 := rfl

theorem rnd_top (n : Nat) : rnd n (ex n) ≤ 9007199254740992 := by
  have hlt : n < 2 ^ (n.log2 + 1) := Nat.lt_log2_self
  have h2 : 2 ^ (n.log2 + 1) ≤ 2 ^ (53 + ex n) := Nat.pow_le_pow_right (by decide) (by unfold ex; omega)
  have h3 : n / 2 ^ ex n < 9007199254740992 := by
    rw [Nat.div_lt_iff_lt_mul (Nat.two_pow_pos _), ← pow53, ← Nat.pow_add]
    omega
  have := rnd_hi n (ex n)
  omega

theorem rnd_bot (n : Nat) (h : 0 < ex n) : 4503599627370496 ≤ rnd n (ex n) := by
  have hn : n ≠ 0 := by rintro rfl; simp [ex, Nat.log2_zero] at h
  have hle : 2 ^ n.log2 ≤ n := Nat.log2_self_le hn
  have e : n.log2 = 52 + ex n := by unfold ex at *; omega
  have : 4503599627370496 ≤ n / 2 ^ ex n := by
    rw [Nat.le_div_iff_mul_le (Nat.two_pow_pos _), ← pow52, ← Nat.pow_add, ← e]
    exact hle
  have := rnd_lo n (ex n)
  omega

theorem log2_mono {n m : Nat} (h : n ≤ m) : n.log2 ≤ m.log2 := by
  by_cases hn : n = 0
  · subst hn; simp [Nat.log2_zero]
  · have h1 := Nat.log2_self_le hn
    by_cases hlt : m.log2 < n.log2
    · have h2 : m < 2 ^ (m.log2 + 1) := Nat.lt_log2_self
      have h3 : 2 ^ (m.log2 + 1) ≤ 2 ^ n.log2 := Nat.pow_le_pow_right (by decide) hlt
      omega
    · omega

theorem R_mono {n m : Nat} (h : n ≤ m) : R n ≤ R m := by
  have he : ex n ≤ ex m := by have := log2_mono h; unfold ex; omega
  unfold R
  rcases Nat.lt_or_eq_of_le he with hlt | heq
  · have h1 := rnd_top n
    have h2 := rnd_bot m (by omega)
    have : (ex n + 1) * 4503599627370496 ≤ ex m * 4503599627370496 := Nat.mul_le_mul_right _ hlt
    omega
  · rw [← heq]
    have := rnd_mono (ex n) h
    omega

theorem RI_mono {n m : Nat} (h : n ≤ m) : RI n ≤ RI m := by
  have := R_mono h
  unfold RI
  omega

theorem log2_of {n k : Nat} (h1 : 2 ^ k ≤ n) (h2 : n < 2 ^ (k + 1)) : n.log2 = k := by
  have hn : n ≠ 0 := by have := Nat.two_pow_pos k; omega
  have a1 : k ≤ n.log2 := (Nat.le_log2 hn).2 h1
  have a2 : n.log2 < k + 1 := (Nat.log2_lt hn).2 h2
  omega

theorem R_val (r : Nat) : R (val r) = r := by
  unfold val mg pl
  by_cases h : r < 4503599627370496
  · rw [if_pos h, Nat.div_eq_of_lt h]
    have e : ex (r * 2 ^ (0 - 1)) = 0 := by
      unfold ex
      have : (r * 2 ^ (0 - 1)).log2 < 53 := by
        by_cases h0 : r = 0
        · subst h0; decide
        · refine (Nat.log2_lt (by simpa using h0)).2 ?_
          rw [pow53]; simp; omega
      omega
    rw [R, e, rnd_zero]
    simp
  · rw [if_neg h]
    have hq : 0 < r / 4503599627370496 := Nat.div_pos (by omega) (by decide)
    have hf : r % 4503599627370496 < 4503599627370496 := Nat.mod_lt _ (by decide)
    have hr := Nat.div_add_mod r 4503599627370496
    generalize r / 4503599627370496 = q at *
    generalize r % 4503599627370496 = f at *
    obtain ⟨k, rfl⟩ : ∃ k, q = k + 1 := ⟨q - 1, by omega⟩
    have e : ex ((4503599627370496 + f) * 2 ^ (k + 1 - 1)) = k := by
      have : ((4503599627370496 + f) * 2 ^ (k + 1 - 1)).log2 = 52 + k := by
        refine log2_of ?_ ?_
        · rw [Nat.pow_add, pow52, Nat.add_sub_cancel]
          exact Nat.mul_le_mul_right _ (by omega)
        · rw [show 52 + k + 1 = 53 + k by omega, Nat.pow_add, pow53, Nat.add_sub_cancel]
          exact Nat.mul_lt_mul_of_pos_right (by omega) (Nat.two_pow_pos k)
      unfold ex
      omega
    rw [R, e, Nat.add_sub_cancel, rnd_exact]
    omega

theorem val_lt {r s : Nat} (h : r < s) : val r < val s := by
  rcases Nat.lt_or_ge (val r) (val s) with h1 | h1
  · exact h1
  · have := R_mono h1
    rw [R_val, R_val] at this
    omega
theorem val_lt_iff {r s : Nat} : val r < val s ↔ r < s := by
  constructor
  · intro h
    rcases Nat.lt_trichotomy r s with h1 | h1 | h1
    · exact h1
    · subst h1; omega
    · have := val_lt h1; omega
  · exact val_lt
theorem val_inj {r s : Nat} (h : val r = val s) : r = s := by rw [← R_val r, ← R_val s, h]

/-- The word nearest to 'mag' at place 'k' above the least. -/
theorem nearest_eq (neg : Bool) (mag k : Nat) : double.nearest neg mag (-1074 + (k : Int)) = double.word neg (RI (mag * 2 ^ k)) := by
  unfold Format.nearest
  by_cases h0 : mag = 0
  · subst h0
    rw [if_pos rfl, Nat.zero_mul]
    rfl
  · rw [if_neg h0]
    have hlog : (mag * 2 ^ k).log2 = mag.log2 + k := by
      refine log2_of ?_ ?_
      · rw [Nat.pow_add]; exact Nat.mul_le_mul_right _ (Nat.log2_self_le h0)
      · rw [show mag.log2 + k + 1 = (mag.log2 + 1) + k by omega, Nat.pow_add]
        exact Nat.mul_lt_mul_of_pos_right Nat.lt_log2_self (Nat.two_pow_pos k)
    have hex : ex (mag * 2 ^ k) = mag.log2 + k - 52 := by rw [ex, hlog]
    dsimp only
    rw [least_eq, binade_eq, inf_eq, show double.fractionBits = 52 from rfl]
    have hlast : max (-1074 + (k : Int) + mag.log2 - (52 : Nat)) (-1074) = -1074 + (ex (mag * 2 ^ k) : Int) := by rw [hex]; omega
    rw [hlast]
    have hk : Toward.even.cut neg (mag <<< (-1074 + (k : Int) - (-1074 + (ex (mag * 2 ^ k) : Int))).toNat) (-1074 + (ex (mag * 2 ^ k) : Int) - (-1074 + (k : Int))).toNat = rnd (mag * 2 ^ k) (ex (mag * 2 ^ k)) := by
      rw [hex]
      rcases Nat.le_total (mag.log2 + k - 52) k with hle | hle
      · obtain ⟨j, hj⟩ : ∃ j, k = j + (mag.log2 + k - 52) := ⟨k - (mag.log2 + k - 52), by omega⟩
        generalize mag.log2 + k - 52 = e at *
        have e1 : (-1074 + (k : Int) - (-1074 + (e : Int))).toNat = j := by omega
        have e2 : (-1074 + (e : Int) - (-1074 + (k : Int))).toNat = 0 := by omega
        rw [e1, e2]
        have e3 : mag * 2 ^ k = mag * 2 ^ j * 2 ^ e := by rw [hj, Nat.pow_add, Nat.mul_assoc]
        rw [e3, rnd_exact, Nat.shiftLeft_eq]
        unfold Toward.cut
        simp [Nat.mod_one]
      · obtain ⟨d, hd⟩ : ∃ d, mag.log2 + k - 52 = d + k := ⟨mag.log2 - 52, by omega⟩
        rw [hd]
        have e1 : (-1074 + (k : Int) - (-1074 + ((d + k : Nat) : Int))).toNat = 0 := by omega
        have e2 : (-1074 + ((d + k : Nat) : Int) - (-1074 + (k : Int))).toNat = d := by omega
        rw [e1, e2, rnd_mul, Nat.shiftLeft_zero]
        unfold Toward.cut rnd
        have e3 : min d (mag.log2 + 2) = d := by omega
        rw [e3, Nat.shiftLeft_eq, Nat.one_mul]
        dsimp only
        by_cases c1 : 2 ^ d < 2 * (mag % 2 ^ d)
        · simp [c1]
        · by_cases c2 : 2 ^ d = 2 * (mag % 2 ^ d)
          · by_cases c3 : mag / 2 ^ d % 2 = 1
            · rw [if_pos (.inr ⟨c2, c3⟩)]
              simp [c3, ← c2]
            · rw [if_neg (by rintro (h | h); exact c1 h; exact c3 h.2)]
              simp [c1, c3]
          · rw [if_neg (by rintro (h | h); exact c1 h; exact c2 h.1)]
            simp [c1, c2]
    rw [hk]
    have e5 : (-1074 + (ex (mag * 2 ^ k) : Int) - -1074).toNat = ex (mag * 2 ^ k) := by omega
    rw [e5]
    rfl

theorem sV_lt (s t : Bool) (m n : Nat) : sV s (val m) < sV t (val n) ↔ sV s m < sV t n := by
  have h1 := val_lt_iff (r := m) (s := n)
  have h2 := val_lt_iff (r := n) (s := m)
  have z : val 0 = 0 := by decide
  have h3 := val_lt_iff (r := 0) (s := m)
  have h4 := val_lt_iff (r := 0) (s := n)
  rw [z] at h3 h4
  cases s <;> cases t <;> simp only [sV] <;> simp <;> omega
theorem sV_eq (s t : Bool) (m n : Nat) : sV s (val m) = sV t (val n) ↔ sV s m = sV t n := by
  have h1 := sV_lt s t m n
  have h2 := sV_lt t s n m
  omega

theorem signed_eq (s : Bool) (m u : Nat) : signed s m u = sV s (m * 2 ^ u) := by
  cases s <;> simp [signed, sV, Nat.shiftLeft_eq]
theorem sV_mul (s : Bool) (n k : Nat) : sV s (n * k) = sV s n * (k : Int) := by
  cases s <;> simp [sV, Int.neg_mul]

theorem compare_eq (a b : Int) : compare a b = if a < b then .lt else if a = b then .eq else .gt := rfl

theorem scale (s t : Bool) (m n i j : Nat) : ∃ k : Nat, sV s (m * 2 ^ i) = sV s (m * 2 ^ (i - min i j)) * (2 ^ k : Nat) ∧ sV t (n * 2 ^ j) = sV t (n * 2 ^ (j - min i j)) * (2 ^ k : Nat) ∧ k = min i j := by
  refine ⟨min i j, ?_, ?_, rfl⟩
  · rw [← sV_mul, Nat.mul_assoc, ← Nat.pow_add, Nat.sub_add_cancel (Nat.min_le_left _ _)]
  · rw [← sV_mul, Nat.mul_assoc, ← Nat.pow_add, Nat.sub_add_cancel (Nat.min_le_right _ _)]

theorem place_min (i j : Nat) : (-1074 + (i : Int) - min (-1074 + (i : Int)) (-1074 + (j : Int))).toNat = i - min i j ∧ (-1074 + (j : Int) - min (-1074 + (i : Int)) (-1074 + (j : Int))).toNat = j - min i j ∧ min (-1074 + (i : Int)) (-1074 + (j : Int)) = -1074 + ((min i j : Nat) : Int) := by omega

def ord (a b : Int) : Ordering := if a < b then .lt else if a = b then .eq else .gt

theorem order_num (s t : Bool) (m n i j : Nat) : Datum.order (.number s m (-1074 + (i : Int))) (.number t n (-1074 + (j : Int))) = some (ord (sV s (m * 2 ^ i)) (sV t (n * 2 ^ j))) := by
  obtain ⟨p1, p2, _⟩ := place_min i j
  obtain ⟨k, h1, h2, _⟩ := scale s t m n i j
  have hk : (0 : Int) < ((2 ^ k : Nat) : Int) := by have := Nat.two_pow_pos k; omega
  show some (compare (signed s m _) (signed t n _)) = _
  rw [p1, p2, signed_eq, signed_eq, compare_eq, ord, h1, h2]
  generalize sV s (m * 2 ^ (i - min i j)) = a
  generalize sV t (n * 2 ^ (j - min i j)) = b
  have e1 : a * ((2 ^ k : Nat) : Int) < b * ((2 ^ k : Nat) : Int) ↔ a < b := Int.mul_lt_mul_right hk
  have e2 : a * ((2 ^ k : Nat) : Int) = b * ((2 ^ k : Nat) : Int) ↔ a = b := ⟨fun h => Int.eq_of_mul_eq_mul_right (by omega) h, fun h => by rw [h]⟩
  simp only [e1, e2]

/-- How two words stand to one another, none of them a NaN: as their signed rungs do. -/
theorem order_eq (x y : Nat) (hx : rg x ≤ 9218868437227405312) (hy : rg y ≤ 9218868437227405312) : double.order x y = some (ord (sr x) (sr y)) := by
  unfold Format.order
  rcases Nat.lt_or_eq_of_le hx with h1 | h1
  · rw [read_fin x h1]
    rcases Nat.lt_or_eq_of_le hy with h2 | h2
    · rw [read_fin y h2, order_num]
      show some (ord (sV (sg x) (val (rg x))) (sV (sg y) (val (rg y)))) = _
      unfold ord sr
      have e1 := sV_lt (sg x) (sg y) (rg x) (rg y)
      have e2 := sV_eq (sg x) (sg y) (rg x) (rg y)
      simp only [e1, e2]
    · rw [read_inf y h2]
      show some (if sg y then Ordering.gt else .lt) = _
      unfold sr ord
      rw [h2]
      have : ∀ s : Bool, (if sV s (rg x) < sV (sg y) 9218868437227405312 then Ordering.lt else if sV s (rg x) = sV (sg y) 9218868437227405312 then .eq else .gt) = (if sg y then Ordering.gt else .lt) := fun s => by
        cases s <;> cases sg y <;> simp [sV] <;> repeat (first | omega | (rw [if_neg (by omega)]) | (rw [if_pos (by omega)]))
      rw [this]
  · rw [read_inf x h1]
    rcases Nat.lt_or_eq_of_le hy with h2 | h2
    · rw [read_fin y h2]
      show some (if sg x then Ordering.lt else .gt) = _
      unfold sr ord
      rw [h1]
      have : ∀ s : Bool, (if sV (sg x) 9218868437227405312 < sV s (rg y) then Ordering.lt else if sV (sg x) 9218868437227405312 = sV s (rg y) then .eq else .gt) = (if sg x then Ordering.lt else .gt) := fun s => by
        cases s <;> cases sg x <;> simp [sV] <;> repeat (first | omega | (rw [if_neg (by omega)]) | (rw [if_pos (by omega)]))
      rw [this]
    · rw [read_inf y h2]
      show some (compare (sg y).toNat (sg x).toNat) = _
      unfold sr ord
      rw [h1, h2]
      cases sg x <;> cases sg y <;> simp only [sV] <;> rfl

theorem order_nan (x y : Nat) (h : 9218868437227405312 < rg x ∨ 9218868437227405312 < rg y) : double.order x y = none := by
  unfold Format.order
  rcases h with h | h
  · rw [read_nan x h]
    cases double.read y <;> rfl
  · rw [read_nan y h]
    cases double.read x <;> rfl

/-- The exact number T, in units of the least place, rounded: a signed rung. -/
def S (T : Int) : Int := if T < 0 then -(RI T.natAbs : Int) else RI T.natAbs

theorem RI_zero : RI 0 = 0 := by decide
theorem S_mono {a b : Int} (h : a ≤ b) : S a ≤ S b := by
  unfold S
  by_cases ha : a < 0
  · by_cases hb : b < 0
    · have := RI_mono (n := b.natAbs) (m := a.natAbs) (by omega)
      rw [if_pos ha, if_pos hb]; omega
    · rw [if_pos ha, if_neg hb]; omega
  · have := RI_mono (n := a.natAbs) (m := b.natAbs) (by omega)
    rw [if_neg ha, if_neg (by omega)]; omega

theorem S_pos (n : Nat) : S (n : Int) = RI n := by
  unfold S
  rw [if_neg (by omega), Int.natAbs_natCast]
theorem S_neg (n : Nat) : S (-(n : Int)) = -(RI n : Int) := by
  unfold S
  by_cases h : n = 0
  · subst h; rw [if_neg (by omega)]; simp [RI_zero]
  · rw [if_pos (by omega), Int.natAbs_neg, Int.natAbs_natCast]
theorem sV_f (n : Nat) : sV false n = (n : Int) := rfl
theorem sV_t (n : Nat) : sV true n = -(n : Int) := rfl
theorem S_sV (s : Bool) (n : Nat) : S (sV s n) = sV s (RI n) := by
  cases s
  · rw [sV_f, sV_f, S_pos]
  · rw [sV_t, sV_t, S_neg]

theorem S_V (x : Nat) (h : rg x ≤ 9218868437227405312) : S (V x) = sr x := by
  unfold V sr
  rw [S_sV, RI, R_val, Nat.min_eq_left h]

theorem word_parts (neg : Bool) (r : Nat) (h : r ≤ 9218868437227405312) : rg (double.word neg r) = r ∧ sg (double.word neg r) = neg ∧ double.word neg r < 18446744073709551616 := by
  unfold Format.word
  rw [weight_eq]
  cases neg
  · simp only [rg, sg]; simp; omega
  · simp only [rg, sg]; simp; omega

theorem RI_le (n : Nat) : RI n ≤ 9218868437227405312 := Nat.min_le_right _ _

theorem sr_word (neg : Bool) (r : Nat) (h : r ≤ 9218868437227405312) : sr (double.word neg r) = sV neg r := by
  obtain ⟨q1, q2, _⟩ := word_parts neg r h
  unfold sr
  rw [q1, q2]

/-- The sign of a sum. -/
def nsg (s t : Bool) (T : Int) : Bool := if T = 0 then s && t else decide (T < 0)
theorem S_nsg (s t : Bool) (T : Int) (k : Nat) : sV (nsg s t T) (RI (T.natAbs * 2 ^ k)) = S (T * ((2 ^ k : Nat) : Int)) := by
  have hk : (0 : Int) < ((2 ^ k : Nat) : Int) := by have := Nat.two_pow_pos k; omega
  generalize 2 ^ k = K at *
  rcases Int.lt_trichotomy T 0 with h | h | h
  · obtain ⟨n, rfl⟩ : ∃ n : Nat, T = -(n : Int) := ⟨T.natAbs, by omega⟩
    have e : nsg s t (-(n : Int)) = true := by unfold nsg; rw [if_neg (by omega)]; simpa using h
    rw [e, Int.natAbs_neg, Int.natAbs_natCast, Int.neg_mul, ← Int.natCast_mul, S_neg, sV_t]
  · subst h
    rw [Int.zero_mul, Int.natAbs_zero, Nat.zero_mul, RI_zero]
    have : S 0 = 0 := by rw [show (0 : Int) = ((0 : Nat) : Int) from rfl, S_pos, RI_zero]
    rw [this]
    cases nsg s t 0
    · rw [sV_f]; rfl
    · rw [sV_t]; rfl
  · obtain ⟨n, rfl⟩ : ∃ n : Nat, T = (n : Int) := ⟨T.toNat, by omega⟩
    have e : nsg s t (n : Int) = false := by unfold nsg; rw [if_neg (by omega)]; simp
    rw [e, Int.natAbs_natCast, ← Int.natCast_mul, S_pos, sV_f]

/-- The sum of two numbers, written. -/
theorem sum_num (s t : Bool) (m n i j : Nat) : ∃ r, (Datum.sum (.number s m (-1074 + (i : Int))) (.number t n (-1074 + (j : Int)))).map double.write = some r ∧ rg r ≤ 9218868437227405312 ∧ r < 18446744073709551616 ∧ sr r = S (sV s (m * 2 ^ i) + sV t (n * 2 ^ j)) := by
  obtain ⟨p1, p2, p3⟩ := place_min i j
  obtain ⟨k, h1, h2, hk0⟩ := scale s t m n i j
  simp only [Datum.sum, Option.map_some]
  rw [p1, p2, p3, signed_eq, signed_eq, h1, h2, ← Int.add_mul, ← hk0]
  generalize sV s (m * 2 ^ (i - k)) + sV t (n * 2 ^ (j - k)) = T
  refine ⟨double.nearest (nsg s t T) T.natAbs (-1074 + (k : Int)), rfl, ?_⟩
  rw [nearest_eq]
  obtain ⟨q1, q2, q3⟩ := word_parts (nsg s t T) _ (RI_le (T.natAbs * 2 ^ k))
  refine ⟨by rw [q1]; exact RI_le _, q3, ?_⟩
  rw [sr_word _ _ (RI_le _), S_nsg]

theorem add_fin (x y : Nat) (hx : rg x < 9218868437227405312) (hy : rg y < 9218868437227405312) : ∃ r, double.add x y = some r ∧ rg r ≤ 9218868437227405312 ∧ r < 18446744073709551616 ∧ sr r = S (V x + V y) := by
  unfold Format.add
  rw [read_fin x hx, read_fin y hy]
  exact sum_num _ _ _ _ _ _

theorem sub_fin (x y : Nat) (hx : rg x < 9218868437227405312) (hy : rg y < 9218868437227405312) : ∃ r, double.sub x y = some r ∧ rg r ≤ 9218868437227405312 ∧ r < 18446744073709551616 ∧ sr r = S (V x - V y) := by
  unfold Format.sub
  rw [read_fin x hx, read_fin y hy]
  obtain ⟨r, h1, h2, h3, h4⟩ := sum_num (sg x) (!sg y) (mg (rg x)) (mg (rg y)) (pl (rg x)) (pl (rg y))
  refine ⟨r, h1, h2, h3, ?_⟩
  rw [h4]
  unfold V val
  congr 1
  cases sg y <;> simp [sV] <;> omega

theorem add_inf (x y : Nat) (hx : rg x < 9218868437227405312) (hy : rg y = 9218868437227405312) : double.add x y = some (double.word (sg y) 9218868437227405312) := by
  unfold Format.add
  rw [read_fin x hx, read_inf y hy]
  rfl
end Go.Pw.Fl
