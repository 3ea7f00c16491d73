/- IEEE doubles: keys, the numbers held to what is no infinity, passing time: plain functions of words, and what is true of them. No program. -/
import Derived.Test.YtjfmelmiegnmjaaGreatDoorFl
import Derived.Laws.BitsAllLaws
namespace Go.Pw.Fl
open Ieee
set_option linter.all false

/-- What is no number. -/
def NaN (x : Nat) : Bool := decide (9218868437227405312 < rg x)
theorem nan_yes {x : Nat} (h : NaN x = true) : 9218868437227405312 < rg x := by simpa [NaN] using h
theorem nan_no {x : Nat} (h : NaN x = false) : rg x ≤ 9218868437227405312 := by simpa [NaN] using h
theorem nan_of {x : Nat} (h : rg x ≤ 9218868437227405312) : NaN x = false := by simpa [NaN] using h
theorem nan_both (x : Nat) : NaN x = true ∨ NaN x = false := by cases NaN x <;> simp
theorem order_no {x y : Nat} (h : NaN x = false) (k : NaN y = false) : FloatKind.f64.format.order x y = some (ord (sr x) (sr y)) := order_eq x y (nan_no h) (nan_no k)
theorem order_self_no {x : Nat} (h : NaN x = false) : FloatKind.f64.format.order x x = some .eq := by
  rw [order_no h h, ord, if_neg (by omega), if_pos rfl]
theorem order_yes {x y : Nat} (h : NaN x = true ∨ NaN y = true) : FloatKind.f64.format.order x y = none := order_nan x y (h.imp nan_yes nan_yes)
theorem order_lt {x y : Nat} (h : NaN x = false) (k : NaN y = false) (hl : sr x < sr y) : FloatKind.f64.format.order x y = some .lt := by rw [order_no h k, ord, if_pos hl]
theorem order_eq' {x y : Nat} (h : NaN x = false) (k : NaN y = false) (hl : sr x = sr y) : FloatKind.f64.format.order x y = some .eq := by rw [order_no h k, ord, if_neg (by omega), if_pos hl]
theorem order_gt {x y : Nat} (h : NaN x = false) (k : NaN y = false) (hl : sr y < sr x) : FloatKind.f64.format.order x y = some .gt := by rw [order_no h k, ord, if_neg (by omega), if_neg (by omega)]
/-- With NaNs too. -/
def Lt (x y : Nat) : Bool := FloatKind.f64.format.order x y == some .lt

theorem W (x : Nat) (hx : x < 18446744073709551616) : (x < 9223372036854775808 ∧ sg x = false ∧ rg x = x ∧ sr x = x) ∨ (9223372036854775808 ≤ x ∧ sg x = true ∧ rg x = x - 9223372036854775808 ∧ sr x = -((x : Int) - 9223372036854775808)) := by
  by_cases h : x < 9223372036854775808
  · left
    have e1 : sg x = false := by simp [sg]; omega
    have e2 : rg x = x := by simp [rg]; omega
    refine ⟨h, e1, e2, ?_⟩
    rw [sr, e1, e2, sV_f]
  · right
    have e1 : sg x = true := by simp [sg]; omega
    have e2 : rg x = x - 9223372036854775808 := by simp [rg]; omega
    refine ⟨by omega, e1, e2, ?_⟩
    rw [sr, e1, e2, sV_t]
    omega

/-- The number that stands for a time. -/
def kKey (x : Nat) : Int := if NaN x = true then 18446744073709551615 else if 9223372036854775808 ≤ x then 18446744073709551615 - x else x + 9223372036854775808
theorem kKey_nan {x : Nat} (h : NaN x = true) : kKey x = 18446744073709551615 := if_pos h
theorem kKey_neg {x : Nat} (h : NaN x = false) (h1 : 9223372036854775808 ≤ x) : kKey x = 18446744073709551615 - x := by rw [kKey, if_neg (by simp [h]), if_pos h1]
theorem kKey_pos {x : Nat} (h : NaN x = false) (h1 : ¬ 9223372036854775808 ≤ x) : kKey x = x + 9223372036854775808 := by rw [kKey, if_neg (by simp [h]), if_neg h1]
theorem kKey_lt {x : Nat} (hx : x < 18446744073709551616) (h : NaN x = false) : 0 ≤ kKey x ∧ kKey x < 18446744073709551615 := by
  have := nan_no h
  rcases W x hx with ⟨a, b, c, d⟩ | ⟨a, b, c, d⟩
  · rw [kKey_pos h (by omega)]; omega
  · rw [kKey_neg h a]; omega
theorem kKey_bd {x : Nat} (hx : x < 18446744073709551616) : 0 ≤ kKey x ∧ kKey x < 18446744073709551616 := by
  rcases nan_both x with h | h
  · rw [kKey_nan h]; omega
  · have := kKey_lt hx h; omega

theorem kKey_ord {x y : Nat} (hx : x < 18446744073709551616) (hy : y < 18446744073709551616) (h : NaN x = false) (k : NaN y = false) (hn : ¬ (sr x = 0 ∧ sr y = 0)) : (kKey x < kKey y ↔ sr x < sr y) := by
  rcases W x hx with ⟨a, b, c, d⟩ | ⟨a, b, c, d⟩ <;> rcases W y hy with ⟨a', b', c', d'⟩ | ⟨a', b', c', d'⟩
  · rw [kKey_pos h (by omega), kKey_pos k (by omega)]; omega
  · rw [kKey_pos h (by omega), kKey_neg k a']; omega
  · rw [kKey_neg h a, kKey_pos k (by omega)]; omega
  · rw [kKey_neg h a, kKey_neg k a']; omega
theorem kKey_zero {x y : Nat} (hx : x < 18446744073709551616) (hy : y < 18446744073709551616) (h : NaN x = false) (k : NaN y = false) (h1 : sr x = 0) (h2 : sr y = 0) : (kKey x < kKey y ↔ (9223372036854775808 ≤ x ∧ ¬ 9223372036854775808 ≤ y)) := by
  rcases W x hx with ⟨a, b, c, d⟩ | ⟨a, b, c, d⟩ <;> rcases W y hy with ⟨a', b', c', d'⟩ | ⟨a', b', c', d'⟩
  · rw [kKey_pos h (by omega), kKey_pos k (by omega)]; omega
  · rw [kKey_pos h (by omega), kKey_neg k a']; omega
  · rw [kKey_neg h a, kKey_pos k (by omega)]; omega
  · rw [kKey_neg h a, kKey_neg k a']; omega

/-- The time that a number stands for. -/
def tTime (n : Int) : Nat := if 9223372036854775808 ≤ n then (n - 9223372036854775808).toNat else (18446744073709551615 - n).toNat
theorem tTime_lt {n : Int} (h0 : 0 ≤ n) (h1 : n < 18446744073709551616) : tTime n < 18446744073709551616 := by unfold tTime; split <;> omega
theorem key_time {n : Int} (h0 : 0 ≤ n) (h1 : n < 18446744073709551616) (h : NaN (tTime n) = false) : kKey (tTime n) = n := by
  unfold tTime at *
  split at h <;> rename_i hc
  · rw [if_pos hc, kKey_pos h (by omega)]; omega
  · rw [if_neg hc, kKey_neg h (by omega)]; omega
theorem time_key {t : Nat} (ht : t < 18446744073709551616) : kKey (tTime (kKey t)) = kKey t := by
  have hb := kKey_bd ht
  rcases nan_both t with h | h
  · rw [kKey_nan h]
    have : tTime 18446744073709551615 = 9223372036854775807 := by decide
    rw [this, kKey_nan (by decide)]
  · have : tTime (kKey t) = t := by
      rcases W t ht with ⟨a, b, c, d⟩ | ⟨a, b, c, d⟩
      · rw [kKey_pos h (by omega), tTime, if_pos (by omega)]; omega
      · rw [kKey_neg h a, tTime, if_neg (by omega)]; omega
    rw [this]

theorem xor_max (x : Int) (h0 : 0 ≤ x) (h1 : x < 18446744073709551616) : bits .xor .u64 IntKind.u64.max x = 18446744073709551615 - x := by
  obtain ⟨n, rfl⟩ := Int.eq_ofNat_of_zero_le h0
  have hm : IntKind.u64.max = ((18446744073709551615 : Nat) : Int) := by decide
  rw [hm, u64_xor_nat _ _ (by decide) (by omega)]
  have : 18446744073709551615 ^^^ n = 18446744073709551615 - n := by
    have hb : (BitVec.allOnes 64 ^^^ BitVec.ofNat 64 n).toNat = (~~~ (BitVec.ofNat 64 n)).toNat := by rw [BitVec.allOnes_xor]
    rw [BitVec.toNat_xor, BitVec.toNat_not, BitVec.toNat_ofNat, BitVec.toNat_allOnes] at hb
    rw [Nat.mod_eq_of_lt (by omega : n < 2 ^ 64)] at hb
    simpa using hb
  rw [this]
  omega
theorem or_top (x : Int) (h0 : 0 ≤ x) (h1 : x < 9223372036854775808) : bits .or .u64 x 9223372036854775808 = x + 9223372036854775808 := by
  obtain ⟨n, rfl⟩ := Int.eq_ofNat_of_zero_le h0
  have := Nat.two_pow_add_eq_or_of_lt (i := 63) (b := n) (by omega) 1
  rw [show (9223372036854775808 : Int) = ((9223372036854775808 : Nat) : Int) from rfl, u64_or_nat _ _ (by omega) (by decide), Nat.or_comm]
  have e : 2 ^ 63 * 1 = 9223372036854775808 := by decide
  rw [e] at this
  omega
theorem andNot_top (x : Int) (h0 : 9223372036854775808 ≤ x) (h1 : x < 18446744073709551616) : bits .andNot .u64 x 9223372036854775808 = x - 9223372036854775808 := by
  obtain ⟨n, rfl⟩ := Int.eq_ofNat_of_zero_le (show (0 : Int) ≤ x by omega)
  rw [show (9223372036854775808 : Int) = ((9223372036854775808 : Nat) : Int) from rfl, u64_andNot_nat _ _ (by omega) (by decide)]
  have : n &&& (18446744073709551615 - 9223372036854775808) = n % 9223372036854775808 := by
    have := Nat.and_two_pow_sub_one_eq_mod n 63
    simpa using this
  rw [this]
  omega
theorem andNot_abs (x : Nat) (h1 : x < 18446744073709551616) : bits .andNot .u64 (x : Int) 9223372036854775808 = (rg x : Int) := by
  rw [show (9223372036854775808 : Int) = ((9223372036854775808 : Nat) : Int) from rfl, u64_andNot_nat _ _ (by omega) (by decide)]
  have : x &&& (18446744073709551615 - 9223372036854775808) = x % 9223372036854775808 := by
    have := Nat.and_two_pow_sub_one_eq_mod x 63
    simpa using this
  rw [this]
  rfl

/-- Held to what is no infinity; 0 of none. -/
def heldV (x : Nat) : Nat := if NaN x = true then 0 else if 9218868437227405311 < sr x then 9218868437227405311 else if sr x < -9218868437227405311 then 18442240474082181119 else x
/-- The lesser of the greatest number and another; the greater of the least and another. -/
def mn (x : Nat) : Nat := if 9218868437227405311 < sr x then 9218868437227405311 else x
def mx (x : Nat) : Nat := if sr x < -9218868437227405311 then 18442240474082181119 else x
theorem sr_max : sr 9218868437227405311 = 9218868437227405311 := by decide
theorem sr_min : sr 18442240474082181119 = -9218868437227405311 := by decide
theorem sr_0 : sr 0 = 0 := by decide
theorem sr_inf : sr 9218868437227405312 = 9218868437227405312 := by decide
theorem sr_bd (x : Nat) : -(rg x : Int) ≤ sr x ∧ sr x ≤ rg x := by
  unfold sr
  cases sg x
  · rw [sV_f]; omega
  · rw [sV_t]; omega
theorem nan_max : NaN 9218868437227405311 = false := by decide
theorem nan_min : NaN 18442240474082181119 = false := by decide
theorem nan_zero : NaN 0 = false := by decide
theorem nan_inf : NaN 9218868437227405312 = false := by decide

/-- A finite word. -/
def FinW (x : Nat) : Bool := decide (rg x < 9218868437227405312)
theorem fin_lt {x : Nat} (h : FinW x = true) : rg x < 9218868437227405312 := by simpa [FinW] using h
theorem fin_nan {x : Nat} (h : FinW x = true) : NaN x = false := nan_of (Nat.le_of_lt (fin_lt h))
theorem fin_sr {x : Nat} (h : FinW x = true) : -9218868437227405311 ≤ sr x ∧ sr x ≤ 9218868437227405311 := by
  have := sr_bd x
  have := fin_lt h
  omega
theorem sr_abs (x : Nat) : sr x = rg x ∨ sr x = -(rg x : Int) := by
  unfold sr
  cases sg x
  · left; rw [sV_f]
  · right; rw [sV_t]
theorem fin_of {x : Nat} (h : NaN x = false) (h1 : -9218868437227405311 ≤ sr x) (h2 : sr x ≤ 9218868437227405311) : FinW x = true := by
  have := nan_no h
  have := sr_abs x
  simp only [FinW, decide_eq_true_eq]
  omega

theorem mn_of {x : Nat} (h : NaN x = false) : NaN (mn x) = false ∧ sr (mn x) ≤ 9218868437227405311 := by
  unfold mn
  split
  · exact ⟨nan_max, by rw [sr_max]; omega⟩
  · exact ⟨h, by omega⟩
theorem mx_mn (x : Nat) (h : NaN x = false) : mx (mn x) = heldV x := by
  have hh : ¬ NaN x = true := by simp [h]
  unfold mx mn heldV
  by_cases h1 : 9218868437227405311 < sr x
  · rw [if_pos h1, if_neg hh, if_pos h1, sr_max, if_neg (by omega)]
  · rw [if_neg h1, if_neg hh, if_neg h1]
theorem held_fin {x : Nat} : FinW (heldV x) = true := by
  unfold heldV
  split
  · decide
  · rename_i h
    split
    · decide
    · split
      · decide
      · exact fin_of (by simpa using h) (by omega) (by omega)
theorem held_lt {x : Nat} (hx : x < 18446744073709551616) : heldV x < 18446744073709551616 := by unfold heldV; split; decide; split; decide; split; decide; exact hx
theorem held_self {x : Nat} (h : FinW x = true) : heldV x = x := by
  have := fin_sr h
  unfold heldV
  rw [if_neg (by simp [fin_nan h]), if_neg (by omega), if_neg (by omega)]

/-- A sum that is no NaN, as a word. -/
def plus (x y : Nat) : Nat := (double.add x y).getD 0
theorem plus_eq {x y : Nat} (hx : FinW x = true) (hy : NaN y = false) (hp : 0 < sr y) (hy1 : y < 18446744073709551616) : double.add x y = some (plus x y) ∧ NaN (plus x y) = false ∧ sr x ≤ sr (plus x y) ∧ plus x y < 18446744073709551616 := by
  have h1 := fin_lt hx
  rcases Nat.lt_or_eq_of_le (nan_no hy) with h2 | h2
  · obtain ⟨r, e, q1, q2, q3⟩ := add_fin x y h1 h2
    have e' : plus x y = r := by rw [plus, e]; rfl
    rw [e']
    refine ⟨e, nan_of q1, ?_, q2⟩
    rw [q3, ← S_V x (by omega)]
    refine S_mono ?_
    have : 0 ≤ V y := by
      rcases W y hy1 with ⟨a, b, c, d⟩ | ⟨a, b, c, d⟩
      · unfold V; rw [b, sV_f]; omega
      · omega
    omega
  · have hs : sg y = false := by
      rcases W y hy1 with ⟨a, b, c, d⟩ | ⟨a, b, c, d⟩
      · exact b
      · omega
    have e := add_inf x y h1 h2
    rw [hs] at e
    have ew : double.word false 9218868437227405312 = 9218868437227405312 := by decide
    rw [ew] at e
    have e' : plus x y = 9218868437227405312 := by rw [plus, e]; rfl
    rw [e']
    exact ⟨e, nan_inf, by rw [sr_inf]; have := fin_sr hx; omega, by decide⟩
theorem held_mn {r : Nat} (h : NaN r = false) (h1 : -9218868437227405311 ≤ sr r) : heldV r = mn r := by
  unfold heldV mn
  rw [if_neg (by simp [h])]
  split
  · rfl
  · rw [if_neg (by omega)]

/-- Is it more than nothing? -/
def Pos (d : Nat) : Bool := !NaN d && decide (0 < sr d)
theorem pos_yes {d : Nat} (h : Pos d = true) : NaN d = false ∧ 0 < sr d := by simpa [Pos] using h
theorem pos_order {d : Nat} (h : Pos d = true) : FloatKind.f64.format.order d 0 = some .gt := order_gt (pos_yes h).1 nan_zero (by rw [sr_0]; exact (pos_yes h).2)
theorem pos_order_no {d : Nat} (h : Pos d = false) : (FloatKind.f64.format.order d 0 == some .gt) = false := by
  rcases nan_both d with k | k
  · rw [order_yes (.inl k)]; rfl
  · have : ¬ 0 < sr d := by simpa [Pos, k] using h
    rw [order_no k nan_zero, sr_0, ord]
    split
    · rfl
    · rw [if_pos (by omega)]; rfl
/-- The time when some has gone by. -/
def passV (now d : Nat) : Nat := if Pos d = true then mn (plus (heldV now) d) else heldV now
theorem pass_fin {now d : Nat} (hd : d < 18446744073709551616) : FinW (passV now d) = true ∧ sr (heldV now) ≤ sr (passV now d) := by
  unfold passV
  split
  · rename_i h
    obtain ⟨h1, h2⟩ := pos_yes h
    obtain ⟨e, q1, q2, q3⟩ := plus_eq (held_fin (x := now)) h1 h2 hd
    obtain ⟨m1, m2⟩ := mn_of q1
    have := fin_sr (held_fin (x := now))
    have hm : sr (heldV now) ≤ sr (mn (plus (heldV now) d)) := by
      unfold mn
      split
      · rw [sr_max]; omega
      · exact q2
    exact ⟨fin_of m1 (by omega) m2, hm⟩
  · exact ⟨held_fin, Int.le_refl _⟩
theorem pass_lt {now d : Nat} (hn : now < 18446744073709551616) (hd : d < 18446744073709551616) : passV now d < 18446744073709551616 := by
  unfold passV
  split
  · rename_i h
    obtain ⟨h1, h2⟩ := pos_yes h
    obtain ⟨e, q1, q2, q3⟩ := plus_eq (held_fin (x := now)) h1 h2 hd
    unfold mn
    split
    · decide
    · exact q3
  · exact held_lt hn

/-- A difference of two finite words follows the first. -/
theorem sub_mono {a b s : Nat} (ha : FinW a = true) (hb : FinW b = true) (hs : FinW s = true) (h : sr a ≤ sr b) : ∃ p q, double.sub a s = some p ∧ double.sub b s = some q ∧ NaN p = false ∧ NaN q = false ∧ sr p ≤ sr q := by
  obtain ⟨p, e1, p1, p2, p3⟩ := sub_fin a s (fin_lt ha) (fin_lt hs)
  obtain ⟨q, f1, q1, q2, q3⟩ := sub_fin b s (fin_lt hb) (fin_lt hs)
  refine ⟨p, q, e1, f1, nan_of p1, nan_of q1, ?_⟩
  rw [p3, q3]
  refine S_mono ?_
  have : V a ≤ V b := by
    unfold sr at h
    have l1 := sV_lt (sg b) (sg a) (rg b) (rg a)
    unfold V
    omega
  omega

theorem max_read : double.read 9218868437227405311 = .number false 9007199254740991 971 := by decide
theorem min_read : double.read 18442240474082181119 = .number true 9007199254740991 971 := by decide

/-- What the lesser of the greatest number and y is, said as a choice. -/
theorem pick_min (y : Nat) (h : NaN y = false) (hy : y < 18446744073709551616) :
    (if double.read 9218868437227405311 == .infinity true || double.read y == .infinity true then double.write (.infinity true)
      else if (double.read 9218868437227405311).isNaN || (double.read y).isNaN then 0x7FF8000000000001
      else if (double.read 9218868437227405311).isZero && (double.read y).isZero then (if (double.read 9218868437227405311).neg == true then 9218868437227405311 else y)
      else if (double.read 9218868437227405311).order (double.read y) == some .lt then 9218868437227405311 else y) = mn y := by
  have ho : (double.read 9218868437227405311).order (double.read y) = some (ord 9218868437227405311 (sr y)) := by
    have := order_no nan_max h
    rw [sr_max] at this
    exact this
  rw [ho, max_read]
  have hw : double.write (.infinity true) = 18442240474082181120 := by decide
  rw [hw]
  rcases Nat.lt_or_eq_of_le (nan_no h) with h1 | h1
  · have hs := fin_sr (x := y) (by simpa [FinW] using h1)
    rw [read_fin y h1]
    have e : ord 9218868437227405311 (sr y) ≠ .lt := by unfold ord; rw [if_neg (by omega)]; split <;> simp
    simp [Datum.isNaN, Datum.isZero, e, mn]
    omega
  · rw [read_inf y h1]
    rcases W y hy with ⟨a, b, c, d⟩ | ⟨a, b, c, d⟩
    · have e : ord 9218868437227405311 (sr y) = .lt := by unfold ord; rw [if_pos (by omega)]
      rw [b, e]
      simp [Datum.isNaN, Datum.isZero, mn]
      omega
    · rw [b]
      simp [mn]
      rw [if_neg (by omega)]
      omega

theorem pick_max (y : Nat) (h : NaN y = false) (hy : y < 18446744073709551616) :
    (if double.read 18442240474082181119 == .infinity false || double.read y == .infinity false then double.write (.infinity false)
      else if (double.read 18442240474082181119).isNaN || (double.read y).isNaN then 0x7FF8000000000001
      else if (double.read 18442240474082181119).isZero && (double.read y).isZero then (if (double.read 18442240474082181119).neg == false then 18442240474082181119 else y)
      else if (double.read 18442240474082181119).order (double.read y) == some .gt then 18442240474082181119 else y) = mx y := by
  have ho : (double.read 18442240474082181119).order (double.read y) = some (ord (-9218868437227405311) (sr y)) := by
    have := order_no nan_min h
    rw [sr_min] at this
    exact this
  rw [ho, min_read]
  have hw : double.write (.infinity false) = 9218868437227405312 := by decide
  rw [hw]
  rcases Nat.lt_or_eq_of_le (nan_no h) with h1 | h1
  · have hs := fin_sr (x := y) (by simpa [FinW] using h1)
    rw [read_fin y h1]
    have e : ord (-9218868437227405311) (sr y) ≠ .gt := by
      unfold ord
      rcases Int.lt_or_eq_of_le hs.1 with c | c
      · rw [if_pos c]; simp
      · rw [if_neg (by omega), if_pos c]; simp
    simp [Datum.isNaN, Datum.isZero, e, mx]
    omega
  · rw [read_inf y h1]
    rcases W y hy with ⟨a, b, c, d⟩ | ⟨a, b, c, d⟩
    · rw [b]
      simp [mx]
      rw [if_neg (by omega)]
      omega
    · have e : ord (-9218868437227405311) (sr y) = .gt := by unfold ord; rw [if_neg (by omega), if_neg (by omega)]
      rw [b, e]
      simp [Datum.isNaN, Datum.isZero, mx]
      omega

theorem sum_kinds {a b d : Datum} (h : Datum.sum a b = some d) : (∃ s m e, d = .number s m e) ∨ ∃ s, d = .infinity s := by
  cases a <;> cases b <;> simp only [Datum.sum] at h <;> first | (cases h; done) | skip
  · simp only [Option.some.injEq] at h; exact .inl ⟨_, _, _, h.symm⟩
  · simp only [Option.some.injEq] at h; exact .inr ⟨_, h.symm⟩
  · simp only [Option.some.injEq] at h; exact .inr ⟨_, h.symm⟩
  · split at h
    · simp only [Option.some.injEq] at h; exact .inr ⟨_, h.symm⟩
    · cases h

theorem write_no {d : Datum} (h : (∃ s m e, d = .number s m e) ∨ ∃ s, d = .infinity s) : NaN (double.write d) = false := by
  rcases h with ⟨s, m, e, rfl⟩ | ⟨s, rfl⟩
  · show NaN (double.nearest s m e) = false
    unfold Format.nearest
    split
    · exact nan_of (by rw [(word_parts s 0 (by decide)).1]; decide)
    · refine nan_of ?_
      have := Nat.min_le_right ((max (e + ↑m.log2 - ↑double.fractionBits) double.leastPlace - double.leastPlace).toNat * double.binade + Toward.even.cut s (m <<< (e - max (e + ↑m.log2 - ↑double.fractionBits) double.leastPlace).toNat) (max (e + ↑m.log2 - ↑double.fractionBits) double.leastPlace - e).toNat) double.infRung
      rw [inf_eq] at this
      rw [inf_eq, (word_parts s _ this).1]
      exact this
  · show NaN (double.word s double.infRung) = false
    rw [inf_eq]
    exact nan_of (by rw [(word_parts s _ (Nat.le_refl _)).1]; exact Nat.le_refl _)

theorem sub_no {x y r : Nat} (h : double.sub x y = some r) : NaN r = false := by
  unfold Format.sub at h
  cases hs : (double.read x).sum (double.read y).opposite with
  | none => rw [hs] at h; cases h
  | some d =>
    rw [hs] at h
    simp only [Option.map_some, Option.some.injEq] at h
    rw [← h]
    exact write_no (sum_kinds hs)

/-- Has as much gone by? -/
def overV (now since d : Nat) : Bool :=
  if NaN d = true ∨ 9218868437227405311 < sr d ∨ NaN now = true ∨ NaN since = true then false
  else if sr d ≤ 0 then true
  else match double.sub now since with
    | none => false
    | some r => decide (sr d ≤ sr r)

theorem over_pass {now since d more : Nat} (hn : FinW now = true) (hs : FinW since = true) (hm : more < 18446744073709551616) (h : overV now since d = true) : overV (passV now more) since d = true := by
  obtain ⟨p1, p2⟩ := pass_fin (now := now) hm
  rw [held_self hn] at p2
  unfold overV at *
  split at h
  · cases h
  · rename_i hc
    have hc' : ¬ (NaN d = true ∨ 9218868437227405311 < sr d ∨ NaN (passV now more) = true ∨ NaN since = true) := by
      have := fin_nan p1
      have := fin_nan hs
      rintro (c | c | c | c)
      · exact hc (.inl c)
      · exact hc (.inr (.inl c))
      · simp_all
      · simp_all
    rw [if_neg hc']
    split at h
    · rename_i hd; rw [if_pos hd]
    · rename_i hd
      rw [if_neg hd]
      obtain ⟨p, q, e1, e2, _, _, e3⟩ := sub_mono hn p1 hs p2
      rw [e1] at h
      rw [e2]
      simp only [decide_eq_true_eq] at h ⊢
      omega

theorem nan_q (t : Nat) : NaN (t % 2 * 2 ^ 63 + 0x7ff0000000000000 + 1 + t / 2 % (2 ^ 52 - 1)) = true := by
  unfold NaN rg
  have h1 : t % 2 = 0 ∨ t % 2 = 1 := by omega
  have h2 : t / 2 % (2 ^ 52 - 1) < 2 ^ 52 - 1 := Nat.mod_lt _ (by decide)
  generalize t / 2 % (2 ^ 52 - 1) = f at *
  rcases h1 with h | h <;> rw [h] <;> simp <;> omega
end Go.Pw.Fl
