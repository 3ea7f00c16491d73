/- IEEE doubles: a sum of which both parts are small lies by its exact value; so time goes by as far as it is told. No program. -/
import Derived.Test.YtdkcmjifkhcfcaaGreatDoorFl2
set_option linter.all false
namespace Go.Pw.Fl
open Ieee
set_option linter.unusedVariables false

/-- A number of so few digits is one of the numbers. -/
theorem val_R (m k : Nat) (hm : m < 2 ^ 53) : val (R (m * 2 ^ k)) = m * 2 ^ k := by
  by_cases h0 : m * 2 ^ k = 0
  · rw [h0]; decide
  generalize hn : m * 2 ^ k = n at *
  have hlog : n.log2 < 53 + k := by
    rw [Nat.log2_lt h0, ← hn, Nat.pow_add]
    exact Nat.mul_lt_mul_of_pos_right hm (Nat.two_pow_pos k)
  have hle : ex n ≤ k := by unfold ex; omega
  obtain ⟨j, hj⟩ : ∃ j, k = ex n + j := ⟨k - ex n, by omega⟩
  obtain ⟨q, hq⟩ : ∃ q, n = q * 2 ^ ex n := ⟨m * 2 ^ j, hn.symm.trans ((congrArg (fun x => m * 2 ^ x) hj).trans (by rw [Nat.pow_add, Nat.mul_assoc, Nat.mul_comm (2 ^ ex n)]))⟩
  have hR : R n = ex n * 4503599627370496 + q := by
    unfold R
    conv => lhs; rhs; rw [hq]
    have := rnd_exact q (ex n)
    have e1 : rnd (q * 2 ^ ex n) (ex (q * 2 ^ ex n)) = rnd (q * 2 ^ ex n) (ex n) := by rw [← hq]
    rw [e1, this]
  have hp := Nat.two_pow_pos (ex n)
  have hl1 : 2 ^ n.log2 ≤ n := Nat.log2_self_le h0
  have hl2 : n < 2 ^ (n.log2 + 1) := (Nat.log2_lt h0).1 (Nat.lt_succ_self _)
  rw [hR]
  by_cases he : ex n = 0
  · have : n.log2 ≤ 52 := by unfold ex at he; omega
    have hqn : q = n := by rw [he] at hq; simpa using hq.symm
    have hlt : n < 9007199254740992 := by
      refine Nat.lt_of_lt_of_le hl2 ?_
      rw [← pow53]
      exact Nat.pow_le_pow_right (by decide) (by omega)
    rw [he, Nat.zero_mul, Nat.zero_add, hqn]
    unfold val mg pl
    by_cases hc : n < 4503599627370496
    · rw [if_pos hc, Nat.div_eq_of_lt hc]; simp
    · rw [if_neg hc]
      have e2 : n / 4503599627370496 = 1 := by omega
      have e3 : n % 4503599627370496 = n - 4503599627370496 := by omega
      rw [e2, e3]; simp; omega
  · have hlg : n.log2 = ex n + 52 := by unfold ex at he ⊢; omega
    have q1 : 4503599627370496 ≤ q := by
      rw [hlg, Nat.pow_add, pow52, Nat.mul_comm] at hl1
      exact Nat.le_of_mul_le_mul_right (Nat.le_trans hl1 (Nat.le_of_eq hq)) hp
    have q2 : q < 9007199254740992 := by
      rw [hlg, show ex n + 52 + 1 = 53 + ex n by omega, Nat.pow_add, pow53] at hl2
      have : q * 2 ^ ex n < 9007199254740992 * 2 ^ ex n := Nat.lt_of_le_of_lt (Nat.le_of_eq hq.symm) hl2
      exact Nat.lt_of_mul_lt_mul_right this
    have e1 : (ex n * 4503599627370496 + q) / 4503599627370496 = ex n + 1 := by omega
    have e2 : (ex n * 4503599627370496 + q) % 4503599627370496 = q - 4503599627370496 := by omega
    have e3 : ¬ (ex n * 4503599627370496 + q < 4503599627370496) := by omega
    unfold val mg pl
    rw [if_neg e3, e1, e2, show 4503599627370496 + (q - 4503599627370496) = q by omega, Nat.add_sub_cancel]
    exact hq.symm

theorem V_pos {x : Nat} (h : 0 ≤ sr x) : V x = (val (rg x) : Int) := by
  unfold sr sV at h
  unfold V sV
  by_cases hs : sg x = true
  · rw [if_pos hs] at h
    have : rg x = 0 := by omega
    rw [if_pos hs, this, show val 0 = 0 by decide]; rfl
  · rw [if_neg hs]

theorem sr_pos {x : Nat} (h : 0 ≤ sr x) : sr x = (rg x : Int) := by
  unfold sr sV at h ⊢
  by_cases hs : sg x = true
  · rw [if_pos hs] at h ⊢; omega
  · rw [if_neg hs]

theorem val_mono {r s : Nat} (h : r ≤ s) : val r ≤ val s := by
  rcases Nat.lt_or_eq_of_le h with h | h
  · exact Nat.le_of_lt (val_lt h)
  · rw [h]; exact Nat.le_refl _

/-- What is rounded lies by it: for what is below 2^31 (in units of which 2^k are 2^-20). -/
theorem near {t Z k : Nat} (ht : sr t = S (Z : Int)) (hZ : Z ≤ 2147483648 * 2 ^ (k + 20)) : V t ≤ (Z : Int) + ((2 ^ k : Nat) : Int) ∧ 0 ≤ sr t := by
  have hp : 0 < 2 ^ k := Nat.two_pow_pos _
  have h0 : 0 ≤ sr t := by rw [ht, S_pos]; omega
  generalize hm : Z / 2 ^ k + 1 = m
  have hg1 : Z ≤ m * 2 ^ k := by
    rw [← hm, Nat.mul_comm]
    exact Nat.le_of_lt (Nat.lt_mul_div_succ Z hp)
  have hg2 : m * 2 ^ k ≤ Z + 2 ^ k := by
    rw [← hm, Nat.add_mul, Nat.one_mul]
    exact Nat.add_le_add_right (Nat.div_mul_le_self Z _) _
  have hmb : m ≤ 2251799813685249 := by
    rw [← hm]
    refine Nat.add_le_add_right (m := 2251799813685248) ?_ 1
    refine Nat.div_le_of_le_mul ?_
    refine Nat.le_trans hZ ?_
    rw [Nat.pow_add, Nat.mul_comm (2 ^ k) (2 ^ 20), ← Nat.mul_assoc, Nat.mul_comm]
    exact Nat.mul_le_mul_left _ (by decide)
  have hS : sr t ≤ (R (m * 2 ^ k) : Int) := by
    rw [ht]
    refine Int.le_trans (S_mono (b := ((m * 2 ^ k : Nat) : Int)) (Int.ofNat_le.2 hg1)) ?_
    rw [S_pos]
    exact Int.ofNat_le.2 (Nat.min_le_left _ _)
  rw [sr_pos h0] at hS
  have hv := val_mono (Int.ofNat_le.1 hS)
  rw [val_R m k (Nat.lt_of_le_of_lt hmb (by decide))] at hv
  rw [V_pos h0]
  refine ⟨?_, h0⟩
  rw [← Int.natCast_add]
  exact Int.ofNat_le.2 (Nat.le_trans hv hg2)

theorem val_time : val 4741671816366391296 + val 4652007308841189376 ≤ 2147483648 * 2 ^ (1054 + 20) := by decide +kernel
theorem val_slack : 2 ^ 1054 ≤ val 4562254508917369340 := by decide +kernel
theorem RI_time : RI (2147483648 * 2 ^ (1054 + 20)) ≤ 9218868437227405311 := by decide +kernel
theorem sr_time : sr 4741671816366391296 = 4741671816366391296 := by decide
theorem sr_len : sr 4652007308841189376 = 4652007308841189376 := by decide
theorem rg_slack : rg 4562254508917369340 = 4562254508917369340 := by decide
theorem sr_slack : sr 4562254508917369340 = 4562254508917369340 := by decide

/-- So much goes by as is told, and no more than a thousandth. -/
theorem steps {now x : Nat} (hf : FinW now = true) (h0 : 0 ≤ sr now) (h1 : sr now < 4741671816366391296) (hx : NaN x = false) (x0 : 0 < sr x) (x1 : sr x < 4652007308841189376) (hxl : x < 18446744073709551616) :
    ∃ s y, double.sub (passV now x) now = some s ∧ double.add x 4562254508917369340 = some y ∧ NaN s = false ∧ NaN y = false ∧ sr s ≤ sr y := by
  have hpos : Pos x = true := by simp [Pos, hx, x0]
  have hfx : FinW x = true := fin_of hx (by omega) (by omega)
  have hfs : rg 4562254508917369340 < 9218868437227405312 := by rw [rg_slack]; decide
  obtain ⟨r, e, q1, q2, q3⟩ := add_fin now x (fin_lt hf) (fin_lt hfx)
  have hV0 := V_pos h0
  have hVx := V_pos (Int.le_of_lt x0)
  have hb : val (rg now) + val (rg x) ≤ 2147483648 * 2 ^ (1054 + 20) := by
    refine Nat.le_trans (Nat.add_le_add (val_mono (s := 4741671816366391296) ?_) (val_mono (s := 4652007308841189376) ?_)) val_time
    · have := sr_pos h0; omega
    · have := sr_pos (Int.le_of_lt x0); omega
  have hr : sr r = S ((val (rg now) + val (rg x) : Nat) : Int) := by rw [q3, hV0, hVx, Int.natCast_add]
  obtain ⟨n1, n2⟩ := near (k := 1054) hr hb
  have hnr : NaN r = false := nan_of q1
  have hle : passV now x = r ∨ (passV now x = 9218868437227405311 ∧ 9218868437227405311 < sr r) := by
    unfold passV
    rw [if_pos hpos, held_self hf]
    have : plus now x = r := by rw [plus, e]; rfl
    rw [this]
    unfold mn
    split
    · exact Or.inr ⟨rfl, by assumption⟩
    · exact Or.inl rfl
  have hlt : sr r ≤ 9218868437227405311 := by
    rw [hr, S_pos]
    exact Int.ofNat_le.2 (Nat.le_trans (RI_mono hb) RI_time)
  have hp : passV now x = r := by
    rcases hle with h | ⟨_, h⟩
    · exact h
    · omega
  have hfr : FinW r = true := fin_of hnr (by omega) hlt
  obtain ⟨s, f1, s1, s2, s3⟩ := sub_fin r now (fin_lt hfr) (fin_lt hf)
  obtain ⟨y, g1, y1, y2, y3⟩ := add_fin x 4562254508917369340 (fin_lt hfx) hfs
  refine ⟨s, y, by rw [hp]; exact f1, g1, nan_of s1, nan_of y1, ?_⟩
  rw [s3, y3]
  refine S_mono ?_
  have hc : V 4562254508917369340 = (val 4562254508917369340 : Int) := by
    rw [V_pos (by rw [sr_slack]; decide), rg_slack]
  have hsl := Int.ofNat_le.2 val_slack
  rw [hc, hV0, hVx]
  rw [Int.natCast_add] at n1
  generalize ((2 ^ 1054 : Nat) : Int) = U at *
  omega

/-- Time goes on, and is always a time. -/
theorem goes {now x : Nat} (hf : FinW now = true) (hx : x < 18446744073709551616) : FinW (passV now x) = true ∧ sr now ≤ sr (passV now x) := by
  have := pass_fin (now := now) (d := x) hx
  rwa [held_self hf] at this
end Go.Pw.Fl
