/- Plain laws of layer 9's numbers: what is laid is read back. -/
import Derived.Test.YtemlpjfngaemdaaWireW
namespace Go.Proofs.Ytemlpjfngaemdaa
open Go.RowKit Go.Pw
set_option linter.unusedVariables false

theorem Byt.app {a b : List Int} (ha : Byt a) (hb : Byt b) : Byt (a ++ b) := fun x hx => by
  rcases List.mem_append.1 hx with h | h
  · exact ha x h
  · exact hb x h
theorem Byt.nil : Byt [] := fun x hx => by simp at hx

theorem be_byt (n : Int) (k : Nat) : Byt (be n k) := by
  induction k with
  | zero => exact Byt.nil
  | succ k ih =>
    intro x hx
    rcases List.mem_cons.1 hx with rfl | h
    · constructor <;> omega
    · exact ih x h

theorem foldl_lin (l : List Int) : ∀ a : Int, l.foldl (fun a b => a * 256 + b) a = a * 256 ^ l.length + ofbe l := by
  induction l with
  | nil => intro a; simp [ofbe]
  | cons x l ih =>
    intro a
    have h0 := ih (a * 256 + x)
    have h1 := ih (0 * 256 + x)
    have e : ofbe (x :: l) = (0 * 256 + x) * 256 ^ l.length + ofbe l := h1
    rw [e]
    simp only [List.foldl_cons, List.length_cons, Int.pow_succ]
    rw [h0, Int.add_mul, Int.add_mul, Int.mul_assoc, Int.mul_comm 256]
    omega

theorem ofbe_cons (x : Int) (l : List Int) : ofbe (x :: l) = x * 256 ^ l.length + ofbe l := by
  have := foldl_lin l (0 * 256 + x)
  simpa [ofbe] using this

theorem ofbe_be (n : Int) (k : Nat) (hn : 0 ≤ n) : ofbe (be n k) = n % 256 ^ k := by
  induction k with
  | zero => simp [be, ofbe]
  | succ k ih =>
    rw [be, ofbe_cons, be_len, ih, Int.pow_succ]
    have hp : (0 : Int) < 256 ^ k := Int.pow_pos (by decide)
    generalize (256 : Int) ^ k = m at *
    have h1 := Int.mul_ediv_add_emod n m
    have h2 := Int.mul_ediv_add_emod (n / m) 256
    have h3 : 0 ≤ n % m ∧ n % m < m := ⟨Int.emod_nonneg _ (by omega), Int.emod_lt_of_pos _ hp⟩
    have h4 : 0 ≤ n / m % 256 ∧ n / m % 256 < 256 := by omega
    have hd : n = (n / m / 256) * (m * 256) + (n / m % 256 * m + n % m) := by
      have e1 : n / m / 256 * (m * 256) = m * (256 * (n / m / 256)) := by
        rw [Int.mul_comm m 256, ← Int.mul_assoc, Int.mul_comm (n / m / 256) 256, Int.mul_comm m]
      have e2 : m * (n / m) = m * (256 * (n / m / 256)) + m * (n / m % 256) := by rw [← Int.mul_add]; congr 1; exact h2.symm
      rw [e1, Int.mul_comm (n / m % 256) m]
      omega
    have hlt : n / m % 256 * m + n % m < m * 256 := by
      have : n / m % 256 * m ≤ 255 * m := Int.mul_le_mul_of_nonneg_right (by omega) (by omega)
      omega
    have hge : 0 ≤ n / m % 256 * m + n % m := by
      have : 0 ≤ n / m % 256 * m := Int.mul_nonneg h4.1 (by omega)
      omega
    conv => rhs; rw [hd]
    rw [Int.add_comm (n / m / 256 * (m * 256)), Int.add_mul_emod_self_right, Int.emod_eq_of_lt hge hlt]

/-- What Num has laid is read back. -/
theorem RN_be (n : Int) (k : Nat) (l : List Int) (hn : 0 ≤ n) (hn1 : n < 256 ^ k) (hk : k ≤ 8) : RN k (be n k ++ l) false = (n, l, false) := by
  have hlen := be_len n k
  unfold RN
  rw [if_pos ⟨rfl, by omega, by omega, by simp [hlen]; omega⟩]
  simp only [Int.toNat_natCast]
  rw [List.take_append_of_le_length (by omega), List.take_of_length_le (by omega), ofbe_be n k hn, Int.emod_eq_of_lt hn hn1, List.drop_append_of_le_length (by omega), List.drop_of_length_le (by omega)]
  rfl

theorem pow4 : (256 : Int) ^ 4 = 4294967296 := by decide

/-- What Bytes has laid is read back. -/
theorem RB_be (ps l : List Int) (most : Int) (hm : (ps.length : Int) ≤ most) (hp : (ps.length : Int) < 4294967296) :
    RN 4 (be ps.length 4 ++ ps ++ l) false = ((ps.length : Int), ps ++ l, false) ∧ BF false most ps.length (ps ++ l).length = false ∧ BV false ps.length (ps ++ l) = ps ∧ BR false ps.length (ps ++ l) = l := by
  refine ⟨?_, ?_, by simp [BV], by simp [BR]⟩
  · rw [List.append_assoc]
    exact RN_be ps.length 4 (ps ++ l) (by omega) (by rw [pow4]; exact hp) (by decide)
  · simp only [BF, Bool.false_or, Bool.or_eq_false_iff, decide_eq_false_iff_not, List.length_append]
    omega

/-- Bytes reads back what Bytes has laid. -/
theorem rback_any (R : Nat) (p : Value) (ps l : List Int) (most : Int) (w : World) (h : IsR 87 R p (be ps.length 4 ++ ps ++ l) false w) (hl : (be ps.length 4 ++ ps ++ l).length ≤ 1000000000) (hm : (ps.length : Int) ≤ most ∧ most ≤ 9223372036854775807) :
    Calls Try.prog 17 #[.pointer (some ⟨R, 0, none⟩), .int .i64 most] w fun e w' => ∃ v, e = .returned v ∧ w'.ownsRow 0 5 1 v ps.length (ps.map (Value.int .u8)) ∧ SoN w (.slice none 0 0) v ∧ RS R p l false w w' := by
  have hps : (ps.length : Int) < 4294967296 := by simp [be_len] at hl; omega
  obtain ⟨h1, h2, h3, h4⟩ := RB_be ps l most hm.1 hps
  have H := rbytes_any R p _ false most w h hl (by omega)
  rw [h1] at H
  simp only at H
  rw [h2] at H
  refine H.mono ?_
  rintro e w' ⟨v, g1, g2, g3, g4⟩
  rw [h3] at g2
  rw [h4] at g4
  exact ⟨v, g1, g2, g3, g4⟩

theorem RB_be0 (ps : List Int) (most : Int) (hm : (ps.length : Int) ≤ most) (hp : (ps.length : Int) < 4294967296) :
    RN 4 (be ps.length 4 ++ ps) false = ((ps.length : Int), ps, false) ∧ BF false most ps.length ps.length = false ∧ BV false ps.length ps = ps ∧ BR false ps.length ps = [] := by
  have := RB_be ps [] most hm hp
  simpa using this
end Go.Proofs.Ytemlpjfngaemdaa
