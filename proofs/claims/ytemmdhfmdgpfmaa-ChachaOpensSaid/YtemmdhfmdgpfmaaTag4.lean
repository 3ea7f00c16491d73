/- The contract of end of layer 5 (chacha): the least number that it is modulo 2^130 - 5, and another one's bytes. -/
import Derived.Test.YtemmdhfmdgpfmaaTag3
import Derived.Deep.Cut
import Derived.Deep.CutBlock
import Derived.StillTailTactics
namespace Go.Proofs.Ytemmdhfmdgpfmaa
open Go.RowKit Go.Pw
set_option linter.unusedVariables false

/-- Three carries leave parts below 2^26. -/
theorem norm3 {a0 a1 a2 a3 a4 p0 p1 p2 p3 p4 r0 r1 r2 r3 r4 d0 d1 d2 d3 d4 c1 c2 c3 : Int}
    (ha : 0 ≤ a0 ∧ a0 < 67108870 ∧ 0 ≤ a1 ∧ a1 < 67108870 ∧ 0 ≤ a2 ∧ a2 < 67108870 ∧ 0 ≤ a3 ∧ a3 < 67108870 ∧ 0 ≤ a4 ∧ a4 < 67108870)
    (h1 : lv B26 [p0, p1, p2, p3, p4] + P130 * c1 = lv B26 [a0, a1, a2, a3, a4]) (k1 : 0 ≤ c1) (hp : 5 * c1 ≤ p0 ∧ p0 < 5 * c1 + 67108864 ∧ 0 ≤ p1 ∧ p1 < 67108864 ∧ 0 ≤ p2 ∧ p2 < 67108864 ∧ 0 ≤ p3 ∧ p3 < 67108864 ∧ 0 ≤ p4 ∧ p4 < 67108864)
    (h2 : lv B26 [r0, r1, r2, r3, r4] + P130 * c2 = lv B26 [p0, p1, p2, p3, p4]) (k2 : 0 ≤ c2) (hr : 5 * c2 ≤ r0 ∧ r0 < 5 * c2 + 67108864 ∧ 0 ≤ r1 ∧ r1 < 67108864 ∧ 0 ≤ r2 ∧ r2 < 67108864 ∧ 0 ≤ r3 ∧ r3 < 67108864 ∧ 0 ≤ r4 ∧ r4 < 67108864)
    (h3 : lv B26 [d0, d1, d2, d3, d4] + P130 * c3 = lv B26 [r0, r1, r2, r3, r4]) (k3 : 0 ≤ c3) (hd : 5 * c3 ≤ d0 ∧ d0 < 5 * c3 + 67108864 ∧ 0 ≤ d1 ∧ d1 < 67108864 ∧ 0 ≤ d2 ∧ d2 < 67108864 ∧ 0 ≤ d3 ∧ d3 < 67108864 ∧ 0 ≤ d4 ∧ d4 < 67108864) :
    0 ≤ d0 ∧ d0 < 67108864 ∧ lv B26 [d0, d1, d2, d3, d4] + P130 * (c1 + c2) = lv B26 [a0, a1, a2, a3, a4] := by
  simp only [lv, P130, B26] at h1 h2 h3 ⊢
  have e1 : c1 ≤ 1 := by omega
  have e2 : c2 ≤ 1 := by omega
  have e3 : c3 = 0 := by
    rcases (by omega : c2 = 0 ∨ c2 = 1) with h | h
    · subst h
      rcases (by omega : c3 = 0 ∨ 1 ≤ c3) with h' | h'
      · exact h'
      · exfalso; omega
    · subst h; omega
  subst e3
  refine ⟨by omega, by omega, by omega⟩

/-- One step of the carry behind five. -/
theorem more_step {o : List Int} {k : Nat} (hk : k < 4) (ho : o.length = 5) : lv B26 ((o.set (k + 1) (gtI o (k + 1) + gtI o k / 67108864)).set k (gtI o k % 67108864)) = lv B26 o := by
  rw [lv_set B26 (by rw [List.length_set]; omega), lv_set B26 (by omega), gtI_set_ne (by omega), Int.pow_succ]
  have e := Int.mul_ediv_add_emod (gtI o k) 67108864
  generalize gtI o k / 67108864 = q at *
  generalize gtI o k % 67108864 = r at *
  have e1 : gtI o (k + 1) + q - gtI o (k + 1) = q := by omega
  have e2 : r - gtI o k = -(67108864 * q) := by omega
  rw [e1, e2, Int.mul_assoc, Int.add_assoc, ← Int.mul_add]
  have : B26 * q + -(67108864 * q) = 0 := by show 67108864 * q + -(67108864 * q) = 0; omega
  rw [this, Int.mul_zero, Int.add_zero]

theorem pow8 (i : Nat) : (256 : Int) ^ i = 2 ^ (8 * i) := by rw [Int.pow_mul]; rfl

/-- A byte of a number in parts. -/
theorem byte_at {l : List Int} {i k s : Nat} (hl : l.length = 5) (hb : ∀ j, j < 5 → 0 ≤ gtI l j ∧ gtI l j < 67108864) (hi : i < 16) (h : 8 * i = 26 * k + s) (hs : s < 26) :
    (k < 4 → (gtI l k / 2 ^ s + gtI l (k + 1) * 2 ^ (26 - s)) % 256 = lv B26 l / 256 ^ i % 256) ∧ (k = 4 → (gtI l 4 / 2 ^ s) % 256 = lv B26 l / 256 ^ i % 256) := by
  have hk : k < 5 := by omega
  have hB : (0 : Int) < B26 := by decide
  have hall : ∀ x ∈ l, 0 ≤ x ∧ x < B26 := fun x hx => by
    obtain ⟨j, hj, rfl⟩ := List.mem_iff_getElem.1 hx
    have := hb j (by omega)
    rwa [gtI_get hj] at this
  have hsp : lv B26 l / B26 ^ k = lv B26 (l.drop k) := by
    conv => lhs; rw [← List.take_append_drop k l, lv_app]
    have hlen : (l.take k).length = k := by simp; omega
    have h1 := lv_lt hB (l.take k) (fun x hx => hall x (List.mem_of_mem_take hx))
    have h0 := lv_nonneg (Int.le_of_lt hB) (l.take k) (fun x hx => (hall x (List.mem_of_mem_take hx)).1)
    rw [hlen] at h1 ⊢
    have hp : (0 : Int) < B26 ^ k := Int.pow_pos hB
    rw [Int.add_mul_ediv_left _ _ (by omega), Int.ediv_eq_zero_of_lt h0 h1, Int.zero_add]
  have hps : (0 : Int) < 2 ^ s := Int.pow_pos (by decide)
  have hV : lv B26 l / 256 ^ i = lv B26 (l.drop k) / 2 ^ s := by
    rw [p26 i k s h, ← Int.ediv_ediv_of_nonneg (Int.pow_nonneg (by decide)), hsp]
  rw [hV]
  have hd : l.drop k = gtI l k :: l.drop (k + 1) := by rw [gtI_get (by omega)]; exact List.drop_eq_getElem_cons (by omega)
  rw [hd]
  constructor
  · intro hk4
    have hd2 : l.drop (k + 1) = gtI l (k + 1) :: l.drop (k + 2) := by rw [gtI_get (by omega)]; exact List.drop_eq_getElem_cons (by omega)
    rw [hd2]
    simp only [lv]
    have e26 : B26 = 2 ^ s * 2 ^ (26 - s) := by rw [← Int.pow_add, show s + (26 - s) = 26 by omega]; decide
    have e18 : B26 = 256 * 262144 := by decide
    generalize lv B26 (l.drop (k + 2)) = z
    have e : gtI l k + B26 * (gtI l (k + 1) + B26 * z) = gtI l k + 2 ^ s * (2 ^ (26 - s) * (gtI l (k + 1) + B26 * z)) := by
      rw [← Int.mul_assoc, ← e26]
    rw [e, Int.add_mul_ediv_left _ _ (by omega), Int.mul_add, ← Int.mul_assoc, ← Int.add_assoc, Int.mul_comm (2 ^ (26 - s)) (gtI l (k + 1))]
    have e2 : 2 ^ (26 - s) * B26 * z = 256 * (2 ^ (26 - s) * 262144 * z) := by
      rw [e18]
      generalize (2 : Int) ^ (26 - s) = y
      rw [← Int.mul_assoc y 256 262144, Int.mul_comm y 256, Int.mul_assoc 256 y, Int.mul_assoc 256]
    rw [e2, Int.add_mul_emod_self_left]
  · rintro rfl
    have : l.drop 5 = [] := List.drop_of_length_le (by omega)
    rw [show (4 + 1) = 5 from rfl, this]
    simp [lv]

theorem emod_mul_eq (V m n : Int) (hm : 0 < m) (hn : 0 < n) : V % (m * n) = V % m + m * (V / m % n) := by
  have h1 := Int.mul_ediv_add_emod V m
  have h2 := Int.mul_ediv_add_emod (V / m) n
  have h3 : 0 ≤ V / m % n ∧ V / m % n < n := ⟨Int.emod_nonneg _ (by omega), Int.emod_lt_of_pos _ hn⟩
  have h4 : 0 ≤ V % m ∧ V % m < m := ⟨Int.emod_nonneg _ (by omega), Int.emod_lt_of_pos _ hm⟩
  have e : V = (V % m + m * (V / m % n)) + m * n * (V / m / n) := by
    rw [Int.mul_assoc, Int.add_assoc, ← Int.mul_add]
    rw [show V / m % n + n * (V / m / n) = V / m by omega]
    omega
  have hlt : V % m + m * (V / m % n) < m * n := by
    have : m * (V / m % n + 1) ≤ m * n := Int.mul_le_mul_of_nonneg_left (by omega) (by omega)
    rw [Int.mul_add, Int.mul_one] at this
    omega
  have hge : 0 ≤ V % m + m * (V / m % n) := by
    have := Int.mul_nonneg (show 0 ≤ m by omega) h3.1
    omega
  conv => lhs; rw [e]
  rw [Int.add_mul_emod_self_left, Int.emod_eq_of_lt hge hlt]

/-- One byte more of the sum. -/
theorem sum_step {V c x c2 : Int} {ys xs : List Int} {i : Nat} (hi : i < xs.length) (hy : ys.length = i) (h : lv 256 ys + 256 ^ i * c = V % 256 ^ i + lv 256 (xs.take i)) (hx : x = V / 256 ^ i % 256) :
    lv 256 (ys ++ [(c + (x + gtI xs i)) % 256]) + 256 ^ (i + 1) * ((c + (x + gtI xs i)) / 256) = V % 256 ^ (i + 1) + lv 256 (xs.take (i + 1)) := by
  have hp : (0 : Int) < 256 ^ i := Int.pow_pos (by decide)
  rw [lv_snoc, hy, lv_take_succ 256 hi, Int.pow_succ, Int.mul_assoc, Int.add_assoc, ← Int.mul_add]
  have e := Int.mul_ediv_add_emod (c + (x + gtI xs i)) 256
  have e1 : (c + (x + gtI xs i)) % 256 + 256 * ((c + (x + gtI xs i)) / 256) = c + (x + gtI xs i) := by omega
  rw [e1, Int.mul_add, Int.mul_add]
  have e2 : V % (256 ^ i * 256) = V % 256 ^ i + 256 ^ i * x := by
    rw [hx]
    have := emod_mul_eq V (256 ^ i) 256 (Int.pow_pos (by decide)) (by decide)
    exact this
  rw [e2]
  omega

theorem dg_mod {B : Int} (hB : 0 < B) (n : Int) (k : Nat) : dg B (n % B ^ k) k = dg B n k := by
  have h := dg_lv hB (dg B n k) (dg_bd hB n k)
  rw [dg_len, lv_dg hB] at h
  exact h
theorem dg_of {B : Int} (hB : 0 < B) {l : List Int} {n c : Int} {k : Nat} (hl : l.length = k) (hb : ∀ x ∈ l, 0 ≤ x ∧ x < B) (h : lv B l + B ^ k * c = n) : l = dg B n k := by
  rw [← dg_mod hB n k, ← h, Int.add_mul_emod_self_left, dg_mod hB, ← hl, dg_lv hB l hb]

/-- The least number behind the loop: what is above 2^130 is taken off. -/
theorem last_sub {V : Int} {o : List Int} (ho : o.length = 5) (h0 : ∀ j, j < 4 → 0 ≤ gtI o j ∧ gtI o j < 67108864) (h4 : 0 ≤ gtI o 4 ∧ gtI o 4 ≤ 67108880) (h : lv B26 o = V + 5) (hV : 0 ≤ V) :
    (gtI o 4 / 67108864 > 0 → lv B26 (o.set 4 (gtI o 4 % 67108864)) = V % P130) ∧ (¬ gtI o 4 / 67108864 > 0 → V % P130 = V) := by
  obtain ⟨o0, o1, o2, o3, o4, rfl⟩ := list5 o ho
  have a0 := h0 0 (by omega)
  have a1 := h0 1 (by omega)
  have a2 := h0 2 (by omega)
  have a3 := h0 3 (by omega)
  simp [gtI] at a0 a1 a2 a3 h4 ⊢
  simp only [lv, B26, P130] at h ⊢
  constructor
  · intro hg
    have e : o4 % 67108864 = o4 - 67108864 := by omega
    rw [e]
    omega
  · intro hg
    omega

/-- What holds in the loop that carries five. -/
def Mo (i : Nat) (o : List Int) : Prop := ∀ j, j < 5 → 0 ≤ gtI o j ∧ gtI o j < if j = i then 67108870 else 67108864
theorem mo_step {i : Nat} {o : List Int} (h : Mo i o) (hi : i < 4) (ho : o.length = 5) : Mo (i + 1) ((o.set (i + 1) (gtI o (i + 1) + gtI o i / 67108864)).set i (gtI o i % 67108864)) := by
  have h1 := h i (by omega)
  have h2 := h (i + 1) (by omega)
  rw [if_pos rfl] at h1
  rw [if_neg (by omega)] at h2
  intro j hj
  by_cases e : j = i
  · subst e
    rw [gtI_set_same (by rw [List.length_set]; omega), if_neg (by omega)]
    omega
  · rw [gtI_set_ne (fun h => e h.symm)]
    by_cases e2 : j = i + 1
    · subst e2
      rw [gtI_set_same (by omega), if_pos rfl]
      omega
    · rw [gtI_set_ne (fun h => e2 h.symm), if_neg e2]
      have h3 := h j hj
      rwa [if_neg e] at h3
theorem mo_start {d0 d1 d2 d3 d4 : Int} (h : 0 ≤ d0 ∧ d0 < 67108864 ∧ 0 ≤ d1 ∧ d1 < 67108864 ∧ 0 ≤ d2 ∧ d2 < 67108864 ∧ 0 ≤ d3 ∧ d3 < 67108864 ∧ 0 ≤ d4 ∧ d4 < 67108864) : Mo 0 [d0 + 5, d1, d2, d3, d4] ∧ lv B26 [d0 + 5, d1, d2, d3, d4] = lv B26 [d0, d1, d2, d3, d4] + 5 ∧ 0 ≤ lv B26 [d0, d1, d2, d3, d4] := by
  refine ⟨fun j hj => ?_, by simp only [lv]; omega, by simp only [lv, B26]; omega⟩
  rcases (by omega : j = 0 ∨ j = 1 ∨ j = 2 ∨ j = 3 ∨ j = 4) with rfl | rfl | rfl | rfl | rfl <;> simp [gtI] <;> omega
theorem Sep.one {w0 w : World} {r : Res} {rs : List Res} (h : Sep w0 w (r :: rs)) : Sep w0 w [r] :=
  ⟨h.only, fun x hx => h.ok x (by obtain rfl : x = r := by simpa using hx
                                  simp), fun x hx => h.new x (by obtain rfl : x = r := by simpa using hx
                                                                 simp), List.pairwise_singleton _ _⟩
theorem set_zeros (ys : List Value) (z : Value) (k : Nat) (u : Value) : (ys ++ List.replicate (k + 1) z).set ys.length u = (ys ++ [u]) ++ List.replicate k z := by
  rw [List.set_append_right _ _ (Nat.le_refl _), Nat.sub_self, List.replicate_succ, List.set_cons_zero, List.append_assoc]
  rfl

/-- The row of what is laid so far, and noughts. -/
def fillZ (ys : List Int) (n : Nat) : List Value := ys.map (.int .u8) ++ List.replicate (n - ys.length) (.int .u8 0)
theorem fillZ_at {ys : List Int} {n : Nat} (h : ys.length < n) : (fillZ ys n)[ys.length]? = some (.int .u8 0) := by
  unfold fillZ
  rw [List.getElem?_append_right (by simp), List.length_map, Nat.sub_self, List.getElem?_replicate, if_pos (by omega)]
theorem fillZ_set {ys : List Int} {n : Nat} (h : ys.length < n) (z : Int) : (fillZ ys n).set ys.length (.int .u8 z) = fillZ (ys ++ [z]) n := by
  unfold fillZ
  rw [show n - ys.length = (n - (ys ++ [z]).length) + 1 by simp; omega]
  have := set_zeros (ys.map (Value.int .u8)) (.int .u8 0) (n - (ys ++ [z]).length) (.int .u8 z)
  rw [List.length_map] at this
  rw [this]
  simp
theorem pow2_le {a b : Nat} (h : a ≤ b) : (2 : Int) ^ a ≤ 2 ^ b := by
  have : (2 : Nat) ^ a ≤ 2 ^ b := Nat.pow_le_pow_right (by decide) h
  have h2 : ((2 ^ a : Nat) : Int) ≤ ((2 ^ b : Nat) : Int) := by omega
  rwa [Int.natCast_pow, Int.natCast_pow] at h2

/-- Two parts, of which one byte is made. -/
theorem two_parts {u v : Int} {s : Nat} (hs : s < 26) (hu : 0 ≤ u ∧ u < 67108864) (hv : 0 ≤ v ∧ v < 67108864) :
    (0 ≤ u / 2 ^ s ∧ u / 2 ^ s < 67108864) ∧ IntKind.u64.wrap (v * 2 ^ (26 - s)) = v * 2 ^ (26 - s) ∧ bits .or .u64 (u / 2 ^ s) (v * 2 ^ (26 - s)) = u / 2 ^ s + v * 2 ^ (26 - s) ∧ 0 ≤ v * 2 ^ (26 - s) ∧ v * 2 ^ (26 - s) < 9007199254740992 := by
  have hp : (0 : Int) < 2 ^ s := Int.pow_pos (by decide)
  have h0 : 0 ≤ u / 2 ^ s := Int.ediv_nonneg hu.1 (Int.le_of_lt hp)
  have h1 : u / 2 ^ s ≤ u := Int.ediv_le_self _ hu.1
  have e26 : (2 : Int) ^ s * 2 ^ (26 - s) = 67108864 := by rw [← Int.pow_add, show s + (26 - s) = 26 by omega]; decide
  have h2 : u / 2 ^ s < 2 ^ (26 - s) := Int.ediv_lt_of_lt_mul hp (by rw [Int.mul_comm, e26]; exact hu.2)
  have hq : (2 : Int) ^ (26 - s) ≤ 2 ^ 26 := pow2_le (by omega)
  have h26 : (2 : Int) ^ 26 = 67108864 := by decide
  have hq0 : (0 : Int) ≤ 2 ^ (26 - s) := Int.pow_nonneg (by decide)
  have h3 : 0 ≤ v * 2 ^ (26 - s) := Int.mul_nonneg hv.1 hq0
  have h4 : v * 2 ^ (26 - s) ≤ 67108864 * 67108864 := Int.le_trans (Int.mul_le_mul_of_nonneg_right (Int.le_of_lt hv.2) hq0) (Int.mul_le_mul_of_nonneg_left (by omega) (by decide))
  refine ⟨⟨h0, by omega⟩, ?_, ?_, h3, by omega⟩
  · generalize v * 2 ^ (26 - s) = y at *
    simp [IntKind.wrap, IntKind.bits, IntKind.signed]; omega
  · rw [or64 _ v (26 - s) ⟨h0, h2⟩ hv.1 (by omega), Int.add_comm]

set_option maxRecDepth 100000 in
set_option maxHeartbeats 3200000 in
theorem end_any (a0 a1 a2 a3 a4 : Int) (p : Value) (xs : List Int) (w : World) (ha : 0 ≤ a0 ∧ a0 < 67108870 ∧ 0 ≤ a1 ∧ a1 < 67108870 ∧ 0 ≤ a2 ∧ a2 < 67108870 ∧ 0 ≤ a3 ∧ a3 < 67108870 ∧ 0 ≤ a4 ∧ a4 < 67108870)
    (hp : Src w p 1 xs.length (xs.map (Value.int .u8))) (hx : ∀ x ∈ xs, 0 ≤ x ∧ x < 256) (hl : xs.length = 16) :
    Calls Try.prog 21 #[.agg #[.int .u64 a0, .int .u64 a1, .int .u64 a2, .int .u64 a3, .int .u64 a4], p] w (Fresh (dg 256 (lv B26 [a0, a1, a2, a3, a4] % P130 + lv 256 xs) 16) w) := by
  obtain ⟨ap, cp, rfl, _⟩ := id hp
  go_enter Try.func21, Try.ntmps21
  go_wp2_with fail
  have s0 := ((Sep.nil w).box [.int .u64 a0, .int .u64 a1, .int .u64 a2, .int .u64 a3, .int .u64 a4] 39)
  generalize hA : w.heap.size = A at *
  clear hA
  generalize hV : World.alloc w _ = V at *
  clear hV
  refine (carry_any a0 a1 a2 a3 a4 V (by omega) (by omega) (by omega) (by omega) (by omega)).mono ?_
  rintro e w1 ⟨ho1, p0, p1, p2, p3, p4, x1, rfl, hx1, hp1, k1, k2, k3, k4, k5, k6, k7, k8, k9, k10⟩
  have hp1 := Lib.hid hp1
  have hb1 : Hid (x1 ≤ 1) := by
    have := hp1.out
    simp only [lv, P130, B26] at this
    show x1 ≤ 1
    omega
  have K1 : Hid (5 * x1 ≤ p0 ∧ p0 < 5 * x1 + 67108864 ∧ 0 ≤ p1 ∧ p1 < 67108864 ∧ 0 ≤ p2 ∧ p2 < 67108864 ∧ 0 ≤ p3 ∧ p3 < 67108864 ∧ 0 ≤ p4 ∧ p4 < 67108864) := ⟨k1, k2, k3, k4, k5, k6, k7, k8, k9, k10⟩
  have hlo : 0 ≤ p0 ∧ p0 < 70000000 ∧ 0 ≤ p1 ∧ p1 < 67108864 ∧ 0 ≤ p2 ∧ p2 < 67108864 ∧ 0 ≤ p3 ∧ p3 < 67108864 ∧ 0 ≤ p4 ∧ p4 < 67108864 := by
    have := hb1.out
    have k2' : p0 < 5 * x1 + 67108864 := k2
    refine ⟨by omega, by omega, k3, k4, k5, k6, k7, k8, k9, k10⟩
  clear k1 k2 k3 k4 k5 k6 k7 k8 k9 k10
  go_wp2_with fail
  refine (carry_any p0 p1 p2 p3 p4 w1 (by omega) (by omega) (by omega) (by omega) (by omega)).mono ?_
  rintro e w2 ⟨ho2, r0, r1, r2, r3, r4, x2, rfl, hx2, hp2, k1, k2, k3, k4, k5, k6, k7, k8, k9, k10⟩
  have hp2 := Lib.hid hp2
  have hb2 : Hid (x2 ≤ 1) := by
    have := hp2.out
    simp only [lv, P130, B26] at this
    show x2 ≤ 1
    omega
  have K2 : Hid (5 * x2 ≤ r0 ∧ r0 < 5 * x2 + 67108864 ∧ 0 ≤ r1 ∧ r1 < 67108864 ∧ 0 ≤ r2 ∧ r2 < 67108864 ∧ 0 ≤ r3 ∧ r3 < 67108864 ∧ 0 ≤ r4 ∧ r4 < 67108864) := ⟨k1, k2, k3, k4, k5, k6, k7, k8, k9, k10⟩
  have hlo2 : 0 ≤ r0 ∧ r0 < 70000000 ∧ 0 ≤ r1 ∧ r1 < 67108864 ∧ 0 ≤ r2 ∧ r2 < 67108864 ∧ 0 ≤ r3 ∧ r3 < 67108864 ∧ 0 ≤ r4 ∧ r4 < 67108864 := by
    have := hb2.out
    have k2' : r0 < 5 * x2 + 67108864 := k2
    refine ⟨by omega, by omega, k3, k4, k5, k6, k7, k8, k9, k10⟩
  clear k1 k2 k3 k4 k5 k6 k7 k8 k9 k10 hlo
  go_wp2_with fail
  refine (carry_any r0 r1 r2 r3 r4 w2 (by omega) (by omega) (by omega) (by omega) (by omega)).mono ?_
  rintro e w3 ⟨ho3, d0, d1, d2, d3, d4, x3, rfl, hx3, hp3, k1, k2, k3, k4, k5, k6, k7, k8, k9, k10⟩
  obtain ⟨n1, n2, n3⟩ := norm3 ha hp1.out hx1 K1.out hp2.out hx2 K2.out hp3 hx3 ⟨k1, k2, k3, k4, k5, k6, k7, k8, k9, k10⟩
  have n3 := Lib.hid n3
  have hlo3 : 0 ≤ d0 ∧ d0 < 67108864 ∧ 0 ≤ d1 ∧ d1 < 67108864 ∧ 0 ≤ d2 ∧ d2 < 67108864 ∧ 0 ≤ d3 ∧ d3 < 67108864 ∧ 0 ≤ d4 ∧ d4 < 67108864 := ⟨n1, n2, k3, k4, k5, k6, k7, k8, k9, k10⟩
  clear hp1 hp2 hp3 K1 K2 hb1 hb2 hlo2 hx1 hx2 hx3 k1 k2 n1 n2 k3 k4 k5 k6 k7 k8 k9 k10 ha
  generalize x1 + x2 = x at *
  have s3 := ((s0.quiet ho1).quiet ho2).quiet ho3
  clear s0 ho1 ho2 ho3
  have hA3 : w3.heap[A]? = some (.cells #[.int .u64 a0, .int .u64 a1, .int .u64 a2, .int .u64 a3, .int .u64 a4] 39 (0, 0)) := s3.head
  have y0 := cell_in hA3 0
  have y1 := cell_in hA3 1
  have y2 := cell_in hA3 2
  have y3 := cell_in hA3 3
  have y4 := cell_in hA3 4
  have g0 := free_in hA3 0
  have g1 := free_in hA3 1
  have g2 := free_in hA3 2
  have g3 := free_in hA3 3
  have g4 := free_in hA3 4
  have s4 := (((((s3.put 0 (.int .u64 d0)).put 1 (.int .u64 d1)).put 2 (.int .u64 d2)).put 3 (.int .u64 d3)).put 4 (.int .u64 d4))
  clear s3 hA3
  go_upto_region 2 with fail
  generalize hV : World.setCell (World.setCell (World.setCell (World.setCell (World.setCell w3 _ _) _ _) _ _) _ _) _ _ = V at *
  clear hV y0 y1 y2 y3 y4 g0 g1 g2 g3 g4
  have hA4 : V.heap[A]? = some (.cells #[.int .u64 d0, .int .u64 d1, .int .u64 d2, .int .u64 d3, .int .u64 d4] 39 (0, 0)) := s4.head
  have y0 := cell_in hA4 0
  have y1 := cell_in hA4 1
  have y2 := cell_in hA4 2
  have y3 := cell_in hA4 3
  have y4 := cell_in hA4 4
  have s6 := s4.box [.int .u64 (d0 + 5), .int .u64 d1, .int .u64 d2, .int .u64 d3, .int .u64 d4] 39
  clear s4 hA4
  go_wp2_with fail
  generalize hM : V.heap.size = M at *
  clear hM y0 y1 y2 y3 y4
  have hV0 := Lib.hid (mo_start hlo3)
  have s7 : Sep w _ [blk M (List.map (Value.int .u64) [d0 + 5, d1, d2, d3, d4]) 39, blk A [.int .u64 d0, .int .u64 d1, .int .u64 d2, .int .u64 d3, .int .u64 d4] 39] := s6
  clear s6
  go_loopw [21] (fun u21 wr => ∃ (i : Nat) (o : List Int), u21 = .int .i64 i ∧ i ≤ 4 ∧ o.length = 5 ∧ Mo i o ∧ lv B26 o = lv B26 [d0, d1, d2, d3, d4] + 5 ∧ Sep w wr [blk M (o.map (.int .u64)) 39, blk A [.int .u64 d0, .int .u64 d1, .int .u64 d2, .int .u64 d3, .int .u64 d4] 39]) (fun u21 _ => 4 - (intOf u21).toNat)
  case atStart => exact ⟨0, [d0 + 5, d1, d2, d3, d4], rfl, Nat.zero_le _, rfl, hV0.out.1, hV0.out.2.1, s7⟩
  case round =>
    clear s7
    obtain ⟨i, o, rfl, hi, ho0, hm0, hv0, hs⟩ := hrel
    by_cases hi4 : i < 4
    · go_upto_region 7 with fail
      have hs := hs.quiet (Only.drew wr [])
      have hA : A5 M o wr.drew := ⟨hs.head, ho0⟩
      have c1 := hA.cell i (by omega)
      have c2 := hA.cell (i + 1) (by omega)
      have f1 := hA.free i
      have f2 := hA.free (i + 1)
      have b1 := hm0 i (by omega)
      have b2 := hm0 (i + 1) (by omega)
      rw [if_pos rfl] at b1
      rw [if_neg (by omega)] at b2
      have hm2 := Lib.hid (mo_step hm0 hi4 ho0)
      have hv2 : Hid (lv B26 ((o.set (i + 1) (gtI o (i + 1) + gtI o i / 67108864)).set i (gtI o i % 67108864)) = lv B26 [d0, d1, d2, d3, d4] + 5) := (more_step hi4 ho0).trans hv0
      have hL : Hid (((o.set (i + 1) (gtI o (i + 1) + gtI o i / 67108864)).set i (gtI o i % 67108864)).length = 5) := by
        show List.length _ = 5
        rw [List.length_set, List.length_set]; exact ho0
      have hset := (hs.put (i + 1) (.int .u64 (gtI o (i + 1) + gtI o i / 67108864))).put i (.int .u64 (gtI o i % 67108864))
      simp only [← List.map_set] at hset
      have hmask : bits .and .u64 (gtI o i) 67108863 = gtI o i % 67108864 := msk64 (gtI o i) 26 (by omega) (by omega) (by decide)
      clear hA hm0 hv0 ho0 hs
      generalize (o.set (i + 1) (gtI o (i + 1) + gtI o i / 67108864)).set i (gtI o i % 67108864) = o2 at *
      generalize gtI o i = u at *
      generalize gtI o (i + 1) = u2 at *
      have i0 : (0 : Int) ≤ (i : Int) := by omega
      have i1 : (i : Int) < 5 := by omega
      have i2 : (0 : Int) ≤ (i : Int) + 1 := by omega
      have i3 : (i : Int) + 1 < 5 := by omega
      have i4 : ((i : Int) + 1).toNat = i + 1 := by omega
      have i5 : IntKind.i64.wrap ((i : Int) + 1) = (i : Int) + 1 := by simp [IntKind.wrap, IntKind.bits, IntKind.signed]; omega
      have i6 : IntKind.u64.wrap (u2 + u / 67108864) = u2 + u / 67108864 := by simp [IntKind.wrap, IntKind.bits, IntKind.signed]; omega
      go_still_tail 10, (by kernel_rfl)
      change wpList _ _ _ _ _ wr.drew
      generalize wr.drew = w9 at *
      go_wp2_with fail
      exact ⟨⟨i + 1, o2, by simp, by omega, hL.out, hm2.out, hv2.out, hset⟩, by simp [intOf]; omega⟩
    · obtain rfl : i = 4 := by omega
      obtain ⟨q1, q2⟩ := last_sub ho0 (fun j hj => by have := hm0 j (by omega); rwa [if_neg (by omega)] at this) (by have := hm0 4 (by omega); rw [if_pos rfl] at this; omega) hv0 hV0.out.2.2
      have hA : A5 M o wr := ⟨hs.head, ho0⟩
      have c4 := hA.cell 4 (by omega)
      have b4 := hm0 4 (by omega)
      rw [if_pos rfl] at b4
      have hm0 := Lib.hid hm0
      have ho0 := Lib.hid ho0
      have q1 := Lib.hid q1
      have q2 := Lib.hid q2
      clear hA hv0
      have hNA : Hid (lv B26 [d0, d1, d2, d3, d4] % P130 = lv B26 [a0, a1, a2, a3, a4] % P130) := by
        show _ = _
        rw [← n3.out, Int.add_mul_emod_self_left]
      have hmask : bits .and .u64 (gtI o 4) 67108863 = gtI o 4 % 67108864 := msk64 (gtI o 4) 26 (by omega) (by omega) (by decide)
      have f4 := (show A5 M o wr from ⟨hs.head, ho0.out⟩).free 4
      obtain ⟨g4, hg4⟩ : ∃ z, z = gtI o 4 := ⟨_, rfl⟩
      rw [← hg4] at hmask c4 b4
      have q1 : Hid (g4 / 67108864 > 0 → lv B26 (o.set 4 (g4 % 67108864)) = lv B26 [d0, d1, d2, d3, d4] % P130) := hg4 ▸ q1.out
      have q2 : Hid (¬ g4 / 67108864 > 0 → lv B26 [d0, d1, d2, d3, d4] % P130 = lv B26 [d0, d1, d2, d3, d4]) := hg4 ▸ q2.out
      have HG4 := Lib.hid hg4
      clear hg4
      go_upto_if 43 with fail
      go_cut [] from 22 to 48 (fun wx => ∃ l : List Int, l.length = 5 ∧ (∀ j, j < 5 → 0 ≤ gtI l j ∧ gtI l j < 67108864) ∧ lv B26 l = lv B26 [a0, a1, a2, a3, a4] % P130 ∧ Sep w wx [blk A (l.map (.int .u64)) 39])
      case first =>
        by_cases hg : g4 / 67108864 > 0
        · go_upto_region 12 with fail
          have hs := hs.put 4 (.int .u64 (g4 % 67108864))
          rw [← List.map_set] at hs
          generalize World.setCell wr _ _ = V2 at *
          have hL : (o.set 4 (g4 % 67108864)).length = 5 := by rw [List.length_set]; exact ho0.out
          have hb2 : ∀ j, j < 5 → 0 ≤ gtI (o.set 4 (g4 % 67108864)) j ∧ gtI (o.set 4 (g4 % 67108864)) j < 67108864 := fun j hj => by
            by_cases e : j = 4
            · subst e
              rw [gtI_set_same (by rw [ho0.out]; omega)]
              omega
            · rw [gtI_set_ne (fun h => e h.symm)]
              have := hm0.out j hj
              rwa [if_neg e] at this
          have hv := (q1.out hg).trans hNA.out
          generalize o.set 4 (g4 % 67108864) = o2 at *
          obtain ⟨m0, m1, m2, m3, m4, rfl⟩ := list5 o2 hL
          have hM1 : V2.heap[M]? = some (.cells #[.int .u64 m0, .int .u64 m1, .int .u64 m2, .int .u64 m3, .int .u64 m4] 39 (0, 0)) := hs.head
          have hA1 : V2.heap[A]? = some (.cells #[.int .u64 d0, .int .u64 d1, .int .u64 d2, .int .u64 d3, .int .u64 d4] 39 (0, 0)) := hs.tail.head
          have z0 := cell_in hM1 0
          have z1 := cell_in hM1 1
          have z2 := cell_in hM1 2
          have z3 := cell_in hM1 3
          have z4 := cell_in hM1 4
          have y0 := cell_in hA1 0
          have y1 := cell_in hA1 1
          have y2 := cell_in hA1 2
          have y3 := cell_in hA1 3
          have y4 := cell_in hA1 4
          have g0 := free_in hA1 0
          have g1 := free_in hA1 1
          have g2 := free_in hA1 2
          have g3 := free_in hA1 3
          have g4 := free_in hA1 4
          have s9 := Sep.one ((((((hs.up 1 (by simp)).put 0 (.int .u64 m0)).put 1 (.int .u64 m1)).put 2 (.int .u64 m2)).put 3 (.int .u64 m3)).put 4 (.int .u64 m4))
          have hb2 := Lib.hid hb2
          have hv := Lib.hid hv
          clear hs hM1 hA1
          go_wp2_with fail
          go_meet
          case rel => exact ⟨_, hL, hb2.out, hv.out, s9⟩
        · go_wp2_with fail
          go_meet
          case rel => exact ⟨[d0, d1, d2, d3, d4], rfl, fun j hj => by
            rcases (by omega : j = 0 ∨ j = 1 ∨ j = 2 ∨ j = 3 ∨ j = 4) with rfl | rfl | rfl | rfl | rfl <;> simp [gtI] <;> omega, ((q2.out hg).symm.trans hNA.out), Sep.one (hs.up 1 (by simp))⟩
      case rest =>
        clear hmask c4 b4 q1 q2 HG4 f4 hm0 ho0 hs hV0 hNA n3 hlo3
        obtain ⟨l, hl0, hlb, hlv, hs⟩ := hcut
        have hmk : (Instr.makeSlice 22 (.int .i64 16) (.int .i64 16)).run Try.prog wc = _ := make_bytes wc 16 (by decide)
        have s1 : Sep w _ [blk wc.heap.size (fillZ [] 16) 5, blk A (l.map (.int .u64)) 39] := hs.box (List.replicate 16 (Value.int .u8 0)) 5
        have hlb := Lib.hid hlb
        have hlv := Lib.hid hlv
        have hl0 := Lib.hid hl0
        have hl := Lib.hid hl
        rw [hl.out] at hp
        clear hs
        go_wp2_with fail
        generalize hZ : wc.heap.size = Z at *
        clear hmk hZ
        go_loopw [8, 52] (fun u8 u52 wr => ∃ (c : Int) (ys : List Int), u8 = .int .u64 c ∧ u52 = .int .i64 (ys.length : Int) ∧ ys.length ≤ 16 ∧ 0 ≤ c ∧ c ≤ 3 ∧ (∀ y ∈ ys, 0 ≤ y ∧ y < 256) ∧ lv 256 ys + 256 ^ ys.length * c = lv B26 l % 256 ^ ys.length + lv 256 (xs.take ys.length) ∧ Sep w wr [blk Z (fillZ ys 16) 5, blk A (l.map (.int .u64)) 39]) (fun _ u52 _ => 16 - (intOf u52).toNat)
        case atStart => exact ⟨0, [], rfl, rfl, by decide, by omega, by omega, by simp, by simp [lv, Int.emod_one], s1⟩
        case round =>
          clear s1
          obtain ⟨c, ys, rfl, rfl, hi, hc0, hc3, hyb, hv, hs⟩ := hrel
          by_cases hi16 : ys.length < 16
          · obtain ⟨b, of, rfl, hcell⟩ := src_at (hs.src hp) hi16
            obtain ⟨i, hie⟩ : ∃ i, i = ys.length := ⟨_, rfl⟩
            have hc := hcell i (.int .u8 (gtI xs i)) (by rw [List.getElem?_map, List.getElem?_eq_getElem (by rw [hl.out, hie]; exact hi16), gtI_get (by rw [hl.out, hie]; exact hi16)]; rfl)
            have hbb := hx (gtI xs i) (by rw [gtI_get (by rw [hl.out, hie]; exact hi16)]; exact List.getElem_mem _)
            obtain ⟨k, hk⟩ : ∃ k, k = 8 * i / 26 := ⟨_, rfl⟩
            obtain ⟨s, hs2⟩ : ∃ s, s = 8 * i % 26 := ⟨_, rfl⟩
            have hk5 : k < 5 := by omega
            have hs26 : s < 26 := by omega
            have q1 : IntKind.i64.wrap (8 * (i : Int)) = 8 * (i : Int) := IntWalk.i64_in _ (by omega)
            have q2 : (8 * (i : Int)).tdiv 26 = (k : Int) := by rw [Int.tdiv_eq_ediv_of_nonneg (by omega)]; omega
            have q3 : (8 * (i : Int)).tmod 26 = (s : Int) := by rw [Int.tmod_eq_emod_of_nonneg (by omega)]; omega
            have q4 : 8 * (i : Int) / 26 = (k : Int) := by omega
            have q5 : 8 * (i : Int) % 26 = (s : Int) := by omega
            have hA : A5 A l wr := ⟨hs.tail.head, hl0.out⟩
            have hZ1 : wr.heap[Z]? = some (.cells (fillZ ys 16).toArray 5 (0, 0)) := hs.head
            have fz := free_in hZ1 i
            have cz : wr.cell? ⟨Z, i, none⟩ = some (.int .u8 0) := by
              rw [cell_in hZ1 i, List.getElem?_toArray, hie]; exact fillZ_at hi16
            have hck := hA.cell k hk5
            have hok := hlb.out k hk5
            have hba := byte_at (k := k) (s := s) hl0.out hlb.out (i := i) (by omega) (by omega) hs26
            have hput := fun z : Int => hs.put ys.length (.int .u8 z)
            simp only [fillZ_set hi16] at hput
            have hmem : Hid (∀ z, 0 ≤ z ∧ z < 256 → ∀ y ∈ ys ++ [z], 0 ≤ y ∧ y < 256) := fun z hz y hy => by
              rcases List.mem_append.1 hy with hy | hy
              · exact hyb y hy
              · obtain rfl : y = z := by simpa using hy
                exact hz
            have hst := fun (x : Int) (hx : x = lv B26 l / 256 ^ i % 256) => sum_step (V := lv B26 l) (c := c) (x := x) (c2 := 0) (ys := ys) (xs := xs) (i := i) (by rw [hl.out, hie]; exact hi16) hie.symm (by rw [hie]; exact hv) hx
            have HST := Lib.hid hst
            have HIE := Lib.hid hie
            have hyb := Lib.hid hyb
            have HK := Lib.hid hk
            have HS := Lib.hid hs2
            rw [← hie] at hput hi16 ⊢
            have hmsk := fun (X : Int) h0 h1 => msk64 X 8 h0 h1 (by decide)
            by_cases hk4 : k < 4
            · have hck2 := hA.cell (k + 1) (by omega)
              have hok2 := hlb.out (k + 1) (by omega)
              obtain ⟨⟨t0, t1⟩, t2, t3, t4, t5⟩ := two_parts hs26 hok hok2
              have hb1 := hba.1 hk4
              generalize gtI l k = u at *
              generalize gtI l (k + 1) = v at *
              generalize gtI xs i = x at *
              have hm : bits .and .u64 (u / 2 ^ s + v * 2 ^ (26 - s)) 255 = (u / 2 ^ s + v * 2 ^ (26 - s)) % 256 := hmsk _ (by omega) (by omega)
              have hB : Hid (lv 256 (ys ++ [(c + ((u / 2 ^ s + v * 2 ^ (26 - s)) % 256 + x)) % 256]) + 256 ^ (i + 1) * ((c + ((u / 2 ^ s + v * 2 ^ (26 - s)) % 256 + x)) / 256) = lv B26 l % 256 ^ (i + 1) + lv 256 (xs.take (i + 1))) := HST.out _ hb1
              obtain ⟨bb, hbe⟩ : ∃ z, z = (u / 2 ^ s + v * 2 ^ (26 - s)) % 256 := ⟨_, rfl⟩
              have hbd : 0 ≤ bb ∧ bb < 256 := by omega
              rw [← hbe] at hm hB
              have r1 : IntKind.i64.wrap (26 - (s : Int)) = 26 - (s : Int) := IntWalk.i64_in _ (by omega)
              have r2 : (26 - (s : Int)).toNat = 26 - s := by omega
              have r3 : 0 ≤ 26 - (s : Int) := by omega
              have r4 : ((k : Int) + 1).toNat = k + 1 := by omega
              have r5 : (k : Int) + 1 < 5 := by omega
              have r6 : (0 : Int) ≤ (k : Int) + 1 := by omega
              have r7 : (k : Int) < 4 := by omega
              have r8 : IntKind.u64.wrap (c + (bb + x)) = c + (bb + x) := by simp [IntKind.wrap, IntKind.bits, IntKind.signed]; omega
              have r9 : ((26 - s : Nat) : Int) = 26 - (s : Int) := by omega
              clear hba hb1 hie hk hs2 hmsk hst hA hZ1 hcell hbe HST hs
              go_wp2_with fail
              refine ⟨⟨(c + (bb + x)) / 256, ys ++ [(c + (bb + x)) % 256], rfl, by simp [← HIE.out], by simp [← HIE.out]; omega, by omega, by omega, hmem.out _ ⟨by omega, by omega⟩, ?_, hput _⟩, by simp [intOf]; omega⟩
              rw [List.length_append, List.length_singleton, ← HIE.out]
              exact hB.out
            · obtain rfl : k = 4 := by omega
              have hb1 := hba.2 rfl
              have hp : (0 : Int) < 2 ^ s := Int.pow_pos (by decide)
              have t0 : 0 ≤ gtI l 4 / 2 ^ s := Int.ediv_nonneg hok.1 (Int.le_of_lt hp)
              have t1 : gtI l 4 / 2 ^ s ≤ gtI l 4 := Int.ediv_le_self _ hok.1
              generalize gtI l 4 = u at *
              generalize gtI xs i = x at *
              have hm : bits .and .u64 (u / 2 ^ s) 255 = (u / 2 ^ s) % 256 := hmsk _ (by omega) (by omega)
              have hB : Hid (lv 256 (ys ++ [(c + ((u / 2 ^ s) % 256 + x)) % 256]) + 256 ^ (i + 1) * ((c + ((u / 2 ^ s) % 256 + x)) / 256) = lv B26 l % 256 ^ (i + 1) + lv 256 (xs.take (i + 1))) := HST.out _ hb1
              obtain ⟨bb, hbe⟩ : ∃ z, z = (u / 2 ^ s) % 256 := ⟨_, rfl⟩
              have hbd : 0 ≤ bb ∧ bb < 256 := by omega
              rw [← hbe] at hm hB
              have r8 : IntKind.u64.wrap (c + (bb + x)) = c + (bb + x) := by simp [IntKind.wrap, IntKind.bits, IntKind.signed]; omega
              clear hba hb1 hie hk hs2 hmsk hst hA hZ1 hcell hbe HST hs hp
              go_wp2_with fail
              refine ⟨⟨(c + (bb + x)) / 256, ys ++ [(c + (bb + x)) % 256], rfl, by simp [← HIE.out], by simp [← HIE.out]; omega, by omega, by omega, hmem.out _ ⟨by omega, by omega⟩, ?_, hput _⟩, by simp [intOf]; omega⟩
              rw [List.length_append, List.length_singleton, ← HIE.out]
              exact hB.out
          · have h16 : ys.length = 16 := by omega
            have hZ1 : wr.heap[Z]? = some (.cells (fillZ ys 16).toArray 5 (0, 0)) := hs.head
            have hnew := hs.new _ (List.mem_cons_self ..) Z (by simp [blk])
            have hfz : fillZ ys 16 = ys.map (.int .u8) := by simp [fillZ, h16]
            rw [hfz] at hZ1
            have hys : ys = dg 256 (lv B26 [a0, a1, a2, a3, a4] % P130 + lv 256 xs) 16 := by
              refine dg_of (by decide) h16 hyb (c := c + lv B26 l / 256 ^ 16) ?_
              rw [h16, List.take_of_length_le (by rw [hl.out]; exact Nat.le_refl _)] at hv
              rw [← hlv.out, Int.mul_add]
              have e := Int.mul_ediv_add_emod (lv B26 l) (256 ^ 16)
              omega
            have hys := Lib.hid hys
            have hv := Lib.hid hv
            have hyb := Lib.hid hyb
            have hZ1 := Lib.hid hZ1
            have h16 := Lib.hid h16
            have ho := Lib.hid hs.only
            clear hs hp hx hlb hlv hfz
            go_wp2_with fail
            go_ret
            rw [← hys.out]
            refine ⟨_, rfl, ⟨by simp, .inr ⟨Z, 16, _, by rw [h16.out]; rfl, Nat.zero_le _, hZ1.out, by rw [h16.out]; exact Nat.le_refl _, by unfold maxLen; omega, by simp [h16.out], ?_⟩⟩, fun k hk => .inr (by simp [Value.ownBlock] at hk; omega), ho.out⟩
            rw [List.take_of_length_le (by simp [h16.out])]
end Go.Proofs.Ytemmdhfmdgpfmaa
