/- The contract of mul of layer 5 (chacha): the product modulo 2^130 - 5. -/
import Derived.Test.YtemmdhfmdgpfmaaTag1
namespace Go.Proofs.Ytemmdhfmdgpfmaa
open Go.RowKit Go.Pw
set_option linter.unusedVariables false

theorem mul_step {a b o : List Int} {i k : Nat} {q : Int} (hi : i < 5) (hk : k < 5) (ha : a.length = 5) (hb : b.length = 5) (ho : o.length = 5)
    (h : lv B26 o + P130 * q = lv B26 (a.take i) * lv B26 b + B26 ^ i * gtI a i * lv B26 (b.take k)) :
    (i + k < 5 → lv B26 (o.set (i + k) (gtI o (i + k) + gtI a i * gtI b k)) + P130 * q = lv B26 (a.take i) * lv B26 b + B26 ^ i * gtI a i * lv B26 (b.take (k + 1))) ∧
    (5 ≤ i + k → lv B26 (o.set (i + k - 5) (gtI o (i + k - 5) + 5 * gtI a i * gtI b k)) + P130 * (q + B26 ^ (i + k - 5) * (gtI a i * gtI b k)) = lv B26 (a.take i) * lv B26 b + B26 ^ i * gtI a i * lv B26 (b.take (k + 1))) := by
  have e1 : lv B26 (b.take (k + 1)) = lv B26 (b.take k) + B26 ^ k * gtI b k := lv_take_succ B26 (by omega)
  have e2 : B26 ^ i * gtI a i * lv B26 (b.take (k + 1)) = B26 ^ i * gtI a i * lv B26 (b.take k) + B26 ^ (i + k) * (gtI a i * gtI b k) := by
    rw [e1, Int.mul_add, Int.pow_add]
    congr 1
    generalize B26 ^ i = x
    generalize B26 ^ k = y
    rw [Int.mul_assoc, Int.mul_assoc]
    congr 1
    rw [← Int.mul_assoc, Int.mul_comm (gtI a i) y, Int.mul_assoc]
  constructor
  · intro hlt
    rw [lv_set B26 (by omega), e2]
    have : gtI o (i + k) + gtI a i * gtI b k - gtI o (i + k) = gtI a i * gtI b k := by omega
    rw [this]
    generalize B26 ^ (i + k) * (gtI a i * gtI b k) = z at *
    omega
  · intro hge
    rw [lv_set B26 (by omega), e2]
    have e3 : gtI o (i + k - 5) + 5 * gtI a i * gtI b k - gtI o (i + k - 5) = 5 * (gtI a i * gtI b k) := by rw [Int.mul_assoc]; omega
    have e4 : B26 ^ (i + k) = B26 ^ (i + k - 5) * (P130 + 5) := by rw [← p130, ← Int.pow_add]; congr 1; omega
    rw [e3, e4]
    generalize gtI a i * gtI b k = z at *
    generalize B26 ^ (i + k - 5) = y at *
    have e5 : y * (5 * z) = 5 * (y * z) := by rw [← Int.mul_assoc, Int.mul_comm y 5, Int.mul_assoc]
    have e6 : y * (P130 + 5) * z = P130 * (y * z) + 5 * (y * z) := by rw [Int.mul_comm y, Int.mul_assoc, Int.add_mul]
    rw [e5, e6, Int.mul_add]
    omega

/-- An element of an array that is a value. -/
theorem idx5 (a0 a1 a2 a3 a4 : Int) (k : Nat) (hk : k < 5) (w : World) :
    (Instr.index 39 (.agg #[.int .u64 a0, .int .u64 a1, .int .u64 a2, .int .u64 a3, .int .u64 a4]) (.int .i64 (k : Int))).run Try.prog w = .ok (.int .u64 (gtI [a0, a1, a2, a3, a4] k)) w := by
  rcases (by omega : k = 0 ∨ k = 1 ∨ k = 2 ∨ k = 3 ∨ k = 4) with rfl | rfl | rfl | rfl | rfl <;> kernel_rfl

def M5 : Int := 805306368000000000
/-- The bounds of what is being summed. -/
def Bds (i k : Nat) (o : List Int) : Prop := ∀ j, j < 5 → 0 ≤ gtI o j ∧ gtI o j ≤ ((i : Int) + (if (j + 5 - i) % 5 < k then 1 else 0)) * M5

theorem bds_at {i k : Nat} {o : List Int} (h : Bds i k o) (hi : i < 5) (hk : k < 5) (ho : o.length = 5) (x : Int) (hx : 0 ≤ x ∧ x ≤ M5) : gtI o ((i + k) % 5) ≤ 4 * M5 ∧ 0 ≤ gtI o ((i + k) % 5) ∧ Bds i (k + 1) (o.set ((i + k) % 5) (gtI o ((i + k) % 5) + x)) := by
  have ht : (i + k) % 5 < 5 := Nat.mod_lt _ (by decide)
  have he : ((i + k) % 5 + 5 - i) % 5 = k := by omega
  have h0 := h _ ht
  rw [he, if_neg (by omega)] at h0
  have h1 : gtI o ((i + k) % 5) ≤ (i : Int) * M5 := by simpa using h0.2
  refine ⟨Int.le_trans h1 (Int.mul_le_mul_of_nonneg_right (by omega) (by decide)), h0.1, fun j hj => ?_⟩
  by_cases hjt : j = (i + k) % 5
  · subst hjt
    rw [gtI_set_same (by omega), he, if_pos (by omega), Int.add_mul, Int.one_mul]
    exact ⟨by omega, by omega⟩
  · rw [gtI_set_ne (Ne.symm hjt)]
    have h2 := h j hj
    refine ⟨h2.1, Int.le_trans h2.2 (Int.mul_le_mul_of_nonneg_right ?_ (by decide))⟩
    by_cases h3 : (j + 5 - i) % 5 < k
    · rw [if_pos h3, if_pos (by omega)]; omega
    · rw [if_neg h3, if_neg (by omega)]; omega
theorem bds_next {i : Nat} {o : List Int} (h : Bds i 5 o) (hi : i < 5) : Bds (i + 1) 0 o := fun j hj => by
  have := h j hj
  rw [if_pos (Nat.mod_lt _ (by decide))] at this
  refine ⟨this.1, ?_⟩
  simpa using this.2

/-- What mul leaves. -/
def Muled (a b : List Int) (w : World) (e : Ending) (w' : World) : Prop :=
  Only w w' [] ∧ ∃ c0 c1 c2 c3 c4 q : Int, e = .returned (.agg #[.int .u64 c0, .int .u64 c1, .int .u64 c2, .int .u64 c3, .int .u64 c4]) ∧ lv B26 [c0, c1, c2, c3, c4] + P130 * q = lv B26 a * lv B26 b ∧ 0 ≤ c0 ∧ c0 < 67108870 ∧ 0 ≤ c1 ∧ c1 < 67108864 ∧ 0 ≤ c2 ∧ c2 < 67108864 ∧ 0 ≤ c3 ∧ c3 < 67108864 ∧ 0 ≤ c4 ∧ c4 < 67108864

set_option maxRecDepth 100000 in
set_option maxHeartbeats 3200000 in
theorem mul_any (a0 a1 a2 a3 a4 b0 b1 b2 b3 b4 : Int) (w : World) (ha0 : 0 ≤ a0 ∧ a0 ≤ 536870912) (ha1 : 0 ≤ a1 ∧ a1 ≤ 536870912) (ha2 : 0 ≤ a2 ∧ a2 ≤ 536870912) (ha3 : 0 ≤ a3 ∧ a3 ≤ 536870912) (ha4 : 0 ≤ a4 ∧ a4 ≤ 536870912)
    (hb0 : 0 ≤ b0 ∧ b0 ≤ 300000000) (hb1 : 0 ≤ b1 ∧ b1 ≤ 300000000) (hb2 : 0 ≤ b2 ∧ b2 ≤ 300000000) (hb3 : 0 ≤ b3 ∧ b3 ≤ 300000000) (hb4 : 0 ≤ b4 ∧ b4 ≤ 300000000) :
    Calls Try.prog 20 #[.agg #[.int .u64 a0, .int .u64 a1, .int .u64 a2, .int .u64 a3, .int .u64 a4], .agg #[.int .u64 b0, .int .u64 b1, .int .u64 b2, .int .u64 b3, .int .u64 b4]] w (Muled [a0, a1, a2, a3, a4] [b0, b1, b2, b3, b4] w) := by
  have hab : ∀ k, k < 5 → 0 ≤ gtI [a0, a1, a2, a3, a4] k ∧ gtI [a0, a1, a2, a3, a4] k ≤ 536870912 := by
    intro k hk
    rcases (by omega : k = 0 ∨ k = 1 ∨ k = 2 ∨ k = 3 ∨ k = 4) with rfl | rfl | rfl | rfl | rfl <;> simpa [gtI]
  have hbb : ∀ k, k < 5 → 0 ≤ gtI [b0, b1, b2, b3, b4] k ∧ gtI [b0, b1, b2, b3, b4] k ≤ 300000000 := by
    intro k hk
    rcases (by omega : k = 0 ∨ k = 1 ∨ k = 2 ∨ k = 3 ∨ k = 4) with rfl | rfl | rfl | rfl | rfl <;> simpa [gtI]
  have hia := idx5 a0 a1 a2 a3 a4
  have hib := idx5 b0 b1 b2 b3 b4
  have hia := Lib.hid hia
  have hib := Lib.hid hib
  clear ha0 ha1 ha2 ha3 ha4 hb0 hb1 hb2 hb3 hb4
  go_enter Try.func20, Try.ntmps20
  go_wp2_with fail
  have s0 := (((((Sep.nil w).box [.int .u64 a0, .int .u64 a1, .int .u64 a2, .int .u64 a3, .int .u64 a4] 39).box [.int .u64 b0, .int .u64 b1, .int .u64 b2, .int .u64 b3, .int .u64 b4] 39)).box [.int .u64 0, .int .u64 0, .int .u64 0, .int .u64 0, .int .u64 0] 39).box [.int .u64 0, .int .u64 0, .int .u64 0, .int .u64 0, .int .u64 0] 39
  simp only [World.size_alloc] at s0
  generalize hX : w.heap.size = X at *
  generalize hY : X + 1 = Y at *
  generalize hZ : Y + 1 = Z at *
  generalize hO : Z + 1 = O at *
  have HX := Lib.hid hX
  clear hX hY hZ hO
  have s0 : Sep w _ [blk O ([0, 0, 0, 0, 0].map (.int .u64)) 39, blk Z [.int .u64 0, .int .u64 0, .int .u64 0, .int .u64 0, .int .u64 0] 39, blk Y [.int .u64 b0, .int .u64 b1, .int .u64 b2, .int .u64 b3, .int .u64 b4] 39] := (s0.up 3 (by simp)).tail
  go_loopw [11] (fun u11 wr => ∃ (i : Nat) (o : List Int) (q : Int), u11 = .int .i64 i ∧ i ≤ 5 ∧ o.length = 5 ∧ Bds i 0 o ∧ lv B26 o + P130 * q = lv B26 ([a0, a1, a2, a3, a4].take i) * lv B26 [b0, b1, b2, b3, b4] ∧ Sep w wr [blk O (o.map (.int .u64)) 39, blk Z [.int .u64 0, .int .u64 0, .int .u64 0, .int .u64 0, .int .u64 0] 39, blk Y [.int .u64 b0, .int .u64 b1, .int .u64 b2, .int .u64 b3, .int .u64 b4] 39]) (fun u11 _ => 5 - (intOf u11).toNat)
  case atStart => exact ⟨0, [0, 0, 0, 0, 0], 0, rfl, by omega, rfl, fun j hj => by
    rcases (by omega : j = 0 ∨ j = 1 ∨ j = 2 ∨ j = 3 ∨ j = 4) with rfl | rfl | rfl | rfl | rfl <;> simp [gtI], by simp [lv], s0⟩
  case round =>
    clear s0
    obtain ⟨i, o, q, rfl, hi5, ho0, hb0, hv0, hs⟩ := hrel
    by_cases hi : i < 5
    · have hx := hia.out i hi
      have hxb := hab i hi
      obtain ⟨x, hx0⟩ : ∃ x, gtI [a0, a1, a2, a3, a4] i = x := ⟨_, rfl⟩
      rw [hx0] at hx hxb
      have hY1 : wr.heap[Y]? = some (.cells #[.int .u64 b0, .int .u64 b1, .int .u64 b2, .int .u64 b3, .int .u64 b4] 39 (0, 0)) := hs.tail.tail.head
      have y0 := cell_in hY1 0
      have y1 := cell_in hY1 1
      have y2 := cell_in hY1 2
      have y3 := cell_in hY1 3
      have y4 := cell_in hY1 4
      have hst : Hid (lv B26 o + P130 * q = lv B26 ([a0, a1, a2, a3, a4].take i) * lv B26 [b0, b1, b2, b3, b4] + B26 ^ i * gtI [a0, a1, a2, a3, a4] i * lv B26 ([b0, b1, b2, b3, b4].take 0)) := by
        show lv B26 o + P130 * q = _
        rw [hv0]; simp [lv]
      have hx0 := Lib.hid hx0
      have ho := Lib.hid ho0
      have hb := Lib.hid hb0
      clear hv0 ho0 hb0 hY1
      go_wp2_with fail
      clear y0 y1 y2 y3 y4
      go_loopw [16] (fun u16 wr => ∃ (k : Nat) (o : List Int) (q : Int), u16 = .int .i64 k ∧ k ≤ 5 ∧ o.length = 5 ∧ Bds i k o ∧ lv B26 o + P130 * q = lv B26 ([a0, a1, a2, a3, a4].take i) * lv B26 [b0, b1, b2, b3, b4] + B26 ^ i * gtI [a0, a1, a2, a3, a4] i * lv B26 ([b0, b1, b2, b3, b4].take k) ∧ Sep w wr [blk O (o.map (.int .u64)) 39, blk Z [.int .u64 0, .int .u64 0, .int .u64 0, .int .u64 0, .int .u64 0] 39, blk Y [.int .u64 b0, .int .u64 b1, .int .u64 b2, .int .u64 b3, .int .u64 b4] 39]) (fun u16 _ => 5 - (intOf u16).toNat)
      case atStart => exact ⟨0, o, q, rfl, by omega, ho.out, hb.out, hst.out, hs⟩
      case round =>
        clear hs hst ho hb
        clear o q
        obtain ⟨k, o, q, rfl, hk5, ho0, hb0, hv0, hs⟩ := hrel
        by_cases hk : k < 5
        · have hy := hib.out k hk
          have hyb := hbb k hk
          obtain ⟨m1, m2⟩ := mul_step hi hk (a := [a0, a1, a2, a3, a4]) (b := [b0, b1, b2, b3, b4]) rfl rfl ho0 hv0
          rw [hx0.out] at m1 m2
          have hA : A5 O o wr := ⟨hs.head, ho0⟩
          have ho := Lib.hid ho0
          have hb := Lib.hid hb0
          obtain ⟨y, hy0⟩ : ∃ y, gtI [b0, b1, b2, b3, b4] k = y := ⟨_, rfl⟩
          rw [hy0] at hy hyb m1 m2
          have hy0 := Lib.hid hy0
          have hxy0 : 0 ≤ x * y := Int.mul_nonneg hxb.1 hyb.1
          have hxy1 : x * y ≤ 536870912 * 300000000 := Int.le_trans (Int.mul_le_mul_of_nonneg_right hxb.2 hyb.1) (Int.mul_le_mul_of_nonneg_left hyb.2 (by omega))
          by_cases hik : i + k < 5
          · have hc := hA.cell (i + k) hik
            have hf := hA.free (i + k)
            have hb' := bds_at hb0 hi hk ho0 (x * y) ⟨hxy0, by unfold M5; omega⟩
            rw [Nat.mod_eq_of_lt hik] at hb'
            unfold M5 at hb'
            obtain ⟨hu1, hu0, hbn⟩ := hb'
            have Hbn := Lib.hid hbn
            have M1 := Lib.hid (m1 hik)
            have hset := hs.put (i + k) (.int .u64 (gtI o (i + k) + x * y))
            rw [← List.map_set] at hset
            have d : decide ((i : Int) + k < 5) = true := by simp; omega
            have hto : ((i : Int) + k).toNat = i + k := by omega
            have hxyw : IntKind.u64.wrap (x * y) = x * y := by simp [IntKind.wrap, IntKind.bits, IntKind.signed]; omega
            have hOl := Lib.hid (show (o.set (i + k) (gtI o (i + k) + x * y)).length = 5 by rw [List.length_set]; exact ho0)
            clear ho0 hb0 hv0 m1 m2 hA hbn
            generalize o.set (i + k) (gtI o (i + k) + x * y) = o2 at *
            generalize gtI o (i + k) = u at *
            go_wp2_with fail
            exact ⟨⟨k + 1, o2, q, by simp, by omega, hOl.out, Hbn.out, by rw [hx0.out]; exact M1.out, hset⟩, by simp [intOf]; omega⟩
          · have hge : 5 ≤ i + k := by omega
            have h5lt : i + k - 5 < 5 := by omega
            have hc := hA.cell (i + k - 5) h5lt
            have hf := hA.free (i + k - 5)
            have e5 : 5 * x * y = 5 * (x * y) := Int.mul_assoc _ _ _
            have hb' := bds_at hb0 hi hk ho0 (5 * x * y) (by rw [e5]; unfold M5; omega)
            rw [show (i + k) % 5 = i + k - 5 by omega] at hb'
            unfold M5 at hb'
            obtain ⟨hu1, hu0, hbn⟩ := hb'
            have Hbn := Lib.hid hbn
            have M2 := Lib.hid (m2 hge)
            have hset := hs.put (i + k - 5) (.int .u64 (gtI o (i + k - 5) + 5 * x * y))
            rw [← List.map_set] at hset
            have d : decide ((i : Int) + k < 5) = false := by simp; omega
            have hto : ((i : Int) + k - 5).toNat = i + k - 5 := by omega
            have hi0 : 0 ≤ (i : Int) + k - 5 := by omega
            have h50 : 0 ≤ 5 * x * y := by rw [e5]; omega
            have h51 : 5 * x * y ≤ 805306368000000000 := by rw [e5]; omega
            have hxyw : IntKind.u64.wrap (5 * x * y) = 5 * x * y := by simp [IntKind.wrap, IntKind.bits, IntKind.signed]; omega
            have hOl := Lib.hid (show (o.set (i + k - 5) (gtI o (i + k - 5) + 5 * x * y)).length = 5 by rw [List.length_set]; exact ho0)
            clear ho0 hb0 hv0 m1 m2 hA hbn e5
            generalize o.set (i + k - 5) (gtI o (i + k - 5) + 5 * x * y) = o2 at *
            generalize gtI o (i + k - 5) = u at *
            go_wp2_with fail
            exact ⟨⟨k + 1, o2, _, by simp, by omega, hOl.out, Hbn.out, by rw [hx0.out]; exact M2.out, hset⟩, by simp [intOf]; omega⟩
        · obtain rfl : k = 5 := by omega
          have hbn := Lib.hid (bds_next hb0 hi)
          have hvn : Hid (lv B26 o + P130 * q = lv B26 ([a0, a1, a2, a3, a4].take (i + 1)) * lv B26 [b0, b1, b2, b3, b4]) := by
            show _ = _
            rw [hv0, lv_take_succ B26 (l := [a0, a1, a2, a3, a4]) (k := i) hi, Int.add_mul]
            rfl
          have ho := Lib.hid ho0
          clear ho0 hb0 hv0
          go_wp2_with fail
          exact ⟨⟨i + 1, o, q, by simp, by omega, ho.out, hbn.out, hvn.out, hs⟩, by simp [intOf]; omega⟩
    · obtain rfl : i = 5 := by omega
      obtain ⟨o0, o1, o2, o3, o4, rfl⟩ := list5 o ho0
      have e0 := hb0 0 (by omega)
      have e1 := hb0 1 (by omega)
      have e2 := hb0 2 (by omega)
      have e3 := hb0 3 (by omega)
      have e4 := hb0 4 (by omega)
      simp [gtI, M5] at e0 e1 e2 e3 e4
      have hO1 : wr.heap[O]? = some (.cells #[.int .u64 o0, .int .u64 o1, .int .u64 o2, .int .u64 o3, .int .u64 o4] 39 (0, 0)) := hs.head
      have c0 := cell_in hO1 0
      have c1 := cell_in hO1 1
      have c2 := cell_in hO1 2
      have c3 := cell_in hO1 3
      have c4 := cell_in hO1 4
      have hv := Lib.hid hv0
      clear hv0 hb0 hO1
      go_wp2_with fail
      refine (carry_any o0 o1 o2 o3 o4 wr (by omega) (by omega) (by omega) (by omega) (by omega)).mono ?_
      rintro e w2 ⟨ho2, p0, p1, p2, p3, p4, x1, rfl, hx1, hp, k1, k2, k3, k4, k5, k6, k7, k8, k9, k10⟩
      have hp := Lib.hid hp
      have hpb : Hid (x1 ≤ 100000000000) := by
        have := hp.out
        simp only [lv, P130, B26] at this
        show x1 ≤ 100000000000
        omega
      clear c0 c1 c2 c3 c4
      have k2' : p0 < 600000000000 := by have := hpb.out; have : p0 < 5 * x1 + 67108864 := k2; omega
      go_wp2_with fail
      refine (carry_any p0 p1 p2 p3 p4 w2 (by omega) (by omega) (by omega) (by omega) (by omega)).mono ?_
      rintro e w3 ⟨ho3, r0, r1, r2, r3, r4, x2, rfl, hx2, hr, j1, j2, j3, j4, j5, j6, j7, j8, j9, j10⟩
      have hr := Lib.hid hr
      have hrb : Hid (x2 ≤ 1) := by
        have := hr.out
        simp only [lv, P130, B26] at this
        show x2 ≤ 1
        have k4' : p1 < 67108864 := k4
        have k6' : p2 < 67108864 := k6
        have k8' : p3 < 67108864 := k8
        have k10' : p4 < 67108864 := k10
        omega
      have s3 := (hs.quiet ho2).quiet ho3
      have hZ1 : w3.heap[Z]? = some (.cells #[.int .u64 0, .int .u64 0, .int .u64 0, .int .u64 0, .int .u64 0] 39 (0, 0)) := s3.tail.head
      have y0 := cell_in hZ1 0
      have y1 := cell_in hZ1 1
      have y2 := cell_in hZ1 2
      have y3 := cell_in hZ1 3
      have y4 := cell_in hZ1 4
      have g0 := free_in hZ1 0
      have g1 := free_in hZ1 1
      have g2 := free_in hZ1 2
      have g3 := free_in hZ1 3
      have g4 := free_in hZ1 4
      have s4 := ((((((s3.up 1 (by simp)).put 0 (.int .u64 r0)).put 1 (.int .u64 r1)).put 2 (.int .u64 r2)).put 3 (.int .u64 r3)).put 4 (.int .u64 r4))
      clear hs s3 hZ1
      go_wp2_with fail
      generalize hV : World.setCell (World.setCell (World.setCell (World.setCell (World.setCell w3 _ _) _ _) _ _) _ _) _ _ = V at *
      clear hV y0 y1 y2 y3 y4 g0 g1 g2 g3 g4
      have hZ2 : V.heap[Z]? = some (.cells #[.int .u64 r0, .int .u64 r1, .int .u64 r2, .int .u64 r3, .int .u64 r4] 39 (0, 0)) := s4.head
      have z0 := cell_in hZ2 0
      have z1 := cell_in hZ2 1
      have z2 := cell_in hZ2 2
      have z3 := cell_in hZ2 3
      have z4 := cell_in hZ2 4
      refine bodyPost_ret (v := .agg #[.int .u64 r0, .int .u64 r1, .int .u64 r2, .int .u64 r3, .int .u64 r4]) (by simp [results, Try.results20, go_sem, z0, z1, z2, z3, z4]) rfl ⟨s4.only, _, _, _, _, _, q + x1 + x2, rfl, ?_, by omega, ?_, j3, j4, j5, j6, j7, j8, j9, j10⟩
      · have h1 := hv.out
        have h2 := hp.out
        have h3 := hr.out
        simp only [List.take_succ_cons, List.take_zero] at h1
        rw [← h1, ← h2, ← h3, Int.mul_add, Int.mul_add]
        generalize lv B26 [r0, r1, r2, r3, r4] = zz
        omega
      · have := hrb.out
        have j2' : r0 < 5 * x2 + 67108864 := j2
        omega
end Go.Proofs.Ytemmdhfmdgpfmaa
