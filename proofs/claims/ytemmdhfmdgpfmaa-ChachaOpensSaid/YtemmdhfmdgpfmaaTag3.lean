/- The contract of parts of layer 5 (chacha): bytes as a number in five parts. -/
import Derived.Test.YtemmdhfmdgpfmaaTag2
namespace Go.Proofs.Ytemmdhfmdgpfmaa
open Go.RowKit Go.Pw
set_option linter.unusedVariables false

/-- The bounds of the parts behind so many bytes. -/
def cnt : Nat → Nat → Int
  | 0, _ => 0
  | i + 1, j => cnt i j + (if 8 * i / 26 = j then 67108863 else 0) + (if 8 * i / 26 + 1 = j then 255 else 0)
theorem cnt_le : ∀ i, i < 18 → ∀ j, j < 5 → cnt i j ≤ 268436480 := by decide
def PBs (i : Nat) (o : List Int) : Prop := ∀ j, j < 5 → 0 ≤ gtI o j ∧ gtI o j ≤ cnt i j

theorem p26 (i k s : Nat) (h : 8 * i = 26 * k + s) : (256 : Int) ^ i = B26 ^ k * 2 ^ s := by
  rw [show (256 : Int) = 2 ^ 8 by decide, show B26 = 2 ^ 26 by decide, ← Int.pow_mul, ← Int.pow_mul, ← Int.pow_add, h]

/-- One byte more: its two parts are laid. -/
theorem part_step {xs o : List Int} {i k : Nat} {x : Int} (hi : i < xs.length) (ho : o.length = 5) (hk : k = 8 * i / 26) (hk4 : k < 4) (hx : x = gtI xs i * 2 ^ (8 * i % 26)) (hx1 : 0 ≤ x ∧ x < 17179869184) (hb : PBs i o) (h : lv B26 o = lv 256 (xs.take i)) :
    lv B26 ((o.set k (gtI o k + x % 67108864)).set (k + 1) (gtI o (k + 1) + x / 67108864)) = lv 256 (xs.take (i + 1)) ∧ PBs (i + 1) ((o.set k (gtI o k + x % 67108864)).set (k + 1) (gtI o (k + 1) + x / 67108864)) := by
  constructor
  · rw [lv_set B26 (by rw [List.length_set]; omega), lv_set B26 (by omega), gtI_set_ne (by omega), lv_take_succ 256 hi, h, p26 i k (8 * i % 26) (by omega)]
    have e : x = 67108864 * (x / 67108864) + x % 67108864 := (Int.mul_ediv_add_emod x 67108864).symm
    have hz : B26 ^ k * 2 ^ (8 * i % 26) * gtI xs i = B26 ^ k * x := by rw [hx, Int.mul_assoc, Int.mul_comm (gtI xs i)]
    rw [hz, Int.pow_succ]
    have e1 : gtI o k + x % 67108864 - gtI o k = x % 67108864 := by omega
    have e2 : gtI o (k + 1) + x / 67108864 - gtI o (k + 1) = x / 67108864 := by omega
    rw [e1, e2, Int.add_assoc, Int.mul_assoc, ← Int.mul_add]
    congr 2
    show x % 67108864 + 67108864 * (x / 67108864) = x
    omega
  · intro j hj
    have hb' := hb j hj
    simp only [cnt]
    rw [← hk]
    by_cases h1 : j = k
    · subst h1
      rw [gtI_set_ne (by omega), gtI_set_same (by omega), if_pos rfl, if_neg (by omega)]
      omega
    · by_cases h2 : j = k + 1
      · subst h2
        rw [gtI_set_same (by rw [List.length_set]; omega), if_neg (by omega), if_pos rfl]
        omega
      · rw [gtI_set_ne (by omega), gtI_set_ne (by omega), if_neg (by omega), if_neg (by omega)]
        omega
theorem part_step4 {xs o : List Int} {i : Nat} {x : Int} (hi : i < xs.length) (ho : o.length = 5) (hk : 8 * i / 26 = 4) (hx : x = gtI xs i * 2 ^ (8 * i % 26)) (hx1 : 0 ≤ x ∧ x < 67108864) (hb : PBs i o) (h : lv B26 o = lv 256 (xs.take i)) :
    lv B26 (o.set 4 (gtI o 4 + x)) = lv 256 (xs.take (i + 1)) ∧ PBs (i + 1) (o.set 4 (gtI o 4 + x)) := by
  constructor
  · rw [lv_set B26 (by omega), lv_take_succ 256 hi, h, p26 i 4 (8 * i % 26) (by omega)]
    have e1 : gtI o 4 + x - gtI o 4 = x := by omega
    rw [e1, hx, Int.mul_assoc, Int.mul_comm (gtI xs i)]
  · intro j hj
    have hb' := hb j hj
    simp only [cnt]
    rw [hk]
    by_cases h1 : j = 4
    · subst h1
      rw [gtI_set_same (by omega), if_pos rfl, if_neg (by omega)]
      omega
    · rw [gtI_set_ne (by omega), if_neg (by omega), if_neg (by omega)]
      omega

/-- What parts leaves. -/
def Parted (xs : List Int) (w : World) (e : Ending) (w' : World) : Prop :=
  Only w w' [] ∧ ∃ c0 c1 c2 c3 c4 : Int, e = .returned (.agg #[.int .u64 c0, .int .u64 c1, .int .u64 c2, .int .u64 c3, .int .u64 c4]) ∧ lv B26 [c0, c1, c2, c3, c4] = lv 256 xs ∧ 0 ≤ c0 ∧ c0 ≤ 268436480 ∧ 0 ≤ c1 ∧ c1 ≤ 268436480 ∧ 0 ≤ c2 ∧ c2 ≤ 268436480 ∧ 0 ≤ c3 ∧ c3 ≤ 268436480 ∧ 0 ≤ c4 ∧ c4 ≤ 268436480

theorem pow_le_26 (s : Nat) (h : s < 26) : (2 : Int) ^ s ≤ 33554432 := by
  have : (2 : Nat) ^ s ≤ 2 ^ 25 := Nat.pow_le_pow_right (by decide) (by omega)
  have h2 : ((2 ^ s : Nat) : Int) ≤ ((2 ^ 25 : Nat) : Int) := by omega
  rw [Int.natCast_pow] at h2
  simpa using h2

set_option maxRecDepth 100000 in
set_option maxHeartbeats 3200000 in
theorem parts_any (p : Value) (xs : List Int) (w : World) (hp : Src w p 1 xs.length (xs.map (Value.int .u8))) (hb : ∀ x ∈ xs, 0 ≤ x ∧ x < 256) (hl : xs.length ≤ 17) (h16 : 16 < xs.length → gtI xs 16 ≤ 3) :
    Calls Try.prog 19 #[p] w (Parted xs w) := by
  obtain ⟨ap, cp, rfl, _⟩ := id hp
  go_enter Try.func19, Try.ntmps19
  go_wp2_with fail
  have s0 := (((Sep.nil w).box [.int .u64 0, .int .u64 0, .int .u64 0, .int .u64 0, .int .u64 0] 39)).box [.int .u64 0, .int .u64 0, .int .u64 0, .int .u64 0, .int .u64 0] 39
  simp only [World.size_alloc] at s0
  generalize hZ : w.heap.size = Z at *
  generalize hO : Z + 1 = O at *
  clear hZ hO
  go_loopw [10] (fun u10 wr => ∃ (i : Nat) (o : List Int), u10 = .int .i64 i ∧ i ≤ xs.length ∧ o.length = 5 ∧ PBs i o ∧ lv B26 o = lv 256 (xs.take i) ∧ Sep w wr [blk O (o.map (.int .u64)) 39, blk Z [.int .u64 0, .int .u64 0, .int .u64 0, .int .u64 0, .int .u64 0] 39]) (fun u10 _ => xs.length - (intOf u10).toNat)
  case atStart => exact ⟨0, [0, 0, 0, 0, 0], rfl, Nat.zero_le _, rfl, fun j hj => by
    rcases (by omega : j = 0 ∨ j = 1 ∨ j = 2 ∨ j = 3 ∨ j = 4) with rfl | rfl | rfl | rfl | rfl <;> simp [gtI, cnt], by simp [lv], s0⟩
  case round =>
    clear s0
    obtain ⟨i, o, rfl, hi, ho0, hb0, hv0, hs⟩ := hrel
    by_cases hil : i < xs.length
    · obtain ⟨b, of, rfl, hcell⟩ := src_at (hs.src hp) hil
      have hc := hcell i (.int .u8 (gtI xs i)) (by rw [List.getElem?_map, List.getElem?_eq_getElem hil, gtI_get hil]; rfl)
      have hbb := hb (gtI xs i) (by rw [gtI_get hil]; exact List.getElem_mem _)
      have h16' : i = 16 → gtI xs i ≤ 3 := fun e => by subst e; exact h16 hil
      obtain ⟨k, hk⟩ : ∃ k, k = 8 * i / 26 := ⟨_, rfl⟩
      obtain ⟨s, hs2⟩ : ∃ s, s = 8 * i % 26 := ⟨_, rfl⟩
      have hk5 : k < 5 := by omega
      have hs26 : s < 26 := by omega
      have q1 : IntKind.i64.wrap (8 * (i : Int)) = 8 * (i : Int) := IntWalk.i64_in _ (by omega)
      have q2 : (8 * (i : Int)).tdiv 26 = (k : Int) := by rw [Int.tdiv_eq_ediv_of_nonneg (by omega)]; omega
      have q3 : (8 * (i : Int)).tmod 26 = (s : Int) := by rw [Int.tmod_eq_emod_of_nonneg (by omega)]; omega
      clear hcell
      have e6 : 8 * (i : Int) / 26 = (k : Int) := by omega
      have hob : ∀ j, j < 5 → 0 ≤ gtI o j ∧ gtI o j ≤ 268436480 := fun j hj => ⟨(hb0 j hj).1, Int.le_trans (hb0 j hj).2 (cnt_le i (by omega) j hj)⟩
      obtain ⟨x, hx⟩ : ∃ x, x = gtI xs i * 2 ^ (8 * i % 26) := ⟨_, rfl⟩
      have hps : (2 : Int) ^ (8 * i % 26) ≤ 33554432 := pow_le_26 _ (by omega)
      have hp0 : (0 : Int) ≤ 2 ^ (8 * i % 26) := Int.pow_nonneg (by decide)
      have hx0 : 0 ≤ x := by rw [hx]; exact Int.mul_nonneg hbb.1 hp0
      have hx1 : x < 17179869184 := by
        have h1 : gtI xs i * 2 ^ (8 * i % 26) ≤ 255 * 33554432 := Int.le_trans (Int.mul_le_mul_of_nonneg_right (by omega) hp0) (Int.mul_le_mul_of_nonneg_left hps (by decide))
        rw [hx]; omega
      have e7 : IntKind.u64.wrap (gtI xs i * 2 ^ (8 * i % 26)) = x := by rw [← hx]; simp [IntKind.wrap, IntKind.bits, IntKind.signed]; omega
      have hmask : bits .and .u64 x 67108863 = x % 67108864 := msk64 x 26 (by omega) (by omega) (by decide)
      have hA : A5 O o wr := ⟨hs.head, ho0⟩
      have hck := hA.cell k hk5
      have hfk := hA.free k
      have hok := hob k hk5
      by_cases hk4 : k < 4
      · obtain ⟨r1, r2⟩ := part_step hil ho0 hk hk4 hx ⟨hx0, hx1⟩ hb0 hv0
        have R1 := Lib.hid r1
        have R2 := Lib.hid r2
        have hck2 := hA.cell (k + 1) (by omega)
        have hfk2 := hA.free (k + 1)
        have hok2 := hob (k + 1) (by omega)
        have hset := fun n => ((hs.quiet (Only.drewN wr n [])).put k (.int .u64 (gtI o k + x % 67108864))).put (k + 1) (.int .u64 (gtI o (k + 1) + x / 67108864))
        simp only [← List.map_set] at hset
        have hL := Lib.hid (show ((o.set k (gtI o k + x % 67108864)).set (k + 1) (gtI o (k + 1) + x / 67108864)).length = 5 by rw [List.length_set, List.length_set]; exact ho0)
        have d4 : decide ((k : Int) < 4) = true := by simp; omega
        have hs2' := Lib.hid hs2
        have hx' := Lib.hid hx
        clear r1 r2 hA hb0 hv0 ho0 hob hx hk hs2 hs hps hp0 h16' q2 q3
        generalize (o.set k (gtI o k + x % 67108864)).set (k + 1) (gtI o (k + 1) + x / 67108864) = o2 at *
        generalize gtI o k = u at *
        generalize gtI o (k + 1) = u2 at *
        go_wp2_with fail
        go_quiet (fail)
        go_wp2_with fail
        exact ⟨⟨i + 1, o2, by simp, by omega, hL.out, R2.out, R1.out, hset nq⟩, by simp [intOf]; omega⟩
      · obtain rfl : k = 4 := by omega
        have hx2 : x < 67108864 := by
          rw [hx]
          rcases (by omega : i = 13 ∨ i = 14 ∨ i = 15 ∨ i = 16) with rfl | rfl | rfl | rfl
          · simp; omega
          · simp; omega
          · simp; omega
          · have := h16' rfl
            simp; omega
        have hm2 : x % 67108864 = x := Int.emod_eq_of_lt hx0 hx2
        rw [hm2] at hmask
        obtain ⟨r1, r2⟩ := part_step4 hil ho0 hk.symm hx ⟨hx0, hx2⟩ hb0 hv0
        have R1 := Lib.hid r1
        have R2 := Lib.hid r2
        have hset := fun n => ((hs.quiet (Only.drewN wr n [])).put 4 (.int .u64 (gtI o 4 + x)))
        simp only [← List.map_set] at hset
        have hL := Lib.hid (show (o.set 4 (gtI o 4 + x)).length = 5 by rw [List.length_set]; exact ho0)
        clear r1 r2 hA hb0 hv0 ho0 hob hx hk hs2 hs hps hp0 h16' hm2 q2 q3
        generalize o.set 4 (gtI o 4 + x) = o2 at *
        generalize gtI o 4 = u at *
        go_wp2_with fail
        go_quiet (fail)
        go_wp2_with fail
        exact ⟨⟨i + 1, o2, by simp, by omega, hL.out, R2.out, R1.out, hset nq⟩, by simp [intOf]; omega⟩
    · obtain rfl : i = xs.length := by omega
      obtain ⟨o0, o1, o2, o3, o4, rfl⟩ := list5 o ho0
      have hob : ∀ j, j < 5 → 0 ≤ gtI [o0, o1, o2, o3, o4] j ∧ gtI [o0, o1, o2, o3, o4] j ≤ 268436480 := fun j hj => ⟨(hb0 j hj).1, Int.le_trans (hb0 j hj).2 (cnt_le _ (by omega) j hj)⟩
      have e0 := hob 0 (by omega)
      have e1 := hob 1 (by omega)
      have e2 := hob 2 (by omega)
      have e3 := hob 3 (by omega)
      have e4 := hob 4 (by omega)
      simp [gtI] at e0 e1 e2 e3 e4
      have hO1 : wr.heap[O]? = some (.cells #[.int .u64 o0, .int .u64 o1, .int .u64 o2, .int .u64 o3, .int .u64 o4] 39 (0, 0)) := hs.head
      have c0 := cell_in hO1 0
      have c1 := cell_in hO1 1
      have c2 := cell_in hO1 2
      have c3 := cell_in hO1 3
      have c4 := cell_in hO1 4
      have hZ1 : wr.heap[Z]? = some (.cells #[.int .u64 0, .int .u64 0, .int .u64 0, .int .u64 0, .int .u64 0] 39 (0, 0)) := hs.tail.head
      have y0 := cell_in hZ1 0
      have y1 := cell_in hZ1 1
      have y2 := cell_in hZ1 2
      have y3 := cell_in hZ1 3
      have y4 := cell_in hZ1 4
      have g0 := free_in hZ1 0
      have g1 := free_in hZ1 1
      have g2 := free_in hZ1 2
      have g3 := free_in hZ1 3
      have g4 := free_in hZ1 4
      have s4 := ((((((hs.up 1 (by simp)).put 0 (.int .u64 o0)).put 1 (.int .u64 o1)).put 2 (.int .u64 o2)).put 3 (.int .u64 o3)).put 4 (.int .u64 o4))
      have hv := Lib.hid hv0
      clear hs hZ1 hv0 hb0 hob hO1
      go_wp2_with fail
      generalize hV : World.setCell (World.setCell (World.setCell (World.setCell (World.setCell wr _ _) _ _) _ _) _ _) _ _ = V at *
      clear hV y0 y1 y2 y3 y4 g0 g1 g2 g3 g4 c0 c1 c2 c3 c4
      have hZ2 : V.heap[Z]? = some (.cells #[.int .u64 o0, .int .u64 o1, .int .u64 o2, .int .u64 o3, .int .u64 o4] 39 (0, 0)) := s4.head
      have z0 := cell_in hZ2 0
      have z1 := cell_in hZ2 1
      have z2 := cell_in hZ2 2
      have z3 := cell_in hZ2 3
      have z4 := cell_in hZ2 4
      refine bodyPost_ret (v := .agg #[.int .u64 o0, .int .u64 o1, .int .u64 o2, .int .u64 o3, .int .u64 o4]) (by simp [results, Try.results19, go_sem, z0, z1, z2, z3, z4]) rfl ⟨s4.only, _, _, _, _, _, rfl, ?_, e0.1, e0.2, e1.1, e1.2, e2.1, e2.2, e3.1, e3.2, e4.1, e4.2⟩
      have h := hv.out
      rw [List.take_length] at h
      exact h
end Go.Proofs.Ytemmdhfmdgpfmaa
