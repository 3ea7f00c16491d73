/- Numbers of words of 32 bits (layer 2's reference): Times. -/
import Derived.Test.YtemmdhfmdgpfmaaNat3
namespace Go.Proofs.Ytemmdhfmdgpfmaa
open Go.RowKit Go.Pw
set_option linter.unusedVariables false

/-- One word more of a row of a product. -/
theorem times_step {a b o : List Int} {i k : Nat} {c p : Int} (hk : i + k < o.length) (hp : p = gtI a i * gtI b k)
    (hv : lv B32 o + B32 ^ (i + k) * c = lv B32 (a.take i) * lv B32 b + B32 ^ i * gtI a i * lv B32 (b.take k)) :
    lv B32 (o.set (i + k) ((p + gtI o (i + k) + c) % 4294967296)) + B32 ^ (i + (k + 1)) * ((p + gtI o (i + k) + c) / 4294967296) = lv B32 (a.take i) * lv B32 b + B32 ^ i * gtI a i * lv B32 (b.take (k + 1)) := by
  have e := Int.mul_ediv_add_emod (p + gtI o (i + k) + c) 4294967296
  have e1 : B32 ^ (i + k) * ((p + gtI o (i + k) + c) % 4294967296 - gtI o (i + k)) + B32 ^ (i + k) * (B32 * ((p + gtI o (i + k) + c) / 4294967296)) = B32 ^ (i + k) * c + B32 ^ (i + k) * p := by
    rw [← Int.mul_add, ← Int.mul_add]
    congr 1
    show _ - _ + 4294967296 * _ = _
    omega
  have e2 : B32 ^ i * gtI a i * (lv B32 (b.take k) + B32 ^ k * gtI b k) = B32 ^ i * gtI a i * lv B32 (b.take k) + B32 ^ (i + k) * p := by
    rw [Int.mul_add, hp, Int.pow_add]
    congr 1
    rw [Int.mul_assoc, Int.mul_assoc, Int.mul_left_comm (gtI a i)]
  have e5 : B32 ^ (i + (k + 1)) * ((p + gtI o (i + k) + c) / 4294967296) = B32 ^ (i + k) * (B32 * ((p + gtI o (i + k) + c) / 4294967296)) := by
    rw [← Nat.add_assoc, Int.pow_succ, Int.mul_assoc]
  rw [lv_set B32 hk, lv_take_any, e2, e5]
  omega

theorem u32s_set {o : List Int} (h : U32s o) (k : Nat) {x : Int} (hx : 0 ≤ x ∧ x < 4294967296) : U32s (o.set k x) := fun y hy => by
  rcases List.mem_or_eq_of_mem_set hy with hy | hy
  · exact h y hy
  · rw [hy]; exact hx

set_option maxRecDepth 100000 in
set_option maxHeartbeats 3200000 in
theorem times_any (a1 a2 : Option Addr) (c1 c2 : Nat) (xs ys : List Int) (w : World) (h1 : Src w (.slice a1 xs.length c1) 1 xs.length (xs.map (.int .u32))) (h2 : Src w (.slice a2 ys.length c2) 1 ys.length (ys.map (.int .u32))) (hu1 : U32s xs) (hu2 : U32s ys) (hl1 : xs.length ≤ 100000) (hl2 : ys.length ≤ 100000) :
    Calls Try.prog 24 #[.slice a1 xs.length c1, .slice a2 ys.length c2] w fun e w' => Only w w' [] ∧ ∃ v, e = .returned v ∧ Nm w' v (lv B32 xs * lv B32 ys) := by
  have hmk := make_words w (xs.length + ys.length) (by omega)
  have r1 : IntKind.i64.wrap ((xs.length : Int) + (ys.length : Int)) = (xs.length : Int) + (ys.length : Int) := IntWalk.i64_in _ (by omega)
  rw [show ((xs.length + ys.length : Nat) : Int) = (xs.length : Int) + (ys.length : Int) by omega] at hmk
  have s0 : Sep w _ [blk w.heap.size ((List.replicate (xs.length + ys.length) (0 : Int)).map (.int .u32)) 26] := Sep.as ((Sep.nil w).box (List.replicate (xs.length + ys.length) (Value.int .u32 0)) 26) (by rw [List.map_replicate])
  go_enter Try.func24, Try.ntmps24
  go_wp2_with fail
  generalize hZ : w.heap.size = Z at *
  clear hmk hZ
  go_loopw [6] (fun u6 wr => ∃ (i : Nat) (o : List Int), u6 = .int .i64 i ∧ i ≤ xs.length ∧ o.length = xs.length + ys.length ∧ U32s o ∧ (∀ j, i + ys.length ≤ j → gtI o j = 0) ∧ lv B32 o = lv B32 (xs.take i) * lv B32 ys ∧ Sep w wr [blk Z (o.map (.int .u32)) 26]) (fun u6 _ => xs.length - (intOf u6).toNat)
  case atStart => exact ⟨0, List.replicate (xs.length + ys.length) 0, rfl, by omega, by simp, fun x hx => by rw [List.eq_of_mem_replicate hx]; decide, fun j hj => by simp [gtI, List.getD_eq_getElem?_getD, List.getElem?_replicate]; split <;> rfl, by rw [lv_zeros]; simp [lv], s0⟩
  case round =>
    clear s0
    obtain ⟨i, o, rfl, hi, ho, hou, hz, hv, hs⟩ := hrel
    by_cases hin : i < xs.length
    · have d0 : decide ((i : Int) < (xs.length : Int)) = true := by simp; omega
      have hv0 : Hid (lv B32 o + B32 ^ (i + 0) * 0 = lv B32 (xs.take i) * lv B32 ys + B32 ^ i * gtI xs i * lv B32 (ys.take 0)) := by
        show _ = _
        rw [hv]; simp [lv]
      have HO := Lib.hid ho
      have HU := Lib.hid hou
      have HZ := Lib.hid hz
      clear hv ho hou hz
      go_wp2_with fail
      go_loopw [7, 8] (fun u7 u8 wr => ∃ (k : Nat) (c : Int) (o : List Int), u7 = .int .u64 c ∧ u8 = .int .i64 k ∧ k ≤ ys.length ∧ 0 ≤ c ∧ c < 4294967296 ∧ o.length = xs.length + ys.length ∧ U32s o ∧ (∀ j, i + ys.length ≤ j → gtI o j = 0) ∧ lv B32 o + B32 ^ (i + k) * c = lv B32 (xs.take i) * lv B32 ys + B32 ^ i * gtI xs i * lv B32 (ys.take k) ∧ Sep w wr [blk Z (o.map (.int .u32)) 26]) (fun _ u8 _ => ys.length - (intOf u8).toNat)
      case atStart => exact ⟨0, 0, o, rfl, rfl, by omega, by omega, by omega, HO.out, HU.out, HZ.out, hv0.out, hs⟩
      case round =>
        clear hs hv0 HO HU HZ
        obtain ⟨k, c, o, rfl, rfl, hk, hc0, hc1, ho, hou, hz, hv, hs⟩ := hrel
        by_cases hkn : k < ys.length
        · have hst := Lib.hid (times_step (p := gtI xs i * gtI ys k) (by omega) rfl hv)
          have hx := u32s_at hu1 i
          have hy := u32s_at hu2 k
          have hq := u32s_at hou (i + k)
          obtain ⟨b1, f1, rfl, hcell1⟩ := src_at (hs.src h1) hin
          have q1 := src_word (n := xs.length) (c := c1) hcell1 hin
          obtain ⟨b2, f2, rfl, hcell2⟩ := src_at (hs.src h2) hkn
          have q2 := src_word (n := ys.length) (c := c2) hcell2 hkn
          have hZ1 : wr.heap[Z]? = some (.cells (o.map (Value.int .u32)).toArray 26 (0, 0)) := hs.head
          have fz := free_in hZ1 (i + k)
          have cz := blk_at hZ1 (j := i + k) (by omega)
          obtain ⟨p, hp⟩ : ∃ p, p = gtI xs i * gtI ys k := ⟨_, rfl⟩
          have hp0 : 0 ≤ p := by rw [hp]; exact Int.mul_nonneg hx.1 hy.1
          have hp1 : p ≤ 4294967295 * 4294967295 := by
            rw [hp]
            exact Int.le_trans (Int.mul_le_mul_of_nonneg_right (by omega) hy.1) (Int.mul_le_mul_of_nonneg_left (by omega) (by decide))
          rw [← hp] at hst
          obtain ⟨x9, hx9⟩ : ∃ z, z = p + gtI o (i + k) + c := ⟨_, rfl⟩
          rw [← hx9] at hst
          have hset := fun n => (hs.quiet (Only.drewN wr n [])).put (i + k) (.int .u32 (x9 % 4294967296))
          simp only [← List.map_set] at hset
          have hon : Hid ((o.set (i + k) (x9 % 4294967296)).length = xs.length + ys.length) := by show List.length _ = _; rw [List.length_set]; exact ho
          have hun : Hid (U32s (o.set (i + k) (x9 % 4294967296))) := u32s_set hou _ ⟨by omega, by omega⟩
          have hzn : Hid (∀ j, i + ys.length ≤ j → gtI (o.set (i + k) (x9 % 4294967296)) j = 0) := fun j hj => by rw [gtI_set_ne (by omega)]; exact hz j hj
          have t1 : IntKind.i64.wrap ((i : Int) + (k : Int)) = (i : Int) + (k : Int) := IntWalk.i64_in _ (by omega)
          have t2 : ((i : Int) + (k : Int)).toNat = i + k := by omega
          have t3 : (0 : Int) ≤ (i : Int) + (k : Int) := by omega
          have t4 : (i : Int) + (k : Int) < (xs.length : Int) + (ys.length : Int) := by omega
          have t5 : (0 : Int) ≤ (i : Int) := by omega
          have t6 : (0 : Int) ≤ (k : Int) := by omega
          have t7 : (i : Int) < xs.length := by omega
          have t8 : (k : Int) < ys.length := by omega
          have d1 : decide ((k : Int) < (ys.length : Int)) = true := by simp; omega
          generalize gtI xs i = x at *
          generalize gtI ys k = y at *
          have n1 : IntKind.u64.wrap (x * y) = p := by rw [← hp]; simp [IntKind.wrap, IntKind.bits, IntKind.signed]; omega
          clear hv hou hz hcell1 hcell2 hZ1 ho hp hs
          generalize gtI o (i + k) = q at *
          have n2 : IntKind.u64.wrap (p + q) = p + q := by simp [IntKind.wrap, IntKind.bits, IntKind.signed]; omega
          have n3 : IntKind.u64.wrap (p + q + c) = x9 := by rw [← hx9]; simp [IntKind.wrap, IntKind.bits, IntKind.signed]; omega
          have n4 : 0 ≤ x9 / 4294967296 ∧ x9 / 4294967296 < 4294967296 := by omega
          clear hx9
          go_wp2_with fail
          go_quiet (fail)
          go_wp2_with fail
          exact ⟨⟨k + 1, x9 / 4294967296, o.set (i + k) (x9 % 4294967296), rfl, by simp, by omega, n4.1, n4.2, hon.out, hun.out, hzn.out, hst.out, hset nq⟩, by simp [intOf]; omega⟩
        · obtain rfl : k = ys.length := by omega
          have d1 : decide ((ys.length : Int) < (ys.length : Int)) = false := by simp
          have hZ1 : wr.heap[Z]? = some (.cells (o.map (Value.int .u32)).toArray 26 (0, 0)) := hs.head
          have fz := free_in hZ1 (i + ys.length)
          have cz := blk_at hZ1 (j := i + ys.length) (by omega)
          have hput := hs.put (i + ys.length) (.int .u32 c)
          rw [← List.map_set] at hput
          have hon : Hid ((o.set (i + ys.length) c).length = xs.length + ys.length) := by show List.length _ = _; rw [List.length_set]; exact ho
          have hun : Hid (U32s (o.set (i + ys.length) c)) := u32s_set hou _ ⟨by omega, by omega⟩
          have hzn : Hid (∀ j, i + 1 + ys.length ≤ j → gtI (o.set (i + ys.length) c) j = 0) := fun j hj => by rw [gtI_set_ne (by omega)]; exact hz j (by omega)
          have hvn : Hid (lv B32 (o.set (i + ys.length) c) = lv B32 (xs.take (i + 1)) * lv B32 ys) := by
            show _ = _
            rw [lv_set B32 (by omega), hz _ (Nat.le_refl _), Int.sub_zero, hv, List.take_length, lv_take_any, Int.add_mul]
          have t1 : IntKind.i64.wrap ((i : Int) + (ys.length : Int)) = (i : Int) + (ys.length : Int) := IntWalk.i64_in _ (by omega)
          have t2 : ((i : Int) + (ys.length : Int)).toNat = i + ys.length := by omega
          have t3 : (0 : Int) ≤ (i : Int) + (ys.length : Int) := by omega
          have t4 : (i : Int) + (ys.length : Int) < (xs.length : Int) + (ys.length : Int) := by omega
          have n1 : IntKind.u32.wrap c = c := by simp [IntKind.wrap, IntKind.bits, IntKind.signed]; omega
          have n2 : c % 4294967296 = c := by omega
          clear hv hou hz hZ1 ho hs
          go_wp2_with fail
          exact ⟨⟨i + 1, _, by simp, by omega, hon.out, hun.out, hzn.out, hvn.out, hput⟩, by simp [intOf]; omega⟩
    · obtain rfl : i = xs.length := by omega
      rw [List.take_length] at hv
      have d0 : decide ((xs.length : Int) < (xs.length : Int)) = false := by simp
      have hZ1 : wr.heap[Z]? = some (.cells (o.map (Value.int .u32)).toArray 26 (0, 0)) := hs.head
      have hsr : Src wr (.slice (some ⟨Z, 0, none⟩) (xs.length + ys.length) (xs.length + ys.length)) 1 o.length (o.map (.int .u32)) := by rw [ho]; exact src_blk hZ1 (by simp [ho]) (by unfold maxLen; omega)
      have hsr := Lib.hid hsr
      have hou := Lib.hid hou
      have hv := Lib.hid hv
      have honly := Lib.hid hs.only
      have hol : Hid (o.length ≤ 1000000) := by show _ ≤ _; omega
      clear hz hs hZ1
      go_wp2_with fail
      rw [← ho]
      rw [← ho] at hsr
      refine (trim_any _ _ o wr hsr.out hou.out hol.out).mono ?_
      rintro e w5 ⟨rfl, v, rfl, hN⟩
      rw [hv.out] at hN
      have hN := Lib.hid hN
      go_wp2_with fail
      go_ret
      exact ⟨honly.out, v, rfl, hN.out⟩
end Go.Proofs.Ytemmdhfmdgpfmaa
