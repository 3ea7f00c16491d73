/- Numbers of words of 32 bits (layer 2's reference): Trim, Low, Bytes, Bit, Len. -/
import Derived.Test.YtemmdhfmdgpfmaaBlk3
namespace Go.Proofs.Ytemmdhfmdgpfmaa
open Go.RowKit Go.Pw
set_option linter.unusedVariables false

abbrev B32 : Int := 4294967296
def U32s (ys : List Int) : Prop := ∀ x ∈ ys, 0 ≤ x ∧ x < 4294967296
/-- The last word is no nought. -/
def Tm (ys : List Int) : Prop := 0 < ys.length → 0 < gtI ys (ys.length - 1)
/-- The slice v is the number n. -/
def Nm (w : World) (v : Value) (n : Int) : Prop := ∃ ys, Src w v 1 ys.length (ys.map (.int .u32)) ∧ U32s ys ∧ Tm ys ∧ lv B32 ys = n
theorem Nm.only {w w' : World} {v : Value} {n : Int} (h : Nm w v n) (ho : Only w w' []) : Nm w' v n := by
  obtain ⟨ys, h1, h2⟩ := h
  exact ⟨ys, h1.off ho (fun _ _ _ => by simp), h2⟩
theorem Nm.nil (w : World) : Nm w (.slice none 0 0) 0 := ⟨[], ⟨none, 0, rfl, Nat.le_refl _, Nat.zero_le _, rfl, fun _ => ⟨rfl, rfl⟩, by simp⟩, by simp [U32s], by simp [Tm], rfl⟩
theorem u32s_at {ys : List Int} (h : U32s ys) (k : Nat) : 0 ≤ gtI ys k ∧ gtI ys k < 4294967296 := by
  by_cases hi : k < ys.length
  · exact h _ (gtI_mem hi)
  · have : gtI ys k = 0 := by simp [gtI, List.getD_eq_getElem?_getD, List.getElem?_eq_none (Nat.le_of_not_lt hi)]
    rw [this]; decide
theorem gtI_out {ys : List Int} {k : Nat} (h : ys.length ≤ k) : gtI ys k = 0 := by simp [gtI, List.getD_eq_getElem?_getD, List.getElem?_eq_none h]
theorem lv_take_any (B : Int) (l : List Int) (k : Nat) : lv B (l.take (k + 1)) = lv B (l.take k) + B ^ k * gtI l k := by
  by_cases h : k < l.length
  · exact lv_take_succ B h
  · rw [gtI_out (by omega), List.take_of_length_le (by omega), List.take_of_length_le (by omega), Int.mul_zero, Int.add_zero]
theorem lv_bd {ys : List Int} (h : U32s ys) : 0 ≤ lv B32 ys ∧ lv B32 ys < B32 ^ ys.length :=
  ⟨lv_nonneg (by decide) ys fun x hx => (h x hx).1, lv_lt (by decide) ys h⟩
theorem Tm.ge {ys : List Int} (ht : Tm ys) (h : U32s ys) (h0 : 0 < ys.length) : B32 ^ (ys.length - 1) ≤ lv B32 ys := by
  have e := lv_take_any B32 ys (ys.length - 1)
  rw [show ys.length - 1 + 1 = ys.length by omega, List.take_length] at e
  have h1 := lv_nonneg (B := B32) (by decide) (ys.take (ys.length - 1)) fun x hx => (h x (List.mem_of_mem_take hx)).1
  have h2 := ht h0
  have hp : (0 : Int) < B32 ^ (ys.length - 1) := Int.pow_pos (by decide)
  have h3 : B32 ^ (ys.length - 1) * 1 ≤ B32 ^ (ys.length - 1) * gtI ys (ys.length - 1) := Int.mul_le_mul_of_nonneg_left h2 (Int.le_of_lt hp)
  omega
theorem pow_mono {B : Int} (hB : 1 ≤ B) {a b : Nat} (h : a ≤ b) : B ^ a ≤ B ^ b := by
  obtain ⟨c, rfl⟩ := Nat.exists_eq_add_of_le h
  rw [Int.pow_add]
  have h1 : (0 : Int) < B ^ a := Int.pow_pos (by omega)
  have h2 : (0 : Int) < B ^ c := Int.pow_pos (by omega)
  have : B ^ a * 1 ≤ B ^ a * B ^ c := Int.mul_le_mul_of_nonneg_left h2 (Int.le_of_lt h1)
  omega
theorem Tm.len {ys : List Int} (ht : Tm ys) (h : U32s ys) {k : Nat} (hk : lv B32 ys < B32 ^ k) : ys.length ≤ k := by
  by_cases h0 : ys.length ≤ k
  · exact h0
  · have h1 := ht.ge h (by omega)
    have h2 := pow_mono (B := B32) (by decide) (show k ≤ ys.length - 1 by omega)
    omega
theorem Nm.slice {w : World} {v : Value} {n : Int} (h : Nm w v n) {k : Nat} (hk : n < B32 ^ k) : ∃ ao c ys, v = .slice ao ys.length c ∧ Src w (.slice ao ys.length c) 1 ys.length (ys.map (.int .u32)) ∧ U32s ys ∧ Tm ys ∧ lv B32 ys = n ∧ ys.length ≤ k := by
  obtain ⟨ys, h1, h2, h3, h4⟩ := h
  obtain ⟨ao, c, rfl, _⟩ := id h1
  exact ⟨ao, c, ys, rfl, h1, h2, h3, h4, h3.len h2 (by rw [h4]; exact hk)⟩

theorem info26 : ∃ i, Try.prog.info? 26 = some i ∧ i.zero = some (.int .u32 0) ∧ i.size = 1 ∧ i.bytes = 4 := info_parts Try.info26

/-- A slice's first elements. -/
theorem slice_to (ao : Option Addr) (n c l : Nat) (hl : l ≤ n) (hc : n ≤ c) : ∃ ao', (∀ w, (Instr.sliceAt 44 (.slice ao n c) none (some (.int .i64 (l : Int))) none).run Try.prog w = .ok (.slice ao' l c) w) ∧ ∀ w cs, Src w (.slice ao n c) 1 n cs → Src w (.slice ao' l c) 1 l (cs.take l) := by
  obtain ⟨i0, hi, hz0, hz1, hz2⟩ := info26
  refine ⟨if c = 0 then ao else ao.map (·.add (0 * 1)), fun w => ?_, fun w cs h => ?_⟩
  · have hu : Try.prog.underlying 44 = some (.slice (Try.prog.elem 44)) := by kernel_rfl
    have he : Try.prog.elem 44 = 26 := by kernel_rfl
    rw [run_sliceAt_slice (h := hu), run_slice_h (ht := hu) (kh := .i64) (h := (l : Int)) (h0 := by omega) (h2 := by omega), he]
    have hs : (sizeOf 26).run Try.prog w = .ok 1 w := by simp [sizeOf, typeInfo, hi, hz1]
    rw [hs]
    simp only [Result.andThen, sliced, Int.toNat_natCast, Nat.sub_zero]
  · obtain ⟨ao', c', he, h1, h2, h3, h4, h5⟩ := h
    simp only [Value.slice.injEq] at he
    obtain ⟨rfl, _, rfl⟩ := he
    refine ⟨_, _, rfl, by omega, h2, by simp [h3]; omega, fun hn => ?_, fun b hb j u hj => ?_⟩
    · cases ao with
      | none => have := h4 rfl; omega
      | some a => split at hn <;> simp at hn
    · cases ao with
      | none => simp at hb
      | some a =>
        have e : a.add (0 * 1) = a := by simp [Addr.add]
        simp only [Option.map_some, e, ite_self, Option.some.injEq] at hb
        subst hb
        rw [List.getElem?_take] at hj
        split at hj
        · exact h5 _ rfl j u hj
        · simp at hj

set_option maxHeartbeats 800000 in
theorem trim_any (ao : Option Addr) (c : Nat) (ys : List Int) (w : World) (h : Src w (.slice ao ys.length c) 1 ys.length (ys.map (.int .u32))) (hu : U32s ys) (hl : ys.length ≤ 1000000) :
    Calls Try.prog 38 #[.slice ao ys.length c] w fun e w' => w' = w ∧ ∃ v, e = .returned v ∧ Nm w v (lv B32 ys) := by
  have hc : ys.length ≤ c := by
    obtain ⟨_, _, he, k1, _⟩ := h
    simp only [Value.slice.injEq] at he
    omega
  go_enter Try.func38, Try.ntmps38
  go_wp2_with fail
  go_loopw [3] (fun u3 wr => ∃ n : Nat, u3 = .int .i64 n ∧ n ≤ ys.length ∧ lv B32 (ys.take n) = lv B32 ys ∧ wr = w) (fun u3 _ => (intOf u3).toNat)
  case atStart => exact ⟨ys.length, rfl, Nat.le_refl _, by rw [List.take_length], rfl⟩
  case round =>
    obtain ⟨n, rfl, hn, hv, rfl⟩ := hrel
    by_cases h0 : n = 0 ∨ gtI ys (n - 1) ≠ 0
    · obtain ⟨ao', hs1, hs2⟩ := slice_to ao ys.length c n hn hc
      have hsr := hs2 _ _ h
      rw [← List.map_take] at hsr
      have htl : (ys.take n).length = n := by simp; omega
      have hfin : Nm wr (.slice ao' n c) (lv B32 ys) := ⟨ys.take n, by rw [htl]; exact hsr, fun x hx => hu x (List.mem_of_mem_take hx), fun hp => by
        rw [htl] at hp ⊢
        rcases h0 with h0 | h0
        · omega
        · have e : gtI (ys.take n) (n - 1) = gtI ys (n - 1) := by
            simp only [gtI, List.getD_eq_getElem?_getD, List.getElem?_take]
            rw [if_pos (by omega)]
          rw [e]
          have := u32s_at hu (n - 1)
          omega, hv⟩
      have hfin := Lib.hid hfin
      by_cases hn0 : n = 0
      · subst hn0
        rw [show ((0 : Nat) : Int) = 0 from rfl]
        have hs1 : ∀ w, (Instr.sliceAt 44 (.slice ao ys.length c) none (some (.int .i64 0)) none).run Try.prog w = .ok (.slice ao' 0 c) w := hs1
        clear hs2 hsr
        go_wp2_with fail
        go_ret
        exact ⟨rfl, _, rfl, hfin.out⟩
      · obtain ⟨b, o, rfl, hcell⟩ := src_at h (show n - 1 < ys.length by omega)
        have cc := hcell (n - 1) (.int .u32 (gtI ys (n - 1))) (by rw [List.getElem?_map, List.getElem?_eq_getElem (by omega), gtI_get (by omega)]; rfl)
        have hx : gtI ys (n - 1) ≠ 0 := by omega
        have i0 : (0 : Int) < (n : Int) := by omega
        have i1 : IntKind.i64.wrap ((n : Int) - 1) = (n : Int) - 1 := IntWalk.i64_in _ (by omega)
        have i2 : (0 : Int) ≤ (n : Int) - 1 := by omega
        have i3 : (n : Int) - 1 < ys.length := by omega
        have i4 : ((n : Int) - 1).toNat = n - 1 := by omega
        clear hcell hs2 hsr
        generalize gtI ys (n - 1) = x at *
        go_wp2_with fail
        go_ret
        exact ⟨rfl, _, rfl, hfin.out⟩
    · have hn0 : 0 < n := by omega
      have hx : gtI ys (n - 1) = 0 := by omega
      obtain ⟨b, o, rfl, hcell⟩ := src_at h (show n - 1 < ys.length by omega)
      have cc := hcell (n - 1) (.int .u32 (gtI ys (n - 1))) (by rw [List.getElem?_map, List.getElem?_eq_getElem (by omega), gtI_get (by omega)]; rfl)
      have hvn : Hid (lv B32 (ys.take (n - 1)) = lv B32 ys) := by
        show _ = _
        have e := lv_take_any B32 ys (n - 1)
        rw [show n - 1 + 1 = n by omega, hx, Int.mul_zero, Int.add_zero] at e
        rw [← e]; exact hv
      rw [hx] at cc
      have i0 : (0 : Int) < (n : Int) := by omega
      have i1 : IntKind.i64.wrap ((n : Int) - 1) = (n : Int) - 1 := IntWalk.i64_in _ (by omega)
      have i2 : (0 : Int) ≤ (n : Int) - 1 := by omega
      have i3 : (n : Int) - 1 < ys.length := by omega
      have i4 : ((n : Int) - 1).toNat = n - 1 := by omega
      clear hcell hv hx h0
      go_wp2_with fail
      exact ⟨⟨n - 1, by congr 1; omega, by omega, hvn.out, trivial⟩, by simp [intOf]; omega⟩
end Go.Proofs.Ytemmdhfmdgpfmaa
