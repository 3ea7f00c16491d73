/- Numbers of words of 32 bits (layer 2's reference): Mod, Bytes. -/
import Derived.Test.YtemmdhfmdgpfmaaNat4
import Derived.Test.YtemmdhfmdgpfmaaNat5
import Derived.Deep.Cut
import Derived.Deep.CutBlock
namespace Go.Proofs.Ytemmdhfmdgpfmaa
open Go.RowKit Go.Pw
set_option linter.unusedVariables false

/-- One bit more. -/
theorem mod_step {V m r : Int} {i : Nat} (hm : 0 < m) (hr : r = V / 2 ^ (i + 1) % m) : (2 * r + V / 2 ^ i % 2 < m → V / 2 ^ i % m = 2 * r + V / 2 ^ i % 2) ∧ (m ≤ 2 * r + V / 2 ^ i % 2 → V / 2 ^ i % m = 2 * r + V / 2 ^ i % 2 - m) ∧ 0 ≤ r ∧ r < m := by
  have hp : (0 : Int) ≤ 2 ^ i := Int.pow_nonneg (by decide)
  have e : V / 2 ^ (i + 1) = V / 2 ^ i / 2 := by rw [Int.pow_succ, Int.ediv_ediv_of_nonneg hp]
  rw [e] at hr
  generalize V / 2 ^ i = x at *
  have h1 := Int.mul_ediv_add_emod (x / 2) m
  have h2 : 0 ≤ r ∧ r < m := by rw [hr]; exact ⟨Int.emod_nonneg _ (by omega), Int.emod_lt_of_pos _ hm⟩
  have h3 : x = 2 * (x / 2) + x % 2 := by omega
  have h4 : 0 ≤ x % 2 ∧ x % 2 < 2 := by omega
  rw [← hr] at h1
  generalize x / 2 / m = q at *
  generalize x % 2 = b at *
  generalize x / 2 = y at *
  have h5 : x = (2 * r + b) + m * (2 * q) := by
    rw [Int.mul_left_comm]
    omega
  have h6 : x = (2 * r + b - m) + m * (2 * q + 1) := by
    rw [Int.mul_add, Int.mul_one]
    omega
  refine ⟨fun h => ?_, fun h => ?_, h2.1, h2.2⟩
  · conv => lhs; rw [h5]
    rw [Int.add_mul_emod_self_left, Int.emod_eq_of_lt (by omega) h]
  · conv => lhs; rw [h6]
    rw [Int.add_mul_emod_self_left, Int.emod_eq_of_lt (by omega) (by omega)]

theorem one_word (w : World) : Src (w.alloc (.cells #[.int .u32 1] 26)) (.slice (some ⟨w.heap.size, 0, none⟩) 1 1) 1 ([1] : List Int).length (([1] : List Int).map (.int .u32)) := src_one w (.int .u32 1) 26

set_option maxRecDepth 100000 in
set_option maxHeartbeats 3200000 in
theorem mod_any (a1 a2 : Option Addr) (c1 c2 : Nat) (xs ys : List Int) (w : World) (h1 : Src w (.slice a1 xs.length c1) 1 xs.length (xs.map (.int .u32))) (h2 : Src w (.slice a2 ys.length c2) 1 ys.length (ys.map (.int .u32))) (hu1 : U32s xs) (hu2 : U32s ys) (ht2 : Tm ys) (hm : 0 < lv B32 ys) (hl1 : xs.length ≤ 100000) (hl2 : ys.length ≤ 10000) :
    Calls Try.prog 23 #[.slice a1 xs.length c1, .slice a2 ys.length c2] w fun e w' => Only w w' [] ∧ ∃ v, e = .returned v ∧ Nm w' v (lv B32 xs % lv B32 ys) := by
  obtain ⟨V, hV⟩ : ∃ V, V = lv B32 xs := ⟨_, rfl⟩
  obtain ⟨m, hM⟩ : ∃ m, m = lv B32 ys := ⟨_, rfl⟩
  have hbm := (lv_bd hu2).2
  have hb0 := (lv_bd hu1).1
  rw [← hV, ← hM]
  rw [← hM] at hm hbm
  rw [← hV] at hb0
  have hm0 := Lib.hid hm
  have HV := Lib.hid hV
  have HM := Lib.hid hM
  have hbm := Lib.hid hbm
  have hb0 := Lib.hid hb0
  clear hV hM hm
  go_enter Try.func23, Try.ntmps23
  go_wp2_with fail
  refine (nlen_any a1 c1 xs w h1 hu1 (by omega)).mono ?_
  rintro e w1 ⟨rfl, n0, rfl, hn0, hn1⟩
  have hst0 : Hid (0 = V / 2 ^ n0 % m) := by
    show _ = _
    rw [Int.ediv_eq_zero_of_lt hb0.out (by rw [HV.out]; exact hn0), Int.zero_emod]
  have i9 : IntKind.i64.wrap ((n0 : Int) - 1) = (n0 : Int) - 1 := IntWalk.i64_in _ (by omega)
  clear hn0
  go_wp2_with fail
  go_loopw [5, 6] (fun u5 u6 wr => ∃ (n : Nat) (v : Value), u5 = v ∧ u6 = .int .i64 ((n : Int) - 1) ∧ n ≤ n0 ∧ Only w1 wr [] ∧ Nm wr v (V / 2 ^ n % m)) (fun _ u6 _ => (intOf u6 + 1).toNat)
  case atStart => exact ⟨n0, .slice none 0 0, rfl, rfl, Nat.le_refl _, Only.refl _ _, by rw [← hst0.out]; exact Nm.nil _⟩
  case round =>
    obtain ⟨n, v, rfl, rfl, hn, ho, hN⟩ := hrel
    by_cases hn00 : n = 0
    · subst hn00
      rw [show ((0 : Nat) : Int) - 1 = -1 from rfl]
      have hN : Hid (Nm wr u5 (V % m)) := by
        have : V / 2 ^ 0 % m = V % m := by rw [Int.pow_zero, Int.ediv_one]
        rw [← this]; exact hN
      go_wp2_with fail
      go_ret
      exact ⟨ho, _, rfl, hN.out⟩
    · obtain ⟨k, rfl⟩ : ∃ k, n = k + 1 := ⟨n - 1, by omega⟩
      rw [show ((k + 1 : Nat) : Int) - 1 = (k : Int) by omega]
      obtain ⟨r, hr⟩ : ∃ r, r = V / 2 ^ (k + 1) % m := ⟨_, rfl⟩
      rw [← hr] at hN
      obtain ⟨m1, m2, m3, m4⟩ := mod_step hm0.out hr
      have m1 := Lib.hid m1
      have m2 := Lib.hid m2
      have m34 : Hid (0 ≤ r ∧ r < m) := ⟨m3, m4⟩
      clear hr m3 m4
      obtain ⟨ar, cr, rs, rfl, hR, hur, htr, hvr, hlr⟩ := hN.slice (k := ys.length) (Int.lt_trans m34.out.2 hbm.out)
      have HR := Lib.hid hR
      have hvr := Lib.hid hvr
      have t3 : (0 : Int) ≤ (k : Int) := by omega
      go_wp2_with fail
      refine (plus_any ar ar cr cr rs rs wr HR.out HR.out hur hur (by omega) (by omega)).mono ?_
      rintro e w2 ⟨o2, v2, rfl, hN2⟩
      rw [hvr.out] at hN2
      have hb2 : r + r < B32 ^ (ys.length + 1) := by
        have h1 := m34.out.2
        have h2 := hbm.out
        rw [Int.pow_succ]
        have h3 := m34.out.1
        show r + r < B32 ^ ys.length * 4294967296
        omega
      obtain ⟨as2, cs2, s2, rfl, hS2, hus2, hts2, hvs2, hls2⟩ := hN2.slice hb2
      have HS2 := Lib.hid hS2
      have hvs2 := Lib.hid hvs2
      have o2' := Lib.hid (ho.trans o2)
      have hx1 := Lib.hid (h1.off o2'.out (fun _ _ _ => by simp))
      clear hN hN2 hR hS2 ho o2 hb2
      go_wp2_with fail
      refine (bit_any a1 c1 xs k w2 hx1.out hu1 (by omega) (by omega)).mono ?_
      rintro e w3 ⟨rfl, rfl⟩
      rw [← HV.out]
      obtain ⟨b, hb⟩ : ∃ b, b = V / 2 ^ k % 2 := ⟨_, rfl⟩
      have hb01 : b = 0 ∨ b = 1 := by omega
      rw [← hb] at m1 m2 ⊢
      have Hb := Lib.hid hb
      clear hb
      go_upto_if 20 with fail
      go_cut [5] from 10 to 30 (fun u5 wx => ∃ (at_ : Option Addr) (ct : Nat) (t : List Int), u5 = .slice at_ t.length ct ∧ Src wx (.slice at_ t.length ct) 1 t.length (t.map (.int .u32)) ∧ U32s t ∧ Tm t ∧ lv B32 t = 2 * r + b ∧ t.length ≤ 20000 ∧ Only w1 wx [])
      case first =>
        rcases hb01 with rfl | rfl
        · go_wp2_with fail
          go_meet
          case rel => exact ⟨as2, cs2, s2, rfl, HS2.out, hus2, hts2, by rw [hvs2.out]; omega, by omega, o2'.out⟩
        · have o3 := Only.alloc w3 (.cells #[.int .u32 1] 26) []
          have h1w := one_word w3
          have HS3 := Lib.hid (HS2.out.off o3 (fun _ _ _ => by simp))
          go_wp2_with fail
          refine (plus_any as2 _ cs2 _ s2 [1] _ HS3.out h1w hus2 (by simp [U32s]) (by omega) (by decide)).mono ?_
          rintro e w4 ⟨o4, v4, rfl, hN4⟩
          have e4 : lv B32 s2 + lv B32 [1] = 2 * r + 1 := by rw [hvs2.out]; simp only [lv]; omega
          rw [e4] at hN4
          have hb4 : 2 * r + 1 < B32 ^ (ys.length + 1) := by
            have h1 := m34.out.2
            have h2 := hbm.out
            rw [Int.pow_succ]
            have h3 := m34.out.1
            show 2 * r + 1 < B32 ^ ys.length * 4294967296
            omega
          obtain ⟨a4, c4, s4, rfl, hS4, hus4, hts4, hvs4, hls4⟩ := hN4.slice hb4
          have HS4 := Lib.hid hS4
          have hvs4 := Lib.hid hvs4
          have o5 := Lib.hid ((o2'.out.trans o3).trans o4)
          clear hN4 hS4 o3 o4 h1w hb4 e4
          go_wp2_with fail
          go_meet
          case rel => exact ⟨a4, c4, s4, rfl, HS4.out, hus4, hts4, hvs4.out, by omega, o5.out⟩
      case rest =>
        clear HS2 hvs2 hts2 hls2 hus2 hx1 o2' HR hvr htr hur hlr
        obtain ⟨at_, ct, t, rfl, hT, hut, htt, hvt, hlt, ho⟩ := hcut
        have HT := Lib.hid hT
        have hvt := Lib.hid hvt
        have ho := Lib.hid ho
        have hy1 := Lib.hid (h2.off ho.out (fun _ _ _ => by simp))
        clear hT
        go_wp2_with fail
        refine (cmp_any at_ a2 ct c2 t ys wc HT.out hy1.out hut hu2 (by omega) (by omega)).mono ?_
        rintro e w5 ⟨o5, c, rfl, hc⟩
        have hc := Lib.hid hc
        have HT5 := Lib.hid (HT.out.off o5 (fun _ _ _ => by simp))
        have hy5 := Lib.hid (hy1.out.off o5 (fun _ _ _ => by simp))
        have ho5 := Lib.hid (ho.out.trans o5)
        have i5 : IntKind.i64.wrap ((k : Int) - 1) = (k : Int) - 1 := IntWalk.i64_in _ (by omega)
        have t3 : (0 : Int) ≤ (k : Int) := by omega
        clear HT hy1 ho o5
        by_cases hc0 : 0 ≤ c
        · have hle : lv B32 ys ≤ lv B32 t := hc.out.1 hc0
          go_wp2_with fail
          refine (less_any at_ a2 ct c2 t ys w5 HT5.out hy5.out hut hu2 ht2 hle (by omega) (by omega)).mono ?_
          rintro e w6 ⟨o6, v6, rfl, hN6⟩
          have e6 : lv B32 t - lv B32 ys = V / 2 ^ k % m := by
            rw [hvt.out, ← HM.out, m2.out (by rw [← hvt.out, HM.out]; exact hle)]
          rw [e6] at hN6
          have hN6 := Lib.hid hN6
          have o7 := Lib.hid (ho5.out.trans o6)
          clear hle o6 e6
          go_wp2_with fail
          exact ⟨⟨k, _, rfl, rfl, by omega, o7.out, hN6.out⟩, by simp [intOf]⟩
        · have hlt2 : 2 * r + b < m := by
            have h1 := hc.out
            rw [hvt.out, ← HM.out] at h1
            omega
          have e6 : 2 * r + b = V / 2 ^ k % m := (m1.out hlt2).symm
          have htm : Hid (Nm w5 (.slice at_ t.length ct) (V / 2 ^ k % m)) := ⟨t, HT5.out, hut, htt, by rw [hvt.out, e6]⟩
          have hlt2 := Lib.hid hlt2
          have e6 := Lib.hid e6
          go_wp2_with fail
          exact ⟨⟨k, _, rfl, rfl, by omega, ho5.out, htm.out⟩, by simp [intOf]⟩
end Go.Proofs.Ytemmdhfmdgpfmaa
