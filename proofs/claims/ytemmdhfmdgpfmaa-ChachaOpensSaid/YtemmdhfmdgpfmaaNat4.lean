/- Numbers of words of 32 bits (layer 2's reference): Less, Cmp. -/
import Derived.Test.YtemmdhfmdgpfmaaNat3
namespace Go.Proofs.Ytemmdhfmdgpfmaa
open Go.RowKit Go.Pw
set_option linter.unusedVariables false

theorem Tm.lt {a b : List Int} (ha : U32s a) (hb : U32s b) (tb : Tm b) (h : a.length < b.length) : lv B32 a < lv B32 b := by
  have h1 := (lv_bd ha).2
  have h2 := tb.ge hb (by omega)
  have h3 := pow_mono (B := B32) (by decide) (show a.length ≤ b.length - 1 by omega)
  omega

set_option maxRecDepth 100000 in
set_option maxHeartbeats 3200000 in
theorem less_any (a1 a2 : Option Addr) (c1 c2 : Nat) (xs ys : List Int) (w : World) (h1 : Src w (.slice a1 xs.length c1) 1 xs.length (xs.map (.int .u32))) (h2 : Src w (.slice a2 ys.length c2) 1 ys.length (ys.map (.int .u32))) (hu1 : U32s xs) (hu2 : U32s ys) (ht2 : Tm ys) (hle : lv B32 ys ≤ lv B32 xs) (hl1 : xs.length ≤ 100000) (hl2 : ys.length ≤ 100000) :
    Calls Try.prog 37 #[.slice a1 xs.length c1, .slice a2 ys.length c2] w fun e w' => Only w w' [] ∧ ∃ v, e = .returned v ∧ Nm w' v (lv B32 xs - lv B32 ys) := by
  obtain ⟨inf, hi1, hy0, hy1, hy2⟩ := info26
  have hlen : ys.length ≤ xs.length := by
    by_cases h : ys.length ≤ xs.length
    · exact h
    · have := Tm.lt hu1 hu2 ht2 (by omega); omega
  have hle := Lib.hid hle
  go_enter Try.func37, Try.ntmps37
  have s0 := Sep.rown (Sep.nil w) 26 1
  go_wp2_with fail
  go_loopw [5, 6, 7] (fun u5 u6 u7 wr => ∃ (av : Option Addr) (cv : Nat) (c : Int) (o : List Int), u5 = .slice av o.length cv ∧ u6 = .int .u64 c ∧ u7 = .int .i64 (o.length : Int) ∧ o.length ≤ xs.length ∧ 0 ≤ c ∧ c ≤ 1 ∧ U32s o ∧ lv B32 o - B32 ^ o.length * c = lv B32 (xs.take o.length) - lv B32 (ys.take o.length) ∧ Sep w wr [row 26 1 (.slice av o.length cv) o.length (o.map (.int .u32))]) (fun _ _ u7 _ => xs.length - (intOf u7).toNat)
  case atStart => exact ⟨none, 0, 0, [], rfl, rfl, rfl, by simp, by omega, by omega, by simp [U32s], by simp [lv], s0⟩
  case round =>
    clear s0
    obtain ⟨av, cv, c, o, rfl, rfl, rfl, hol0, hc0, hc1, hou, hv, hs⟩ := hrel
    by_cases ha : o.length < xs.length
    · have hst := fun x c2 h => less_step (x := x) (c2 := c2) hv h
      have hst := Lib.hid hst
      have hb1 := u32s_at hu1 o.length
      have hb2 := u32s_at hu2 o.length
      have hol : o.length ≤ 100000 := by omega
      have hou := Lib.hid hou
      have h1w := hs.src h1
      have h2w := hs.src h2
      obtain ⟨b1, f1, rfl, hcell1⟩ := src_at h1w ha
      have q1 := src_word (n := xs.length) (c := c1) hcell1 ha
      have d1 : decide ((o.length : Int) < xs.length) = true := by simp; omega
      have i0 : (0 : Int) ≤ (o.length : Int) := by omega
      have i1 : (o.length : Int) < xs.length := by omega
      obtain ⟨v1, hv1⟩ : ∃ z, IntKind.u64.wrap (gtI xs o.length - c) = z := ⟨_, rfl⟩
      have hv1' : v1 = (gtI xs o.length - c) % 18446744073709551616 := by rw [← hv1]; simp [IntKind.wrap, IntKind.bits, IntKind.signed]
      obtain ⟨sm, hsm⟩ : ∃ z, z = (gtI xs o.length - c - gtI ys o.length) % 18446744073709551616 := ⟨_, rfl⟩
      have hst2 : Hid (lv B32 (o ++ [sm % 4294967296]) - B32 ^ (o.length + 1) * (sm / 9223372036854775808) = lv B32 (xs.take (o.length + 1)) - lv B32 (ys.take (o.length + 1))) := hst.out _ _ (by omega)
      have hsb : 0 ≤ sm / 9223372036854775808 ∧ sm / 9223372036854775808 ≤ 1 ∧ 0 ≤ sm ∧ sm < 18446744073709551616 := by omega
      have hnew : Hid (U32s (o ++ [sm % 4294967296])) := u32s_snoc hou.out ⟨by omega, by omega⟩
      have hl9 : Hid ((o ++ [sm % 4294967296]).length = o.length + 1) := by show _ = _; simp
      have u1 := hs.quiet (Only.alloc wr (.cells #[.int .u32 (sm % 4294967296)] 26) [])
      have hs6 := src_one wr (.int .u32 (sm % 4294967296)) 26
      have hown : (wr.alloc (.cells #[.int .u32 (sm % 4294967296)] 26)).ownsRow 0 26 1 (.slice av o.length cv) o.length (o.map (.int .u32)) := u1.head
      have HV := Lib.hid hv
      clear hv hst
      by_cases hb : o.length < ys.length
      · obtain ⟨b2, f2, rfl, hcell2⟩ := src_at h2w hb
        have q2 := src_word (n := ys.length) (c := c2) hcell2 hb
        have d2 : decide ((o.length : Int) < ys.length) = true := by simp; omega
        have i2 : (o.length : Int) < ys.length := by omega
        clear hcell1 hcell2 h1w h2w
        generalize gtI xs o.length = x at *
        generalize gtI ys o.length = y at *
        have n2 : IntKind.u64.wrap (v1 - y) = sm := by simp [IntKind.wrap, IntKind.bits, IntKind.signed]; omega
        clear hsm hv1'
        go_wp2_with (at_builtin; refine wpList_append_src rfl _ _ 44 rfl 26 inf (.int .u32 0) 1 4 Try.underlying44 hi1 hy0 hy1 hy2 rfl (by decide) (.slice av o.length cv) o.length (o.map (.int .u32)) rfl hown _ 1 _ rfl hs6 (by simp [Value.oneCell']) (by unfold maxLen; omega) (by omega) ?_; intro v7 w7 g1 g2 g3; obtain ⟨a7, c7, rfl⟩ := own_slice g1)
        have u2 := u1.app g1 g2 g3
        clear g1 g2 g3 u1 hs6 hown
        go_wp2_with fail
        exact ⟨⟨a7, c7, sm / 9223372036854775808, o ++ [sm % 4294967296], by rw [hl9.out], rfl, by rw [hl9.out]; simp, by rw [hl9.out]; omega, by omega, by omega, hnew.out, by rw [hl9.out]; exact hst2.out, by rw [hl9.out, List.map_append]; exact u2⟩, by simp [intOf]; omega⟩
      · have d2 : decide ((o.length : Int) < ys.length) = false := by simp; omega
        have e2 := gtI_out (ys := ys) (k := o.length) (by omega)
        clear hcell1 h1w h2w
        have e3 : v1 = sm := by rw [hv1', hsm, e2, Int.sub_zero]
        generalize gtI xs o.length = x at *
        subst e3
        clear hsm hv1' e2
        go_wp2_with (at_builtin; refine wpList_append_src rfl _ _ 44 rfl 26 inf (.int .u32 0) 1 4 Try.underlying44 hi1 hy0 hy1 hy2 rfl (by decide) (.slice av o.length cv) o.length (o.map (.int .u32)) rfl hown _ 1 _ rfl hs6 (by simp [Value.oneCell']) (by unfold maxLen; omega) (by omega) ?_; intro v7 w7 g1 g2 g3; obtain ⟨a7, c7, rfl⟩ := own_slice g1)
        have u2 := u1.app g1 g2 g3
        clear g1 g2 g3 u1 hs6 hown
        go_wp2_with fail
        exact ⟨⟨a7, c7, v1 / 9223372036854775808, o ++ [v1 % 4294967296], by rw [hl9.out], rfl, by rw [hl9.out]; simp, by rw [hl9.out]; omega, by omega, by omega, hnew.out, by rw [hl9.out]; exact hst2.out, by rw [hl9.out, List.map_append]; exact u2⟩, by simp [intOf]; omega⟩
    · have e : o.length = xs.length := by omega
      have d1 : decide ((o.length : Int) < xs.length) = false := by simp; omega
      rw [List.take_of_length_le (by omega), List.take_of_length_le (by omega)] at hv
      have hcz : c = 0 := by
        have hb := (lv_bd hou).2
        have := hle.out
        rcases (by omega : c = 0 ∨ c = 1) with h | h
        · exact h
        · subst h; omega
      subst hcz
      have hfv : Hid (lv B32 o = lv B32 xs - lv B32 ys) := by show _ = _; omega
      have hsr : Src wr (.slice av o.length cv) 1 o.length (o.map (.int .u32)) := own_src hs.head
      have hsr := Lib.hid hsr
      have ho := Lib.hid hs.only
      have hou := Lib.hid hou
      have hol : o.length ≤ 100000 := by omega
      clear hv hs e
      go_wp2_with fail
      refine (trim_any _ _ o wr hsr.out hou.out (by omega)).mono ?_
      rintro e w8 ⟨rfl, v, rfl, hN⟩
      rw [hfv.out] at hN
      have hN := Lib.hid hN
      go_wp2_with fail
      go_ret
      exact ⟨ho.out, v, rfl, hN.out⟩

/-- The rest of two numbers decides. -/
theorem cmp_step {a b : List Int} (ha : U32s a) (hb : U32s b) {k : Nat} (hl : a.length = b.length) (hk : k < a.length) (hd : a.drop (k + 1) = b.drop (k + 1)) :
    (gtI a k < gtI b k → lv B32 a < lv B32 b) ∧ (gtI b k < gtI a k → lv B32 b < lv B32 a) ∧ (gtI a k = gtI b k → a.drop k = b.drop k) := by
  have key : ∀ (x y : List Int), U32s x → U32s y → x.length = y.length → k < x.length → x.drop (k + 1) = y.drop (k + 1) → gtI x k < gtI y k → lv B32 x < lv B32 y := by
    intro x y hx hy hl hk hd h
    have e : ∀ l : List Int, k < l.length → lv B32 l = lv B32 (l.take k) + B32 ^ k * (gtI l k + B32 * lv B32 (l.drop (k + 1))) := by
      intro l hkl
      conv => lhs; rw [← List.take_append_drop k l, lv_app]
      have hlen : (l.take k).length = k := by simp; omega
      have hdl : l.drop k = gtI l k :: l.drop (k + 1) := by rw [gtI_get hkl]; exact List.drop_eq_getElem_cons hkl
      rw [hlen, hdl]
      rfl
    have h1 := lv_lt (B := B32) (by decide) (x.take k) (fun z hz => hx z (List.mem_of_mem_take hz))
    rw [show (x.take k).length = k by simp; omega] at h1
    have h2 := lv_nonneg (B := B32) (by decide) (y.take k) (fun z hz => (hy z (List.mem_of_mem_take hz)).1)
    rw [e x hk, e y (by omega), hd]
    have hp : (0 : Int) < B32 ^ k := Int.pow_pos (by decide)
    have h3 : B32 ^ k * ((gtI x k + B32 * lv B32 (y.drop (k + 1))) + 1) ≤ B32 ^ k * (gtI y k + B32 * lv B32 (y.drop (k + 1))) := Int.mul_le_mul_of_nonneg_left (by omega) (Int.le_of_lt hp)
    rw [Int.mul_add, Int.mul_one] at h3
    omega
  refine ⟨key a b ha hb hl hk hd, key b a hb ha hl.symm (by omega) hd.symm, fun h => ?_⟩
  have e1 : a.drop k = gtI a k :: a.drop (k + 1) := by rw [gtI_get hk]; exact List.drop_eq_getElem_cons hk
  have e2 : b.drop k = gtI b k :: b.drop (k + 1) := by rw [gtI_get (by omega)]; exact List.drop_eq_getElem_cons (by omega)
  rw [e1, e2, h, hd]

set_option maxRecDepth 100000 in
set_option maxHeartbeats 3200000 in
theorem cmp_any (a1 a2 : Option Addr) (c1 c2 : Nat) (xs ys : List Int) (w : World) (h1 : Src w (.slice a1 xs.length c1) 1 xs.length (xs.map (.int .u32))) (h2 : Src w (.slice a2 ys.length c2) 1 ys.length (ys.map (.int .u32))) (hu1 : U32s xs) (hu2 : U32s ys) (hl1 : xs.length ≤ 100000) (hl2 : ys.length ≤ 100000) :
    Calls Try.prog 36 #[.slice a1 xs.length c1, .slice a2 ys.length c2] w fun e w' => Only w w' [] ∧ ∃ c : Int, e = .returned (.int .i64 c) ∧ (0 ≤ c ↔ lv B32 ys ≤ lv B32 xs) := by
  go_enter Try.func36, Try.ntmps36
  go_wp2_with fail
  refine (trim_any _ _ xs w h1 hu1 (by omega)).mono ?_
  rintro e w2 ⟨rfl, v1, rfl, hN1⟩
  go_wp2_with fail
  refine (trim_any _ _ ys w2 h2 hu2 (by omega)).mono ?_
  rintro e w3 ⟨rfl, v2, rfl, hN2⟩
  obtain ⟨b1, k1, aw, rfl, hA, hua, hta, hva, hla⟩ := hN1.slice (k := xs.length) (lv_bd hu1).2
  obtain ⟨b2, k2, bw, rfl, hB, hub, htb, hvb, hlb⟩ := hN2.slice (k := ys.length) (lv_bd hu2).2
  clear hN1 hN2 h1 h2
  have hva := Lib.hid hva
  have hvb := Lib.hid hvb
  by_cases hll : aw.length = bw.length
  · have d1 : decide ((aw.length : Int) = (bw.length : Int)) = true := by simp; omega
    have i9 : IntKind.i64.wrap ((aw.length : Int) - 1) = (aw.length : Int) - 1 := IntWalk.i64_in _ (by omega)
    have d2 : ((aw.length : Int) == (bw.length : Int)) = true := by simp; omega
    have d3 : ((aw.length : Int) != (bw.length : Int)) = false := by simp; omega
    have HLL := Lib.hid hll
    clear hll
    go_wp2_with fail
    go_loopw [5] (fun u5 wr => ∃ n : Nat, u5 = .int .i64 ((n : Int) - 1) ∧ n ≤ aw.length ∧ aw.drop n = bw.drop n ∧ Only w3 wr []) (fun u5 _ => (intOf u5 + 1).toNat)
    case atStart => exact ⟨aw.length, rfl, Nat.le_refl _, by rw [List.drop_length, HLL.out, List.drop_length], Only.refl _ _⟩
    case round =>
      obtain ⟨n, rfl, hn, hd, ho⟩ := hrel
      by_cases hn0 : n = 0
      · subst hn0
        have hE : Hid (lv B32 aw = lv B32 bw) := by
          show _ = _
          have : aw = bw := by simpa using hd
          rw [this]
        clear hd
        rw [show ((0 : Nat) : Int) - 1 = -1 from rfl]
        go_wp2_with fail
        go_ret
        exact ⟨ho, 0, rfl, by rw [← hva.out, ← hvb.out, hE.out]; simp⟩
      · obtain ⟨k, rfl⟩ : ∃ k, n = k + 1 := ⟨n - 1, by omega⟩
        rw [show ((k + 1 : Nat) : Int) - 1 = (k : Int) by omega]
        obtain ⟨s1, s2, s3⟩ := cmp_step hua hub HLL.out (by omega) hd
        have s1 := Lib.hid s1
        have s2 := Lib.hid s2
        have s3 := Lib.hid s3
        have hx := u32s_at hua k
        have hy := u32s_at hub k
        obtain ⟨p1, f1, rfl, hcell1⟩ := src_at (hA.off ho (fun _ _ _ => by simp)) (show k < aw.length by omega)
        have q1 := src_word (n := aw.length) (c := k1) hcell1 (show k < aw.length by omega)
        obtain ⟨p2, f2, rfl, hcell2⟩ := src_at (hB.off ho (fun _ _ _ => by simp)) (show k < bw.length by rw [← HLL.out]; omega)
        have q2 := src_word (n := bw.length) (c := k2) hcell2 (show k < bw.length by rw [← HLL.out]; omega)
        have t1 : (k : Int) < aw.length := by omega
        have t2 : (k : Int) < bw.length := by have := HLL.out; omega
        have t3 : (0 : Int) ≤ (k : Int) := by omega
        have ho := Lib.hid ho
        clear hd hcell1 hcell2
        generalize gtI aw k = x at *
        generalize gtI bw k = y at *
        go_wp2_with fail
        go_quiet (fail)
        have o2 := Lib.hid (ho.out.trans (Only.drewN wr nq []))
        by_cases hxy : x < y
        · have e1 : decide (x < y) = true := by simp; omega
          go_wp2_with fail
          go_ret
          exact ⟨o2.out, -1, rfl, by rw [← hva.out, ← hvb.out]; have := s1.out hxy; omega⟩
        · have e1 : decide (x < y) = false := by simp; omega
          go_wp2_with fail
          go_quiet (fail)
          by_cases hyx : y < x
          · have e2 : decide (y < x) = true := by simp; omega
            go_wp2_with fail
            go_ret
            exact ⟨o2.out.trans (Only.drewN _ _ _), 1, rfl, by rw [← hva.out, ← hvb.out]; have := s2.out hyx; omega⟩
          · have e2 : decide (y < x) = false := by simp; omega
            have i5 : IntKind.i64.wrap ((k : Int) - 1) = (k : Int) - 1 := IntWalk.i64_in _ (by omega)
            have hxe : Hid (x = y) := by show x = y; omega
            have o3 : Hid (Only w3 ((wr.drewN _).drewN nq) []) := o2.out.trans (Only.drewN _ nq [])
            rw [World.drewN_drewN] at o3
            go_wp2_with fail
            exact ⟨⟨k, rfl, by omega, s3.out hxe.out, o3.out⟩, by simp [intOf]⟩
  · have d1 : decide ((aw.length : Int) = (bw.length : Int)) = false := by simp; omega
    have i9 : IntKind.i64.wrap ((aw.length : Int) - (bw.length : Int)) = (aw.length : Int) - (bw.length : Int) := IntWalk.i64_in _ (by omega)
    have hE : Hid (0 ≤ (aw.length : Int) - (bw.length : Int) ↔ lv B32 bw ≤ lv B32 aw) := by
      show _ ↔ _
      rcases (by omega : aw.length < bw.length ∨ bw.length < aw.length) with h | h
      · have := Tm.lt hua hub htb h; omega
      · have := Tm.lt hub hua hta h; omega
    go_wp2_with fail
    go_ret
    exact ⟨Only.refl _ _, _, rfl, by rw [← hva.out, ← hvb.out]; exact hE.out⟩
end Go.Proofs.Ytemmdhfmdgpfmaa
