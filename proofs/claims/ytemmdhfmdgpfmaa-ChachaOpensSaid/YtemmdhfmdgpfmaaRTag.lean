/- Layer 5 (chacha), the reference: the contract of Tag. -/
import Derived.Test.YtemmdhfmdgpfmaaNat7
import Derived.Deep.Cut
import Derived.Deep.CutBlock
import Derived.StillTailTactics
namespace Go.Proofs.Ytemmdhfmdgpfmaa
open Go.RowKit Go.Pw
set_option linter.unusedVariables false

theorem p130v : lv B32 [4294967291, 4294967295, 4294967295, 4294967295, 3] = P130 := by decide
theorem mod16 (x : Int) (h0 : 0 ≤ x) : x.tmod 16 = x % 16 := Int.tmod_eq_emod_of_nonneg h0
theorem mod4 (x : Int) (h0 : 0 ≤ x) : x.tmod 4 = x % 4 := Int.tmod_eq_emod_of_nonneg h0

set_option maxRecDepth 100000 in
set_option maxHeartbeats 3200000 in
theorem rtag_any (key p : Value) (ks xs : List Int) (w : World) (hk : Src w key 1 ks.length (ks.map (Value.int .u8))) (hkb : ∀ x ∈ ks, 0 ≤ x ∧ x < 256)
    (hp : Src w p 1 xs.length (xs.map (Value.int .u8))) (hxb : ∀ x ∈ xs, 0 ≤ x ∧ x < 256) (hxl : xs.length ≤ 1000000) :
    Calls Try.prog 10 #[key, p] w (Fresh (tagL ks xs) w) := by
  obtain ⟨inf, hi0, hz0, hz1, hz2⟩ := info_parts Try.info5
  obtain ⟨ap, cp, rfl, hpc, _⟩ := id hp
  go_enter Try.func10, Try.ntmps10
  go_wp2_with fail
  refine (rfit_any key ks 32 w hk hkb (by decide) (by decide)).mono ?_
  rintro e w1 hf
  obtain ⟨gK, cK, rfl, kc1, kc2, hsK⟩ := hf.row 32 (fitL_len _ _) (by decide)
  have s1 := hsK (Sep.nil w)
  have hb1 := Lib.hid (fitL_byt hkb 32)
  have hl1 := Lib.hid (fitL_len ks 32)
  obtain ⟨K, hKe⟩ : ∃ K, K = fitL ks 32 := ⟨_, rfl⟩
  rw [← hKe] at s1 hb1 hl1
  have HK := Lib.hid hKe
  clear hf hsK hKe hk
  have hKs : Src w1 (.slice (some ⟨gK, 0, none⟩) 32 cK) 1 K.length (K.map (Value.int .u8)) := by rw [hl1.out]; exact own_src s1.head
  go_wp2_with fail
  refine (rfit_any _ K 16 w1 hKs hb1.out (by decide) (by decide)).mono ?_
  rintro e w2 hf
  obtain ⟨gR, cR, rfl, rc1, rc2, hsR⟩ := hf.row 16 (fitL_len _ _) (by decide)
  have s2 := hsR s1
  have hb2 := Lib.hid (fitL_byt hb1.out 16)
  have hl2 := Lib.hid (fitL_len K 16)
  obtain ⟨R, hRe⟩ : ∃ R, R = fitL K 16 := ⟨_, rfl⟩
  rw [← hRe] at s2 hb2 hl2
  have HR := Lib.hid hRe
  clear hf hsR hRe hKs s1
  go_wp2_with fail
  go_loopw [6] (fun u6 wr => ∃ i : Nat, u6 = .int .i64 i ∧ i ≤ 16 ∧ Sep w wr [row 5 1 (.slice (some ⟨gR, 0, none⟩) 16 cR) 16 ((clM R i).map (.int .u8)), row 5 1 (.slice (some ⟨gK, 0, none⟩) 32 cK) 32 (K.map (.int .u8))]) (fun u6 _ => 16 - (intOf u6).toNat)
  case atStart => exact ⟨0, rfl, by omega, s2⟩
  case round =>
    clear s2
    obtain ⟨i, rfl, hi, hs⟩ := hrel
    by_cases hi16 : i < 16
    · have d0 : decide ((i : Int) < 16) = true := by simp; omega
      have hlen : (clM R i).length = 16 := (clM_len _ _).trans hl2.out
      have hby := clM_byt hb2.out i (by rw [hl2.out]; exact hi) _ (gtI_mem (l := clM R i) (k := i) (by omega))
      have j0 : (0 : Int) ≤ (i : Int) := by omega
      have j1 : (i : Int) < 16 := by omega
      obtain ⟨s, hs4⟩ : ∃ s, s = i % 4 := ⟨_, rfl⟩
      have t3 : (i : Int).tmod 4 = (s : Int) := by rw [Int.tmod_eq_emod_of_nonneg (by omega)]; omega
      have t4 : (i : Int) % 4 = (s : Int) := by omega
      have HS := Lib.hid hs4
      have hcM : Hid (clM R (i + 1) = if i % 4 = 3 then (clM R i).set i (gtI (clM R i) i % 16) else if i % 4 = 0 ∧ 0 < i then (clM R i).set i (gtI (clM R i) i - gtI (clM R i) i % 4) else clM R i) := rfl
      clear hs4
      by_cases h3 : s = 3
      · have hR1 : wr.ownsRow 0 5 1 (.slice (some ⟨gR, 0, none⟩) 16 cR) 16 ((clM R i).map (.int .u8)) := hs.head
        have cr := hR1.cellAt i (by omega)
        rw [List.getElem?_map, List.getElem?_eq_getElem (by omega), ← gtI_get (by omega)] at cr
        simp only [Option.map_some] at cr
        have fr := hR1.frozenAt i
        have hset := Sep.rset hs i (.int .u8 (gtI (clM R i) i % 16))
        have hE : (clM R i).set i (gtI (clM R i) i % 16) = clM R (i + 1) := by rw [hcM.out, if_pos (by rw [← HS.out]; exact h3)]
        rw [← List.map_set, hE] at hset
        have hm := mod16 _ hby.1
        clear hR1 hlen hE hs hcM
        generalize gtI (clM R i) i = x at *
        subst h3
        obtain ⟨x0, x1⟩ := hby
        go_wp2_with fail
        exact ⟨⟨i + 1, by simp, by omega, hset⟩, by simp [intOf]; omega⟩
      · have d3 : decide ((s : Int) = 3) = false := by simp; omega
        have d3' : ((s : Int) == 3) = false := by simp; omega
        by_cases h0 : s = 0 ∧ 0 < i
        · obtain ⟨rfl, hi0'⟩ := h0
          have d4 : decide ((0 : Int) < (i : Int)) = true := by simp; omega
          go_upto_region 9 with fail
          have hs := hs.quiet (Only.drew wr [])
          have hR1 : wr.drew.ownsRow 0 5 1 (.slice (some ⟨gR, 0, none⟩) 16 cR) 16 ((clM R i).map (.int .u8)) := hs.head
          have cr := hR1.cellAt i (by omega)
          rw [List.getElem?_map, List.getElem?_eq_getElem (by omega), ← gtI_get (by omega)] at cr
          simp only [Option.map_some] at cr
          have fr := hR1.frozenAt i
          have hset := Sep.rset hs i (.int .u8 (gtI (clM R i) i - gtI (clM R i) i % 4))
          have hE : (clM R i).set i (gtI (clM R i) i - gtI (clM R i) i % 4) = clM R (i + 1) := by rw [hcM.out, if_neg (by rw [← HS.out]; omega), if_pos ⟨HS.out.symm, hi0'⟩]
          rw [← List.map_set, hE] at hset
          have hm := mod4 _ hby.1
          have hw : IntKind.u8.wrap (gtI (clM R i) i - gtI (clM R i) i % 4) = gtI (clM R i) i - gtI (clM R i) i % 4 := by simp [IntKind.wrap, IntKind.bits, IntKind.signed]; omega
          clear hR1 hlen hE hcM
          generalize gtI (clM R i) i = x at *
          obtain ⟨x0, x1⟩ := hby
          go_still_tail 13, (by kernel_rfl)
          change wpList _ _ _ _ _ wr.drew
          generalize wr.drew = w9 at *
          go_wp2_with fail
          exact ⟨⟨i + 1, by simp, by omega, hset⟩, by simp [intOf]; omega⟩
        · have hE : clM R i = clM R (i + 1) := by rw [hcM.out, if_neg (by rw [← HS.out]; exact h3), if_neg (by rw [← HS.out]; exact h0)]
          rw [hE] at hs
          clear hE hcM hlen hby
          by_cases hs0 : s = 0
          · have d4 : decide ((0 : Int) < (i : Int)) = false := by simp; omega
            subst hs0
            go_wp2_with fail
            exact ⟨⟨i + 1, by simp, by omega, hs⟩, by simp [intOf]; omega⟩
          · have d5 : decide ((s : Int) = 0) = false := by simp; omega
            have d5' : ((s : Int) == 0) = false := by simp; omega
            go_wp2_with fail
            exact ⟨⟨i + 1, by simp, by omega, hs⟩, by simp [intOf]; omega⟩
    · obtain rfl : i = 16 := by omega
      rw [show ((16 : Nat) : Int) = 16 from rfl]
      obtain ⟨C, hCe⟩ : ∃ C, C = clM R 16 := ⟨_, rfl⟩
      have hcb : Hid (∀ x ∈ C, 0 ≤ x ∧ x < 256) := by show ∀ _, _; rw [hCe]; exact clM_byt hb2.out 16 (by rw [hl2.out]; decide)
      have hcl : Hid (C.length = 16) := by show _ = _; rw [hCe, clM_len]; exact hl2.out
      rw [← hCe] at hs
      have hrv : Hid (lv 256 C = rOf ks) := by
        show _ = _
        rw [hCe, clM_eq R hl2.out, HR.out, HK.out]; rfl
      clear hCe hb2 hl2 HR
      go_wp2_with fail
      have s3 : Sep w _ [blk wr.heap.size (([4294967291, 4294967295, 4294967295, 4294967295, 3] : List Int).map (.int .u32)) 26, row 5 1 (.slice (some ⟨gR, 0, none⟩) 16 cR) 16 (C.map (.int .u8)), row 5 1 (.slice (some ⟨gK, 0, none⟩) 32 cK) 32 (K.map (.int .u8))] := hs.box [.int .u32 4294967291, .int .u32 4294967295, .int .u32 4294967295, .int .u32 4294967295, .int .u32 3] 26
      generalize hMB : wr.heap.size = MB at *
      clear hMB hs
      go_loopw [8, 9] (fun u8 u9 wr => ∃ (v : Value) (at_ f : Nat) (acc : Int), u8 = v ∧ u9 = .int .i64 at_ ∧ at_ ≤ xs.length + 16 ∧ 0 ≤ acc ∧ acc < P130 ∧ Nm wr v acc ∧ (xs.drop at_).length ≤ f ∧ polyV (rOf ks) f acc (xs.drop at_) = polyV (rOf ks) xs.length 0 xs ∧ Sep w wr [blk MB (([4294967291, 4294967295, 4294967295, 4294967295, 3] : List Int).map (.int .u32)) 26, row 5 1 (.slice (some ⟨gR, 0, none⟩) 16 cR) 16 (C.map (.int .u8)), row 5 1 (.slice (some ⟨gK, 0, none⟩) 32 cK) 32 (K.map (.int .u8))]) (fun _ u9 _ => (xs.length + 16) - (intOf u9).toNat)
      case atStart => exact ⟨.slice none 0 0, 0, xs.length, 0, rfl, rfl, by omega, by omega, by decide, Nm.nil _, by simp, by simp, s3⟩
      case round =>
        clear s3
        obtain ⟨v, at_, f, acc, rfl, rfl, hat, ha0, ha1, hN, hf, hpv, hs⟩ := hrel
        by_cases hal : at_ < xs.length
        · have d0 : decide ((at_ : Int) < (xs.length : Int)) = true := by simp; omega
          have hB5 : P130 < B32 ^ 5 := by decide
          obtain ⟨a1, c1, sv, rfl, hS, hus, hts, hvs, hls⟩ := hN.slice (k := 5) (Int.lt_trans ha1 hB5)
          have HS := Lib.hid hS
          have hvs := Lib.hid hvs
          obtain ⟨m, hm⟩ : ∃ m, m = min 16 (xs.length - at_) := ⟨_, rfl⟩
          have hm16 : m ≤ 16 := by omega
          have hm0 : 0 < m := by omega
          have ham : at_ + m ≤ xs.length := by omega
          have hor : m = 16 ∨ at_ + m = xs.length := by omega
          have hge : at_ + m = xs.length ∨ at_ + m = at_ + 16 := by omega
          obtain ⟨f', rfl, hpe, hpf⟩ := polyV_step (rOf ks) acc f (xs.drop at_) (by simp; omega) hf
          have htk : (xs.drop at_).take 16 = (xs.drop at_).take m := by
            rcases hor with h | h
            · rw [h]
            · rw [List.take_of_length_le (by simp; omega), List.take_of_length_le (by simp; omega)]
          rw [List.drop_drop] at hpe hpf
          rw [htk] at hpe
          rw [hpe] at hpv
          have hpv := Lib.hid hpv
          have i1 : IntKind.i64.wrap ((at_ : Int) + 16) = (at_ : Int) + 16 := IntWalk.i64_in _ (by omega)
          have Hm := Lib.hid hm
          have HOR := Lib.hid hor
          clear hm hpe htk hN hS hf hor
          go_upto_if 63 with fail
          go_cut [10] from 52 to 83 (fun u10 wx => u10 = .int .i64 ((at_ + m : Nat) : Int) ∧ wx = wr)
          case first =>
            by_cases hgt : xs.length < at_ + 16
            · have d1 : decide ((xs.length : Int) < (at_ : Int) + 16) = true := by simp; omega
              go_wp2_with fail
              go_meet
              case rel => exact ⟨by congr 1; have := Hm.out; omega, rfl⟩
            · have d1 : decide ((xs.length : Int) < (at_ : Int) + 16) = false := by simp; omega
              go_wp2_with fail
              go_meet
              case rel => exact ⟨by congr 1; have := Hm.out; omega, rfl⟩
          case rest =>
            obtain ⟨rfl, rfl⟩ := hcut
            obtain ⟨ao', c', hsl1, hsl2⟩ := slice_mid ap xs.length cp at_ m ham hpc
            have hq := hsl2 _ _ (hs.src hp)
            rw [← List.map_drop, ← List.map_take] at hq
            have hs5 := Sep.rown hs 5 1
            have hown : wc.ownsRow 0 5 1 (.slice none 0 0) 0 [] := hs5.head
            clear hsl2 hs
            obtain ⟨Q, hQ⟩ : ∃ Q, Q = (xs.drop at_).take m := ⟨_, rfl⟩
            rw [← hQ] at hq hpv
            have hQl : Hid (Q.length = m) := by show _ = _; rw [hQ]; simp; omega
            have hQb : Hid (∀ x ∈ Q, 0 ≤ x ∧ x < 256) := by show ∀ _, _; rw [hQ]; exact fun x hx => hxb x (List.mem_of_mem_drop (List.mem_of_mem_take hx))
            clear hQ
            rw [show ((at_ + m : Nat) : Int) = (at_ : Int) + (m : Int) by omega] at hsl1 ⊢
            go_upto_region 20 with (at_builtin; refine wpList_append_src rfl _ _ 22 rfl 5 inf (.int .u8 0) 1 1 Try.underlying22 hi0 hz0 hz1 hz2 rfl (by decide) (.slice none 0 0) 0 [] rfl hown _ m _ rfl hq (by simp [Value.oneCell']) (by unfold maxLen; omega) (by omega) ?_; intro v7 w7 g1 g2 g3; obtain ⟨a7, c7, rfl⟩ := own_slice g1)
            have u2 := hs5.app g1 g2 g3
            simp only [Nat.zero_add, List.nil_append] at u2
            have z2 := (Sep.rown (Sep.nil wc) 5 1).app g1 g2 g3
            simp only [Nat.zero_add, List.nil_append] at z2
            have z1 := z2.quiet (Only.alloc w7 (.cells #[.int .u8 1] 5) [])
            clear g1 g2 g3 hs5 hown hq z2
            have u1 := u2.quiet (Only.alloc w7 (.cells #[.int .u8 1] 5) [])
            have hs6 := src_one w7 (.int .u8 1) 5
            have hown : (w7.alloc (.cells #[.int .u8 1] 5)).ownsRow 0 5 1 (.slice a7 m c7) m (Q.map (.int .u8)) := u1.head
            go_wp2_with (at_builtin; refine wpList_append_src rfl _ _ 22 rfl 5 inf (.int .u8 0) 1 1 Try.underlying22 hi0 hz0 hz1 hz2 rfl (by decide) (.slice a7 m c7) m (Q.map (.int .u8)) rfl hown _ 1 _ rfl hs6 (by simp [Value.oneCell']) (by unfold maxLen; omega) (by omega) ?_; intro v8 w8 g1 g2 g3; obtain ⟨a8, c8, rfl⟩ := own_slice g1)
            have u3 := u1.app g1 g2 g3
            have h10 : Hid (Only wc w8 []) := (z1.app g1 g2 g3).only
            clear g1 g2 g3 u1 u2 hs6 hown z1
            have hq1l : Hid ((Q ++ [1]).length = m + 1) := by show _ = _; rw [List.length_append, hQl.out]; rfl
            have hq1 : Src w8 (.slice a8 (m + 1) c8) 1 (Q ++ [1]).length ((Q ++ [1]).map (Value.int .u8)) := by rw [hq1l.out, List.map_append]; exact own_src u3.head
            have hq1b : Hid (∀ x ∈ Q ++ [1], 0 ≤ x ∧ x < 256) := fun x hx => by
              rcases List.mem_append.1 hx with hx | hx
              · exact hQb.out x hx
              · obtain rfl : x = 1 := by simpa using hx
                decide
            have hq1 := Lib.hid hq1
            have s9 := u3.tail
            have oS := Lib.hid s9.only
            go_wp2_with fail
            refine (low_any _ (Q ++ [1]) w8 hq1.out hq1b.out (by rw [hq1l.out]; omega)).mono ?_
            rintro e x1 ⟨o1, v1, rfl, hN1⟩
            have hQv : lv 256 (Q ++ [1]) < B32 ^ 5 := by
              have h1 := lv_lt (B := 256) (by decide) (Q ++ [1]) hq1b.out
              rw [hq1l.out] at h1
              have h2 := pow_mono (B := 256) (by decide) (show m + 1 ≤ 20 by omega)
              have h3 : (256 : Int) ^ 20 = B32 ^ 5 := by decide
              omega
            have hQ0 : 0 ≤ lv 256 (Q ++ [1]) := lv_nonneg (by decide) _ (fun x hx => (hq1b.out x hx).1)
            obtain ⟨a2, c2, qv, rfl, hS1, hu1, ht1, hv1, hl1'⟩ := hN1.slice hQv
            have hS1 := Lib.hid hS1
            have hv1 := Lib.hid hv1
            have hQv := Lib.hid hQv
            have hQ0 := Lib.hid hQ0
            have HS1 := Lib.hid (HS.out.off (h10.out.trans o1) (fun _ _ _ => by simp))
            have s10 := s9.quiet o1
            clear hN1 s9 hq1
            go_wp2_with fail
            refine (plus_any a1 a2 c1 c2 sv qv x1 HS1.out hS1.out hus hu1 (by omega) (by omega)).mono ?_
            rintro e x2 ⟨o2, v2, rfl, hN2⟩
            rw [hvs.out, hv1.out] at hN2
            have hb2 : acc + lv 256 (Q ++ [1]) < B32 ^ 6 := by
              have h1 := hQv.out
              have h2 : B32 ^ 5 + B32 ^ 5 < B32 ^ 6 := by decide
              omega
            obtain ⟨a3, c3, q3, rfl, hS3, hu3, ht3, hv3, hl3⟩ := hN2.slice hb2
            have hS3 := Lib.hid hS3
            have hv3 := Lib.hid hv3
            have s11 := s10.quiet o2
            have hC := Lib.hid (own_src (show x2.ownsRow 0 5 1 (.slice (some ⟨gR, 0, none⟩) 16 cR) 16 (C.map (.int .u8)) from s11.tail.head))
            have hC2 : Hid (Src x2 (.slice (some ⟨gR, 0, none⟩) 16 cR) 1 C.length (C.map (.int .u8))) := by show Src _ _ _ _ _; rw [hcl.out]; exact hC.out
            clear hN2 s10 HS1 hS1
            go_wp2_with fail
            refine (low_any _ C x2 hC2.out hcb.out (by rw [hcl.out]; omega)).mono ?_
            rintro e x3 ⟨o3, v3, rfl, hN3⟩
            have hCv : lv 256 C < B32 ^ 4 := by
              have h1 := lv_lt (B := 256) (by decide) C hcb.out
              rw [hcl.out] at h1
              exact h1
            obtain ⟨a4, c4, q4, rfl, hS4, hu4, ht4, hv4, hl4⟩ := hN3.slice hCv
            have hS4 := Lib.hid hS4
            have hv4 := Lib.hid hv4
            have s12 := s11.quiet o3
            have hS33 := Lib.hid (hS3.out.off o3 (fun _ _ _ => by simp))
            clear hN3 s11 hC hC2 hS3
            go_wp2_with fail
            refine (times_any a3 a4 c3 c4 q3 q4 x3 hS33.out hS4.out hu3 hu4 (by omega) (by omega)).mono ?_
            rintro e x4 ⟨o4, v4, rfl, hN4⟩
            rw [hv3.out, hv4.out] at hN4
            obtain ⟨q5, hS5, hu5, ht5, hv5⟩ := hN4
            obtain ⟨a5, c5, rfl, _⟩ := id hS5
            have hl5 : q5.length ≤ 10 := by
              refine ht5.len hu5 ?_
              rw [hv5, ← hv3.out, ← hv4.out]
              have h1 := (lv_bd hu3).2
              have h2 := (lv_bd hu4).2
              have h3 := (lv_bd hu3).1
              have h4 := (lv_bd hu4).1
              have h5 := pow_mono (B := B32) (by decide) hl3
              have h6 := pow_mono (B := B32) (by decide) hl4
              have h7 : (B32 : Int) ^ 6 * B32 ^ 4 = B32 ^ 10 := by decide
              rw [← h7]
              have h8 : lv B32 q3 * lv B32 q4 ≤ lv B32 q3 * (B32 ^ 4 - 1) := Int.mul_le_mul_of_nonneg_left (by omega) h3
              have h9 : lv B32 q3 * (B32 ^ 4 - 1) ≤ (B32 ^ 6 - 1) * (B32 ^ 4 - 1) := Int.mul_le_mul_of_nonneg_right (by omega) (by decide)
              have h11 : (B32 ^ 6 - 1) * (B32 ^ 4 - 1) < B32 ^ 6 * B32 ^ 4 := by decide
              omega
            have hS5 := Lib.hid hS5
            have hv5 := Lib.hid hv5
            have s13 := s12.quiet o4
            have hMs := Lib.hid (src_blk (n := 5) (show x4.heap[MB]? = some (.cells ((([4294967291, 4294967295, 4294967295, 4294967295, 3] : List Int).map (Value.int .u32)).toArray) 26 (0, 0)) from s13.head) rfl (by decide))
            clear hS33 hS4 s12
            go_wp2_with fail
            refine (mod_any a5 (some ⟨MB, 0, none⟩) c5 5 q5 [4294967291, 4294967295, 4294967295, 4294967295, 3] x4 hS5.out hMs.out hu5 (by simp [U32s]) (by simp [Tm, gtI]) (by rw [p130v]; decide) (by omega) (by decide)).mono ?_
            rintro e x5 ⟨o5, v5, rfl, hN5⟩
            rw [hv5.out, p130v, hrv.out] at hN5
            have hN5 := Lib.hid hN5
            have s14 := s13.quiet o5
            have hbn : Hid (0 ≤ (acc + lv 256 (Q ++ [1])) * rOf ks % P130 ∧ (acc + lv 256 (Q ++ [1])) * rOf ks % P130 < P130) := ⟨Int.emod_nonneg _ (by decide), Int.emod_lt_of_pos _ (by decide)⟩
            have i9 : IntKind.i64.wrap ((at_ : Int) + 16) = (at_ : Int) + 16 := IntWalk.i64_in _ (by omega)
            clear hS5 hMs s13
            go_wp2_with fail
            exact ⟨⟨_, at_ + 16, f', _, rfl, by simp, by omega, hbn.out.1, hbn.out.2, hN5.out, hpf, hpv.out, s14⟩, by simp [intOf]; omega⟩
        · have hd : xs.drop at_ = [] := List.drop_of_length_le (by omega)
          rw [hd, polyV_nil] at hpv
          have d0 : decide ((at_ : Int) < (xs.length : Int)) = false := by simp; omega
          have hB5 : P130 < B32 ^ 5 := by decide
          obtain ⟨a1, c1, sv, rfl, hS, hus, hts, hvs, hls⟩ := hN.slice (k := 5) (Int.lt_trans ha1 hB5)
          have HS := Lib.hid hS
          have hvs := Lib.hid hvs
          have hpv := Lib.hid hpv
          obtain ⟨ao', c', hsl1, hsl2⟩ := slice_ex (some ⟨gK, 0, none⟩) 32 cK 16 16 rfl
          have hsl1 : ∀ w, (Instr.sliceAt 22 (.slice (some ⟨gK, 0, none⟩) 32 cK) (some (.int .i64 16)) none none).run Try.prog w = .ok (.slice ao' 16 c') w := hsl1
          have hdl : Hid ((K.drop 16).length = 16) := by show _ = _; rw [List.length_drop, hl1.out]
          have hK2 : Hid (Src wr (.slice ao' 16 c') 1 (K.drop 16).length ((K.drop 16).map (Value.int .u8))) := by
            show Src _ _ _ _ _
            rw [hdl.out, List.map_drop]
            exact hsl2 _ _ (own_src hs.tail.tail.head)
          have hKb : Hid (∀ x ∈ K.drop 16, 0 ≤ x ∧ x < 256) := fun x hx => hb1.out x (List.mem_of_mem_drop hx)
          have ho := Lib.hid hs.only
          clear hsl2 hN hS hs hd hf
          go_wp2_with fail
          refine (low_any _ (K.drop 16) wr hK2.out hKb.out (by rw [hdl.out]; decide)).mono ?_
          rintro e x1 ⟨o1, v1, rfl, hN1⟩
          have hKv : lv 256 (K.drop 16) < B32 ^ 4 := by
            have h1 := lv_lt (B := 256) (by decide) (K.drop 16) hKb.out
            rw [hdl.out] at h1
            exact h1
          obtain ⟨a2, c2, kv, rfl, hS2, hu2, ht2, hv2, hl2'⟩ := hN1.slice hKv
          have hS2 := Lib.hid hS2
          have hv2 := Lib.hid hv2
          have HS2 := Lib.hid (HS.out.off o1 (fun _ _ _ => by simp))
          clear hN1 hK2 HS
          go_wp2_with fail
          refine (plus_any a1 a2 c1 c2 sv kv x1 HS2.out hS2.out hus hu2 (by omega) (by omega)).mono ?_
          rintro e x2 ⟨o2, v2, rfl, hN2⟩
          rw [hvs.out, hv2.out] at hN2
          have hb2 : acc + lv 256 (K.drop 16) < B32 ^ 6 := by
            have h2 : B32 ^ 5 + B32 ^ 4 < B32 ^ 6 := by decide
            omega
          obtain ⟨a3, c3, q3, rfl, hS3, hu3, ht3, hv3, hl3⟩ := hN2.slice hb2
          have hS3 := Lib.hid hS3
          have hv3 := Lib.hid hv3
          clear hN2 HS2 hS2
          go_wp2_with fail
          refine (nbytes_any a3 c3 q3 16 x2 hS3.out hu3 (by omega) (by decide)).mono ?_
          rintro e x3 ⟨v3, rfl, k1, k2, k3⟩
          have hfin : dg 256 (lv B32 q3) 16 = tagL ks xs := by rw [hv3.out, hpv.out, HK.out]; rfl
          rw [hfin] at k1
          have k1 := Lib.hid k1
          have k2 := Lib.hid k2
          have oo := Lib.hid ((ho.out.trans o1).trans o2)
          have ooo := Lib.hid (oo.out.trans k3)
          clear hfin k3
          go_wp2_with fail
          go_ret
          exact ⟨_, rfl, k1.out, k2.out.weaken oo.out.size, ooo.out⟩
end Go.Proofs.Ytemmdhfmdgpfmaa
