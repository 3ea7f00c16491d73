/- Layer 5 (chacha), the reference: the contract of Seal. -/
import Derived.Test.YtemmdhfmdgpfmaaSeal2
import Derived.Test.YtemmdhfmdgpfmaaStr2
import Derived.Deep.Cut
import Derived.Deep.CutBlock
namespace Go.Proofs.Ytemmdhfmdgpfmaa
open Go.RowKit Go.Pw
set_option linter.unusedVariables false

set_option maxRecDepth 100000 in
set_option maxHeartbeats 3200000 in
theorem rseal_any (key nonce p : Value) (aw : Option Addr) (cw : Nat) (ks ns ws xs : List Int) (w : World) (hk : Pw.Src w key 1 ks.length (ks.map (Value.int .u8))) (hkb : ∀ x ∈ ks, 0 ≤ x ∧ x < 256)
    (hn : Pw.Src w nonce 1 ns.length (ns.map (Value.int .u8))) (hnb : ∀ x ∈ ns, 0 ≤ x ∧ x < 256) (hw : Pw.Src w (.slice aw ws.length cw) 1 ws.length (ws.map (Value.int .u8))) (hwb : ∀ x ∈ ws, 0 ≤ x ∧ x < 256)
    (hp : Pw.Src w p 1 xs.length (xs.map (Value.int .u8))) (hxb : ∀ x ∈ xs, 0 ≤ x ∧ x < 256) (hwl : ws.length ≤ 10000) (hxl : xs.length ≤ 10000) :
    Calls Try.prog 15 #[key, nonce, .slice aw ws.length cw, p] w (Fresh (sealL ks ns ws xs) w) := by
  obtain ⟨inf, hi0, hz0, hz1, hz2⟩ := info_parts Try.info5
  obtain ⟨ap, cp, rfl, _⟩ := id hp
  go_enter Try.func15, Try.ntmps15
  go_wp2_with fail
  refine (rstream_any key nonce _ ks ns xs 1 w hk hkb hn hnb (by unfold W32; omega) hp hxb (by omega)).mono ?_
  rintro e w1 ⟨v, rfl, h1, h2, h3⟩
  obtain ⟨a1, c1, rfl⟩ := own_slice h1
  have s1 := (Sep.nil w).row0 h1 h2 h3
  have hCb := Lib.hid (stream_byt (ks := ks) (n := 1) (ns := ns) hxb)
  have hCl : (streamL ks 1 ns xs).length ≤ 10000 := by rw [stream_len]; exact hxl
  obtain ⟨C, hC⟩ : ∃ C, C = streamL ks 1 ns xs := ⟨_, rfl⟩
  rw [← hC] at s1 hCb hCl ⊢
  have HC := Lib.hid hC
  clear hC h1 h2 h3
  have s0 := Sep.rown s1 5 1
  have hown : w1.ownsRow 0 5 1 (.slice none 0 0) 0 [] := s0.head
  have hws := s0.src hw
  clear s1
  go_upto_block 0 with (at_builtin; refine wpList_append_src rfl _ _ 22 rfl 5 inf (.int .u8 0) 1 1 Try.underlying22 hi0 hz0 hz1 hz2 rfl (by decide) (.slice none 0 0) 0 [] rfl hown _ ws.length _ rfl hws (one_ints _ _) (by unfold maxLen; omega) (by omega) ?_; intro v7 w7 g1 g2 g3; obtain ⟨a7, c7, rfl⟩ := own_slice g1)
  have s2 : Pw.Sep w w7 [row 5 1 (.slice a7 ws.length c7) ws.length (ws.map (.int .u8)), row 5 1 (.slice a1 C.length c1) C.length (C.map (.int .u8))] := by
    have := Sep.app s0 g1 g2 g3
    simp only [Nat.zero_add, List.nil_append] at this
    exact this
  clear g1 g2 g3 s0 hown hws
  go_wp2_with fail
  go_loopw [10] (fun u10 wr => ∃ (k : Nat) (av : Option Addr) (cv : Nat), u10 = .slice av (ws.length + k) cv ∧ k ≤ (16 - ws.length % 16) % 16 ∧ Pw.Sep w wr [row 5 1 (.slice av (ws.length + k) cv) (ws.length + k) ((ws ++ List.replicate k 0).map (.int .u8)), row 5 1 (.slice a1 C.length c1) C.length (C.map (.int .u8))]) (fun u10 _ => 16 - (slen u10 - ws.length))
  case atStart => exact ⟨0, _, _, rfl, by omega, by rw [List.replicate_zero, List.append_nil]; exact s2⟩
  case round =>
    clear s2
    obtain ⟨k, av, cv, rfl, hk9, hs⟩ := hrel
    have t1 : ((ws.length + k : Nat) : Int).tmod 16 = (((ws.length + k) % 16 : Nat) : Int) := by rw [Int.tmod_eq_emod_of_nonneg (by omega)]; omega
    have t2 : ((ws.length + k : Nat) : Int) % 16 = (((ws.length + k) % 16 : Nat) : Int) := by omega
    have t3 : (((ws.length : Int) + (k : Int))).tmod 16 = (((ws.length + k) % 16 : Nat) : Int) := by rw [Int.tmod_eq_emod_of_nonneg (by omega)]; omega
    have t4 : ((ws.length : Int) + (k : Int)) % 16 = (((ws.length + k) % 16 : Nat) : Int) := by omega
    obtain ⟨r, hr⟩ : ∃ r, r = (ws.length + k) % 16 := ⟨_, rfl⟩
    rw [← hr] at t1 t2 t3 t4
    by_cases hkk : k < (16 - ws.length % 16) % 16
    · have hr0 : r ≠ 0 := by omega
      have d0 : ((r : Int) == 0) = false := by simp; omega
      have d1 : ((r : Int) != 0) = true := by simp; omega
      have d2 : decide ((r : Int) = 0) = false := by simp; omega
      have u1 := hs.quiet (Only.alloc wr (.cells #[.int .u8 0] 5) [])
      have hs6 := src_one wr (.int .u8 0) 5
      have hown : (wr.alloc (.cells #[.int .u8 0] 5)).ownsRow 0 5 1 (.slice av (ws.length + k) cv) (ws.length + k) ((ws ++ List.replicate k 0).map (.int .u8)) := u1.head
      clear hr
      go_wp2_with (at_builtin; refine wpList_append_src rfl _ _ 22 rfl 5 inf (.int .u8 0) 1 1 Try.underlying22 hi0 hz0 hz1 hz2 rfl (by decide) (.slice av (ws.length + k) cv) (ws.length + k) ((ws ++ List.replicate k 0).map (.int .u8)) rfl hown _ 1 _ rfl hs6 (by simp [Value.oneCell']) (by unfold maxLen; omega) (by omega) ?_; intro v7 w7 g1 g2 g3; obtain ⟨a7, c7, rfl⟩ := own_slice g1)
      have u2 := Sep.app u1 g1 g2 g3
      have hF : Hid (((ws ++ List.replicate (k + 1) 0).map (Value.int .u8)) = (ws ++ List.replicate k 0).map (.int .u8) ++ [.int .u8 0]) := by
        show _ = _
        rw [List.replicate_succ', ← List.append_assoc, List.map_append]; rfl
      clear g1 g2 g3 u1 hs6 hown t1 t2 t3 t4
      go_wp2_with fail
      exact ⟨⟨k + 1, a7, c7, by rw [Nat.add_assoc], by omega, by rw [hF.out]; exact u2⟩, by simp [slen]; omega⟩
    · have hke : k = (16 - ws.length % 16) % 16 := by omega
      have hr0 : r = 0 := by omega
      subst hr0
      have ep : padL ws = ws ++ List.replicate k 0 := by rw [hke]; rfl
      have el : (padL ws).length = ws.length + k := by rw [padL_len, hke]
      rw [← ep, ← el] at hs
      rw [← el]
      have tp : ((padL ws).length : Int).tmod 16 = 0 := by rw [Int.tmod_eq_emod_of_nonneg (by omega)]; omega
      have tq : ((padL ws).length : Int) % 16 = 0 := by omega
      have epl := Lib.hid el
      clear t1 t2 t3 t4 hr hke hkk hk9 ep el
      have hown : wr.ownsRow 0 5 1 (.slice av (padL ws).length cv) (padL ws).length ((padL ws).map (.int .u8)) := hs.head
      have hCs : Pw.Src wr (.slice a1 C.length c1) 1 C.length (C.map (.int .u8)) := own_src hs.tail.head
      have hpb : (padL ws).length ≤ 10016 := by rw [padL_len]; omega
      clear epl
      go_upto_block 2 with (at_builtin; refine wpList_append_src rfl _ _ 22 rfl 5 inf (.int .u8 0) 1 1 Try.underlying22 hi0 hz0 hz1 hz2 rfl (by decide) (.slice av (padL ws).length cv) (padL ws).length ((padL ws).map (.int .u8)) rfl hown _ C.length _ rfl hCs (one_ints _ _) (by unfold maxLen; omega) (by omega) ?_; intro v7 w7 g1 g2 g3; obtain ⟨a7, c7, rfl⟩ := own_slice g1)
      obtain ⟨P1, hP1⟩ : ∃ l, l = padL ws ++ C := ⟨_, rfl⟩
      have hPl : Hid (P1.length = (padL ws).length + C.length) := by show _ = _; rw [hP1, List.length_append]
      have hPb : P1.length ≤ 30000 := by have := hPl.out; omega
      have s3 : Pw.Sep w w7 [row 5 1 (.slice a7 P1.length c7) P1.length (P1.map (.int .u8)), row 5 1 (.slice a1 C.length c1) C.length (C.map (.int .u8))] := by
        rw [hPl.out, hP1, List.map_append]; exact Sep.app hs g1 g2 g3
      have HP1 := Lib.hid hP1
      rw [← hPl.out]
      clear g1 g2 g3 hs hown hCs hP1
      go_wp2_with fail
      go_loopw [10] (fun u10 wr => ∃ (k : Nat) (av : Option Addr) (cv : Nat), u10 = .slice av (P1.length + k) cv ∧ k ≤ (16 - P1.length % 16) % 16 ∧ Pw.Sep w wr [row 5 1 (.slice av (P1.length + k) cv) (P1.length + k) ((P1 ++ List.replicate k 0).map (.int .u8)), row 5 1 (.slice a1 C.length c1) C.length (C.map (.int .u8))]) (fun u10 _ => 16 - (slen u10 - P1.length))
      case atStart => exact ⟨0, _, _, rfl, by omega, by rw [List.replicate_zero, List.append_nil]; exact s3⟩
      case round =>
        clear s3
        obtain ⟨k, av, cv, rfl, hk9, hs⟩ := hrel
        have t1 : ((P1.length + k : Nat) : Int).tmod 16 = (((P1.length + k) % 16 : Nat) : Int) := by rw [Int.tmod_eq_emod_of_nonneg (by omega)]; omega
        have t2 : ((P1.length + k : Nat) : Int) % 16 = (((P1.length + k) % 16 : Nat) : Int) := by omega
        have t3 : (((P1.length : Int) + (k : Int))).tmod 16 = (((P1.length + k) % 16 : Nat) : Int) := by rw [Int.tmod_eq_emod_of_nonneg (by omega)]; omega
        have t4 : ((P1.length : Int) + (k : Int)) % 16 = (((P1.length + k) % 16 : Nat) : Int) := by omega
        obtain ⟨r, hr⟩ : ∃ r, r = (P1.length + k) % 16 := ⟨_, rfl⟩
        rw [← hr] at t1 t2 t3 t4
        by_cases hkk : k < (16 - P1.length % 16) % 16
        · have hr0 : r ≠ 0 := by omega
          have d0 : ((r : Int) == 0) = false := by simp; omega
          have d1 : ((r : Int) != 0) = true := by simp; omega
          have d2 : decide ((r : Int) = 0) = false := by simp; omega
          have u1 := hs.quiet (Only.alloc wr (.cells #[.int .u8 0] 5) [])
          have hs6 := src_one wr (.int .u8 0) 5
          have hown : (wr.alloc (.cells #[.int .u8 0] 5)).ownsRow 0 5 1 (.slice av (P1.length + k) cv) (P1.length + k) ((P1 ++ List.replicate k 0).map (.int .u8)) := u1.head
          clear hr
          go_wp2_with (at_builtin; refine wpList_append_src rfl _ _ 22 rfl 5 inf (.int .u8 0) 1 1 Try.underlying22 hi0 hz0 hz1 hz2 rfl (by decide) (.slice av (P1.length + k) cv) (P1.length + k) ((P1 ++ List.replicate k 0).map (.int .u8)) rfl hown _ 1 _ rfl hs6 (by simp [Value.oneCell']) (by unfold maxLen; omega) (by omega) ?_; intro v7 w7 g1 g2 g3; obtain ⟨a7, c7, rfl⟩ := own_slice g1)
          have u2 := Sep.app u1 g1 g2 g3
          have hF : Hid (((P1 ++ List.replicate (k + 1) 0).map (Value.int .u8)) = (P1 ++ List.replicate k 0).map (.int .u8) ++ [.int .u8 0]) := by
            show _ = _
            rw [List.replicate_succ', ← List.append_assoc, List.map_append]; rfl
          clear g1 g2 g3 u1 hs6 hown t1 t2 t3 t4
          go_wp2_with fail
          exact ⟨⟨k + 1, a7, c7, by rw [Nat.add_assoc], by omega, by rw [hF.out]; exact u2⟩, by simp [slen]; omega⟩
        · have hke : k = (16 - P1.length % 16) % 16 := by omega
          have hr0 : r = 0 := by omega
          subst hr0
          have ep : padL P1 = P1 ++ List.replicate k 0 := by rw [hke]; rfl
          have el : (padL P1).length = P1.length + k := by rw [padL_len, hke]
          rw [← ep, ← el] at hs
          rw [← el]
          have tp : ((padL P1).length : Int).tmod 16 = 0 := by rw [Int.tmod_eq_emod_of_nonneg (by omega)]; omega
          have tq : ((padL P1).length : Int) % 16 = 0 := by omega
          have epl := Lib.hid el
          clear t1 t2 t3 t4 hr hke hkk hk9 ep el
          obtain ⟨B0, hB0⟩ : ∃ B, B = padL P1 := ⟨_, rfl⟩
          rw [← hB0] at hs tp tq ⊢
          have HB0 := Lib.hid hB0
          have hB0b : B0.length ≤ 38000 := by rw [hB0, padL_len]; omega
          have s5 := hs
          clear hs hB0
          go_wp2_with fail
          go_loopw [10, 11] (fun u10 u11 wr => ∃ (i : Nat) (av : Option Addr) (cv : Nat), u10 = .slice av (B0.length + i) cv ∧ u11 = .int .i64 i ∧ i ≤ 8 ∧ Pw.Sep w wr [row 5 1 (.slice av (B0.length + i) cv) (B0.length + i) ((B0 ++ (dg 256 (ws.length : Int) 8).take i).map (.int .u8)), row 5 1 (.slice a1 C.length c1) C.length (C.map (.int .u8))]) (fun _ u11 _ => 8 - (intOf u11).toNat)
          case atStart => exact ⟨0, _, _, rfl, rfl, by omega, by rw [List.take_zero, List.append_nil]; exact s5⟩
          case round =>
            clear s5
            obtain ⟨i, av, cv, rfl, rfl, hi8, hs5⟩ := hrel
            by_cases hi4 : i < 8
            · have k1 : IntKind.i64.wrap (8 * (i : Int)) = 8 * (i : Int) := IntWalk.i64_in _ (by omega)
              have k2 : (8 * (i : Int)).toNat = 8 * i := by omega
              have k3 : 0 ≤ 8 * (i : Int) := by omega
              have k4 : IntKind.u64.wrap ((ws.length : Int) : Int) = ((ws.length : Int) : Int) := by simp [IntKind.wrap, IntKind.bits, IntKind.signed]; omega
              have hF : Hid ((B0 ++ (dg 256 (ws.length : Int) 8).take (i + 1)).map (Value.int .u8) = (B0 ++ (dg 256 (ws.length : Int) 8).take i).map (.int .u8) ++ [.int .u8 (((ws.length : Int) : Int) / 2 ^ (8 * i) % 256)]) := by
                show _ = _
                rw [take_succ_gt (by rw [dg_len]; exact hi4), ← List.append_assoc, List.map_append]
                congr 2
                rw [dg_at _ _ hi4, pow8]; rfl
              have u1 := hs5.quiet (Only.alloc wr (.cells #[.int .u8 (IntKind.u8.wrap (((ws.length : Int) : Int) / 2 ^ (8 * i)))] 5) [])
              have hs6 := src_one wr (.int .u8 (IntKind.u8.wrap (((ws.length : Int) : Int) / 2 ^ (8 * i)))) 5
              have hown : (wr.alloc (.cells #[.int .u8 (IntKind.u8.wrap (((ws.length : Int) : Int) / 2 ^ (8 * i)))] 5)).ownsRow 0 5 1 (.slice av (B0.length + i) cv) (B0.length + i) ((B0 ++ (dg 256 (ws.length : Int) 8).take i).map (.int .u8)) := u1.head
              go_wp2_with (at_builtin; refine wpList_append_src rfl _ _ 22 rfl 5 inf (.int .u8 0) 1 1 Try.underlying22 hi0 hz0 hz1 hz2 rfl (by decide) (.slice av (B0.length + i) cv) (B0.length + i) ((B0 ++ (dg 256 (ws.length : Int) 8).take i).map (.int .u8)) rfl hown _ 1 _ rfl hs6 (by simp [Value.oneCell']) (by unfold maxLen; omega) (by omega) ?_; intro v7 w7 g1 g2 g3; obtain ⟨a7, c7, rfl⟩ := own_slice g1)
              have u2 := Sep.app u1 g1 g2 g3
              clear g1 g2 g3 u1 hs6 hown
              have hwr : Hid (IntKind.u8.wrap (((ws.length : Int) : Int) / 2 ^ (8 * i)) = ((ws.length : Int) : Int) / 2 ^ (8 * i) % 256) := by
                show _ = _
                simp [IntKind.wrap, IntKind.bits, IntKind.signed]
              rw [hwr.out, ← hF.out] at u2
              go_wp2_with fail
              exact ⟨⟨i + 1, a7, c7, rfl, by simp, by omega, u2⟩, by simp [intOf]; omega⟩
            · obtain rfl : i = 8 := by omega
              rw [show ((8 : Nat) : Int) = 8 from rfl]
              rw [List.take_of_length_le (by rw [dg_len]; exact Nat.le_refl _)] at hs5
              obtain ⟨B1, hB1⟩ : ∃ B, B = B0 ++ dg 256 (ws.length : Int) 8 := ⟨_, rfl⟩
              have hBl1 : Hid (B1.length = B0.length + 8) := by show _ = _; rw [hB1, List.length_append, dg_len]
              have s5 : Pw.Sep w wr [row 5 1 (.slice av B1.length cv) B1.length (B1.map (.int .u8)), row 5 1 (.slice a1 C.length c1) C.length (C.map (.int .u8))] := by rw [hBl1.out, hB1]; exact hs5
              rw [← hBl1.out]
              have HB1 := Lib.hid hB1
              have hB1b : B1.length ≤ 39000 := by rw [hBl1.out]; omega
              clear hs5 hB1
              go_wp2_with fail
              go_loopw [10, 12] (fun u10 u12 wr => ∃ (i : Nat) (av : Option Addr) (cv : Nat), u10 = .slice av (B1.length + i) cv ∧ u12 = .int .i64 i ∧ i ≤ 8 ∧ Pw.Sep w wr [row 5 1 (.slice av (B1.length + i) cv) (B1.length + i) ((B1 ++ (dg 256 (C.length : Int) 8).take i).map (.int .u8)), row 5 1 (.slice a1 C.length c1) C.length (C.map (.int .u8))]) (fun _ u12 _ => 8 - (intOf u12).toNat)
              case atStart => exact ⟨0, _, _, rfl, rfl, by omega, by rw [List.take_zero, List.append_nil]; exact s5⟩
              case round =>
                clear s5
                obtain ⟨i, av, cv, rfl, rfl, hi8, hs5⟩ := hrel
                by_cases hi4 : i < 8
                · have k1 : IntKind.i64.wrap (8 * (i : Int)) = 8 * (i : Int) := IntWalk.i64_in _ (by omega)
                  have k2 : (8 * (i : Int)).toNat = 8 * i := by omega
                  have k3 : 0 ≤ 8 * (i : Int) := by omega
                  have k4 : IntKind.u64.wrap ((C.length : Int) : Int) = ((C.length : Int) : Int) := by simp [IntKind.wrap, IntKind.bits, IntKind.signed]; omega
                  have hF : Hid ((B1 ++ (dg 256 (C.length : Int) 8).take (i + 1)).map (Value.int .u8) = (B1 ++ (dg 256 (C.length : Int) 8).take i).map (.int .u8) ++ [.int .u8 (((C.length : Int) : Int) / 2 ^ (8 * i) % 256)]) := by
                    show _ = _
                    rw [take_succ_gt (by rw [dg_len]; exact hi4), ← List.append_assoc, List.map_append]
                    congr 2
                    rw [dg_at _ _ hi4, pow8]; rfl
                  have u1 := hs5.quiet (Only.alloc wr (.cells #[.int .u8 (IntKind.u8.wrap (((C.length : Int) : Int) / 2 ^ (8 * i)))] 5) [])
                  have hs6 := src_one wr (.int .u8 (IntKind.u8.wrap (((C.length : Int) : Int) / 2 ^ (8 * i)))) 5
                  have hown : (wr.alloc (.cells #[.int .u8 (IntKind.u8.wrap (((C.length : Int) : Int) / 2 ^ (8 * i)))] 5)).ownsRow 0 5 1 (.slice av (B1.length + i) cv) (B1.length + i) ((B1 ++ (dg 256 (C.length : Int) 8).take i).map (.int .u8)) := u1.head
                  go_wp2_with (at_builtin; refine wpList_append_src rfl _ _ 22 rfl 5 inf (.int .u8 0) 1 1 Try.underlying22 hi0 hz0 hz1 hz2 rfl (by decide) (.slice av (B1.length + i) cv) (B1.length + i) ((B1 ++ (dg 256 (C.length : Int) 8).take i).map (.int .u8)) rfl hown _ 1 _ rfl hs6 (by simp [Value.oneCell']) (by unfold maxLen; omega) (by omega) ?_; intro v7 w7 g1 g2 g3; obtain ⟨a7, c7, rfl⟩ := own_slice g1)
                  have u2 := Sep.app u1 g1 g2 g3
                  clear g1 g2 g3 u1 hs6 hown
                  have hwr : Hid (IntKind.u8.wrap (((C.length : Int) : Int) / 2 ^ (8 * i)) = ((C.length : Int) : Int) / 2 ^ (8 * i) % 256) := by
                    show _ = _
                    simp [IntKind.wrap, IntKind.bits, IntKind.signed]
                  rw [hwr.out, ← hF.out] at u2
                  go_wp2_with fail
                  exact ⟨⟨i + 1, a7, c7, rfl, by simp, by omega, u2⟩, by simp [intOf]; omega⟩
                · obtain rfl : i = 8 := by omega
                  rw [show ((8 : Nat) : Int) = 8 from rfl]
                  rw [List.take_of_length_le (by rw [dg_len]; exact Nat.le_refl _)] at hs5
                  have e9 : ∀ l : List Int, (B1 ++ l).length = B1.length + l.length := fun l => List.length_append
                  obtain ⟨M, hM⟩ : ∃ M, M = B1 ++ dg 256 (C.length : Int) 8 := ⟨_, rfl⟩
                  have hMl : Hid (M.length = B1.length + 8) := by show _ = _; rw [hM, List.length_append, dg_len]
                  have hMt : Hid (M = tagB ws C) := by show _ = _; rw [hM, HB1.out, HB0.out, HP1.out]; rfl
                  have hs6 : Pw.Sep w wr [row 5 1 (.slice av M.length cv) M.length (M.map (.int .u8)), row 5 1 (.slice a1 C.length c1) C.length (C.map (.int .u8))] := by rw [hMl.out, hM]; exact hs5
                  rw [← hMl.out]
                  have hMb : Hid (∀ x ∈ M, 0 ≤ x ∧ x < 256) := by show ∀ _, _; rw [hMt.out]; exact tagB_byt hwb hCb.out
                  have hMll : M.length ≤ 40000 := by rw [hMl.out]; omega
                  clear hs5 hM e9
                  go_wp2_with fail
                  refine (rblock_any key nonce ks ns 0 wr (hs6.src hk) hkb (hs6.src hn) hnb (by unfold W32; omega)).mono ?_
                  rintro e w5 hf
                  obtain ⟨g, c, rfl, kc1, kc2, hsB⟩ := hf.row 64 (block_len _ _ _) (by decide)
                  have s7 := hsB hs6
                  obtain ⟨ao', hsl1, hsl2⟩ := slice_to8 (some ⟨g, 0, none⟩) 64 c 32 (by decide) kc1
                  have hsl1 : ∀ w, (Instr.sliceAt 22 (.slice (some ⟨g, 0, none⟩) 64 c) none (some (.int .i64 32)) none).run Try.prog w = .ok (.slice ao' 32 c) w := hsl1
                  have hbl : ((blockL ks 0 ns).take 32).length = 32 := by rw [List.length_take, block_len]; rfl
                  have hK : Pw.Src w5 (.slice ao' 32 c) 1 ((blockL ks 0 ns).take 32).length (((blockL ks 0 ns).take 32).map (Value.int .u8)) := by
                    rw [hbl, List.map_take]
                    exact hsl2 _ _ (own_src s7.head)
                  have hMs : Pw.Src w5 (.slice av M.length cv) 1 M.length (M.map (.int .u8)) := own_src s7.tail.head
                  have hK := Lib.hid hK
                  have hMs := Lib.hid hMs
                  have s8 : Pw.Sep w w5 [row 5 1 (.slice a1 C.length c1) C.length (C.map (.int .u8))] := s7.tail.tail
                  clear hf hsB hsl2 s7 hbl hs6
                  go_wp2_with fail
                  refine (rtag_any _ _ ((blockL ks 0 ns).take 32) M w5 hK.out (fun x hx => block_byt _ _ _ x (List.mem_of_mem_take hx)) hMs.out hMb.out (by omega)).mono ?_
                  rintro e w9 hf
                  obtain ⟨g9, c9, rfl, kc3, kc4, hsT⟩ := hf.row 16 (tagL_len _ _) (by decide)
                  have s9 := (hsT s8)
                  have hT : Pw.Src w9 (.slice (some ⟨g9, 0, none⟩) 16 c9) 1 16 ((tagL ((blockL ks 0 ns).take 32) M).map (.int .u8)) := own_src s9.head
                  have s10 := s9.up 1 (by simp)
                  have hown : w9.ownsRow 0 5 1 (.slice a1 C.length c1) C.length (C.map (.int .u8)) := s10.head
                  clear hf hsT s8 s9
                  go_wp2_with (at_builtin; refine wpList_append_src rfl _ _ 22 rfl 5 inf (.int .u8 0) 1 1 Try.underlying22 hi0 hz0 hz1 hz2 rfl (by decide) (.slice a1 C.length c1) C.length (C.map (.int .u8)) rfl hown _ 16 _ rfl hT (by simp [Value.oneCell']) (by unfold maxLen; omega) (by omega) ?_; intro v7 w7 g1 g2 g3; obtain ⟨a7, c7, rfl⟩ := own_slice g1)
                  have s11 := Sep.app s10 g1 g2 g3
                  have e1 : sealL ks ns ws xs = C ++ tagL ((blockL ks 0 ns).take 32) M := by rw [HC.out, hMt.out, HC.out]; rfl
                  have s12 : Pw.Sep w w7 [row 5 1 (.slice a7 (C.length + 16) c7) (sealL ks ns ws xs).length ((sealL ks ns ws xs).map (.int .u8))] := by
                    rw [e1, List.map_append, List.length_append, tagL_len]; exact Sep.one s11
                  have hfr := Lib.hid (fresh_row s12)
                  clear g1 g2 g3 s10 s11 s12 hown hT e1
                  go_wp2_with fail
                  go_ret
                  exact hfr.out
end Go.Proofs.Ytemmdhfmdgpfmaa
