/- Layer 5 (chacha), the reference: the contract of Stream. -/
import Derived.Test.YtemmdhfmdgpfmaaStr1
import Derived.Test.YtemmdhfmdgpfmaaBlk3
namespace Go.Proofs.Ytemmdhfmdgpfmaa
open Go.RowKit Go.Pw
set_option linter.unusedVariables false

set_option maxRecDepth 100000 in
set_option maxHeartbeats 3200000 in
theorem rstream_any (key nonce p : Value) (ks ns xs : List Int) (n : Int) (w : World) (hk : Src w key 1 ks.length (ks.map (Value.int .u8))) (hkb : ∀ x ∈ ks, 0 ≤ x ∧ x < 256)
    (hn : Src w nonce 1 ns.length (ns.map (Value.int .u8))) (hnb : ∀ x ∈ ns, 0 ≤ x ∧ x < 256) (hn32 : W32 n) (hp : Src w p 1 xs.length (xs.map (Value.int .u8))) (hxb : ∀ x ∈ xs, 0 ≤ x ∧ x < 256) (hxl : xs.length ≤ 1000000) :
    Calls Try.prog 14 #[key, .int .u32 n, nonce, p] w (Fresh (streamL ks n ns xs) w) := by
  obtain ⟨ap, cp, rfl, _⟩ := id hp
  obtain ⟨inf, hi0, hz0, hz1, hz2⟩ := info_parts Try.info5
  go_enter Try.func14, Try.ntmps14
  have s0 : Sep w w [row 5 1 (.slice none 0 0) 0 [], row 5 1 (.slice none 0 0) 0 []] := Sep.rown (Sep.rown (Sep.nil w) 5 1) 5 1
  go_wp2_with fail
  go_loopw [9, 10, 11] (fun u9 u10 u11 wr => ∃ (i : Nat) (v : Value) (bl : List Int) (av : Option Addr) (cv : Nat), u9 = .slice av i cv ∧ u10 = v ∧ u11 = .int .i64 i ∧ i ≤ xs.length ∧ (i % 64 ≠ 0 → bl = blockL ks (nOf n i) ns) ∧ Sep w wr [row 5 1 v bl.length (bl.map (.int .u8)), row 5 1 (.slice av i cv) i ((strK ks n ns xs i).map (.int .u8))]) (fun _ _ u11 _ => xs.length - (intOf u11).toNat)
  case atStart => exact ⟨0, .slice none 0 0, [], none, 0, rfl, rfl, rfl, by omega, by simp, s0⟩
  case round =>
    clear s0
    obtain ⟨i, v, bl, av, cv, rfl, rfl, rfl, hi, hbl, hs⟩ := hrel
    by_cases hin : i < xs.length
    · have r1 : (i : Int).tmod 64 = ((i % 64 : Nat) : Int) := by rw [Int.tmod_eq_emod_of_nonneg (by omega)]; omega
      have r2 : (i : Int) % 64 = ((i % 64 : Nat) : Int) := by omega
      have r3 : (i : Int).tdiv 64 = ((i / 64 : Nat) : Int) := by rw [Int.tdiv_eq_ediv_of_nonneg (by omega)]; omega
      have r4 : (i : Int) / 64 = ((i / 64 : Nat) : Int) := by omega
      have r5 : IntKind.u32.wrap ((i / 64 : Nat) : Int) = ((i / 64 : Nat) : Int) := by simp [IntKind.wrap, IntKind.bits, IntKind.signed]; omega
      have d0 : decide ((i : Int) < (xs.length : Int)) = true := by simp; omega
      have hz : IntKind.u32.wrap (n + ((i / 64 : Nat) : Int)) = nOf n i := by simp [IntKind.wrap, IntKind.bits, IntKind.signed, nOf]
      have hz := hz
      obtain ⟨m, hm⟩ : ∃ m, m = i % 64 := ⟨_, rfl⟩
      rw [← hm] at r1 r2 hbl
      obtain ⟨q, hq⟩ : ∃ q, q = i / 64 := ⟨_, rfl⟩
      rw [← hq] at r3 r4 r5 hz
      have Hm := Lib.hid hm
      have Hq := Lib.hid hq
      have hbl := Lib.hid hbl
      clear hm hq
      go_upto_if 20 with fail
      go_cut [10] from 12 to 41 (fun u10 wx => ∃ (g c : Nat), u10 = .slice (some ⟨g, 0, none⟩) 64 c ∧ Sep w wx [row 5 1 (.slice (some ⟨g, 0, none⟩) 64 c) 64 ((blockL ks (nOf n i) ns).map (.int .u8)), row 5 1 (.slice av i cv) i ((strK ks n ns xs i).map (.int .u8))])
      case first =>
        by_cases hm0 : m = 0
        · have d1 : decide ((m : Int) = 0) = true := by simp; omega
          go_wp2_with fail
          refine (rblock_any key nonce ks ns (nOf n i) wr (hs.src hk) hkb (hs.src hn) hnb (nOf_bd n i)).mono ?_
          rintro e w5 hf
          obtain ⟨g, c, rfl, _, _, hsR⟩ := hf.row 64 (block_len _ _ _) (by decide)
          have s2 := Sep.drop1 (hsR hs)
          clear hf hsR
          go_wp2_with fail
          go_meet
          case rel => exact ⟨g, c, rfl, s2⟩
        · have d1 : decide ((m : Int) = 0) = false := by simp; omega
          have hb := hbl.out hm0
          subst hb
          rw [block_len] at hs
          obtain ⟨ao, c, rfl⟩ := own_slice (show wr.ownsRow 0 5 1 _ 64 _ from hs.head)
          obtain ⟨g, rfl, _⟩ := own_some (show wr.ownsRow 0 5 1 (.slice ao 64 c) 64 _ from hs.head) (by decide)
          go_wp2_with fail
          go_meet
          case rel => exact ⟨g, c, rfl, hs⟩
      case rest =>
        clear hs hbl
        obtain ⟨g, c, rfl, hs⟩ := hcut
        go_upto_region 7 with fail
        have hs := hs.quiet (Only.drew wc [])
        obtain ⟨b, of, rfl, hcell⟩ := src_at (hs.src hp) hin
        have hc := hcell i (.int .u8 (gtI xs i)) (by rw [List.getElem?_map, List.getElem?_eq_getElem hin, gtI_get hin]; rfl)
        have hx := gtI_bd hxb i
        have hR1 : wc.drew.ownsRow 0 5 1 (.slice (some ⟨g, 0, none⟩) 64 c) 64 ((blockL ks (nOf n i) ns).map (.int .u8)) := hs.head
        have hm64 : m < 64 := by rw [Hm.out]; exact Nat.mod_lt _ (by decide)
        have cb := hR1.cellAt m (by omega)
        rw [List.getElem?_map, List.getElem?_eq_getElem (by rw [block_len]; exact hm64), ← gtI_get (by rw [block_len]; exact hm64)] at cb
        simp only [Option.map_some] at cb
        have hsb : Hid (sBy ks n ns i = gtI (blockL ks (nOf n i) ns) m) := by show _ = _; rw [Hm.out]; rfl
        have hyb : 0 ≤ gtI (blockL ks (nOf n i) ns) m ∧ gtI (blockL ks (nOf n i) ns) m < 256 := by rw [← hsb.out]; exact sBy_bd ks n ns i
        have hF : Hid (strK ks n ns xs (i + 1) = strK ks n ns xs i ++ [xor8 (gtI xs i) (gtI (blockL ks (nOf n i) ns) m)]) := by show _ = _; rw [← hsb.out]; rfl
        have hbn : Hid ((i + 1) % 64 ≠ 0 → blockL ks (nOf n i) ns = blockL ks (nOf n (i + 1)) ns) := fun h => by rw [nOf_step n h]
        have hl64 := Lib.hid (block_len ks (nOf n i) ns)
        clear hcell hR1 hz hsb
        generalize gtI xs i = x at *
        generalize blockL ks (nOf n i) ns = bl2 at *
        generalize gtI bl2 m = y at *
        obtain ⟨z, hzx⟩ : ∃ z, bits .xor .u8 x y = z := ⟨_, rfl⟩
        rw [show xor8 x y = z from hzx] at hF
        have i0 : (0 : Int) ≤ (i : Int) := by omega
        have i1 : (i : Int) < xs.length := by omega
        have i2 : (0 : Int) ≤ (m : Int) := by omega
        have i3 : (m : Int) < 64 := by omega
        obtain ⟨x0, x1⟩ := hx
        obtain ⟨y0, y1⟩ := hyb
        have s7 := hs.up 1 (by simp)
        have hown : wc.drew.ownsRow 0 5 1 (.slice av i cv) i ((strK ks n ns xs i).map (.int .u8)) := s7.head
        have hE : Hid ((strK ks n ns xs (i + 1)).map (Value.int .u8) = (strK ks n ns xs i).map (.int .u8) ++ [.int .u8 z]) := by show _ = _; rw [hF.out]; exact List.map_append
        have cb2 : ∀ o, (wc.alloc o).drew.cell? ⟨g, m, none⟩ = some (.int .u8 y) := fun o => cell_al cb o
        have hc2 : ∀ o, (wc.alloc o).drew.cell? ⟨b, of + i, none⟩ = some (.int .u8 x) := fun o => cell_al hc o
        go_region_law (refine step_append_src rfl (.tmp 29) (.tmp 40) 22 rfl 5 inf (.int .u8 0) 1 1 Try.underlying22 hi0 hz0 hz1 hz2 rfl (by decide) (.slice av i cv) i ((strK ks n ns xs i).map (.int .u8)) (by simp [Act.eval]) (hown.alloc _) _ 1 _ (by simp [Act.eval]) (src_one _ (.int .u8 z) 5).drew (by simp [Value.oneCell']) (by unfold maxLen; omega) (by omega) (fun v7 w7 g1 g2 g3 => ?_); obtain ⟨a7, c7, rfl⟩ := own_slice g1)
        all_goals
          have u1 : Sep w (wc.alloc (.cells #[.int .u8 z] 5)).drew _ := s7.quiet (Only.alloc wc.drew (.cells #[.int .u8 z] 5) [])
          have u2 := (Sep.app u1 g1 g2 g3).up 1 (by simp)
          clear g1 g2 g3 u1 hown hs s7 hc2 cb2
          go_wp2_with fail
          exact ⟨⟨i + 1, _, bl2, a7, c7, rfl, rfl, by simp, by omega, hbn.out, by rw [hl64.out, hE.out]; exact u2⟩, by simp [intOf]; omega⟩
    · obtain rfl : i = xs.length := by omega
      have hs2 := hs.up 1 (by simp)
      have hown : wr.ownsRow 0 5 1 (.slice av xs.length cv) xs.length ((strK ks n ns xs xs.length).map (.int .u8)) := hs2.head
      have hnew := hs2.new _ (List.mem_cons_self ..)
      have ho := hs.only
      clear hs hs2 hbl
      go_wp2_with fail
      go_ret
      exact ⟨_, rfl, by rw [stream_len]; exact hown, fun k hk => .inr (hnew k (by simpa [row] using hk)), ho⟩
end Go.Proofs.Ytemmdhfmdgpfmaa
