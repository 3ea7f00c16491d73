/- Layer 5 (chacha), the reference: the contract of Block. -/
import Derived.Test.YtemmdhfmdgpfmaaBlk2
import Derived.Test.YtemmdhfmdgpfmaaRFit
import Derived.Deep.Cut
import Derived.Deep.CutBlock
import Derived.StillTailTactics
namespace Go.Proofs.Ytemmdhfmdgpfmaa
open Go.RowKit Go.Pw
set_option linter.unusedVariables false

theorem Try.info26 : (Try.prog.info? 26).map (fun i => (i.zero, i.size, i.bytes)) = some (some (.int .u32 0), 1, 4) := by kernel_rfl

theorem dg_at {B : Int} (n : Int) (k : Nat) {j : Nat} (hj : j < k) (hB : 0 ≤ B := by decide) : gtI (dg B n k) j = n / B ^ j % B := by
  induction k generalizing n j with
  | zero => omega
  | succ k ih =>
    cases j with
    | zero => simp [dg, gtI]
    | succ j =>
      have := ih (n / B) (j := j) (by omega)
      rw [show gtI (dg B n (k + 1)) (j + 1) = gtI (dg B (n / B) k) j by simp [dg, gtI], this, Int.pow_succ, Int.mul_comm, Int.ediv_ediv_of_nonneg hB]
/-- Words, one behind the other. -/
def sR (l K : List Int) : Nat → List Int
  | 0 => l
  | i + 1 => sR l K i ++ [wd K (4 * i)]
theorem sR_sL (K : List Int) (n : Int) (N : List Int) : sR (sR [1634760805, 857760878, 2036477234, 1797285236] K 8 ++ [n]) N 3 = sL K n N := rfl
/-- Sixteen words, as a resource. -/
def wds (g : Nat) (l : List Int) : Res where
  fp := [g]
  ok w := Wds g l w
  loc w w' h k := by
    obtain ⟨cur, T, h1, h2⟩ := k
    exact ⟨cur, T, (h g (by simp)).trans h1, h2⟩
  lt w h k hk := by
    obtain ⟨cur, T, h1, h2⟩ := h
    obtain rfl : k = g := by simpa using hk
    exact (Array.getElem?_eq_some_iff.1 h1).1
theorem wds_of {w0 w : World} {rs : List Res} {T g c : Nat} {l : List Int} (h : Sep w0 w (row T 1 (.slice (some ⟨g, 0, none⟩) 16 c) 16 (l.map (.int .u32)) :: rs)) (hl : W16 l) : Sep w0 w (wds g l :: rs) :=
  h.step (L := []) (Only.refl _ _) (by simp) (by
    obtain ⟨h1, h2⟩ := show w.ownsRow 0 T 1 _ 16 _ from h.head
    rcases h2 with ⟨he, _⟩ | ⟨g', cap, cur, he, hb, hg, k1, k2, k3, k4⟩
    · simp at he
    · simp only [Value.slice.injEq, Option.some.injEq, Addr.mk.injEq, and_true, true_and] at he
      obtain ⟨rfl, rfl⟩ := he
      exact ⟨cur, T, hg, by simpa using k4, hl.1, hl.2⟩) (fun k hk => .inl (by simpa [row, wds, Value.ownBlock] using hk))
theorem Sep.quarter {w0 w w' : World} {rs : List Res} {g : Nat} {l l' : List Int} (h : Sep w0 w (wds g l :: rs)) (h1 : Wds g l' w') (ho : Only w w' [g]) : Sep w0 w' (wds g l' :: rs) :=
  h.step (L := [g]) ho (fun k hk => .inl hk) h1 (fun k hk => .inl hk)
theorem rnd_eq (l : List Int) : qr (qr (qr (qr (qr (qr (qr (qr l 0 4 8 12) 1 5 9 13) 2 6 10 14) 3 7 11 15) 0 5 10 15) 1 6 11 12) 2 7 8 13) 3 4 9 14 = cB (cA l 4) 4 := rfl

set_option maxRecDepth 100000 in
set_option maxHeartbeats 3200000 in
theorem rblock_any (key nonce : Value) (ks ns : List Int) (n : Int) (w : World) (hk : Src w key 1 ks.length (ks.map (Value.int .u8))) (hkb : ∀ x ∈ ks, 0 ≤ x ∧ x < 256)
    (hn : Src w nonce 1 ns.length (ns.map (Value.int .u8))) (hnb : ∀ x ∈ ns, 0 ≤ x ∧ x < 256) (hn32 : W32 n) :
    Calls Try.prog 12 #[key, .int .u32 n, nonce] w (Fresh (blockL ks n ns) w) := by
  obtain ⟨i0, hi, hz0, hz1, hz2⟩ := info_parts Try.info5
  obtain ⟨i1, hi1, hy0, hy1, hy2⟩ := info_parts Try.info26
  go_enter Try.func12, Try.ntmps12
  go_wp2_with fail
  refine (rfit_any key ks 32 w hk hkb (by decide) (by decide)).mono ?_
  rintro e w1 hf
  obtain ⟨gK, cK, rfl, kc1, kc2, hsK⟩ := hf.row 32 (fitL_len _ _) (by decide)
  have s1 := hsK (Sep.nil w)
  have hb1 := Lib.hid (fitL_byt hkb 32)
  have hl1 := Lib.hid (fitL_len ks 32)
  obtain ⟨K, hKe⟩ : ∃ K, K = fitL ks 32 := ⟨_, rfl⟩
  rw [← hKe] at s1 hb1 hl1
  have HK := Lib.hid hKe
  clear hf hsK hKe hk
  go_wp2_with fail
  refine (rfit_any nonce ns 12 w1 (s1.src hn) hnb (by decide) (by decide)).mono ?_
  rintro e w2 hf
  obtain ⟨gN, cN, rfl, nc1, nc2, hsN⟩ := hf.row 12 (fitL_len _ _) (by decide)
  have s2 := hsN s1
  have hb2 := Lib.hid (fitL_byt hnb 12)
  have hl2 := Lib.hid (fitL_len ns 12)
  obtain ⟨N, hNe⟩ : ∃ N, N = fitL ns 12 := ⟨_, rfl⟩
  rw [← hNe] at s2 hb2 hl2
  have HN := Lib.hid hNe
  clear hf hsN hNe hn s1
  have s3 : Sep w _ [row 26 1 (.slice (some ⟨w2.heap.size, 0, none⟩) (4 + 0) 4) (4 + 0) ((sR [1634760805, 857760878, 2036477234, 1797285236] K 0).map (.int .u32)), row 5 1 (.slice (some ⟨gN, 0, none⟩) 12 cN) 12 (N.map (.int .u8)), row 5 1 (.slice (some ⟨gK, 0, none⟩) 32 cK) 32 (K.map (.int .u8))] :=
    s2.add (Only.alloc w2 (.cells #[.int .u32 1634760805, .int .u32 857760878, .int .u32 2036477234, .int .u32 1797285236] 26) []) (World.ownsRow_lit (base := 0) w2 #[.int .u32 1634760805, .int .u32 857760878, .int .u32 2036477234, .int .u32 1797285236] 4 (Nat.zero_le _) (by decide) rfl) (fun k hk => by simp [row, Value.ownBlock] at hk; omega)
  go_wp2_with fail
  go_loopw [7, 8] (fun u7 u8 wr => ∃ (i : Nat) (av : Option Addr) (cv : Nat), u7 = .slice av (4 + i) cv ∧ u8 = .int .i64 i ∧ i ≤ 8 ∧ Sep w wr [row 26 1 (.slice av (4 + i) cv) (4 + i) ((sR [1634760805, 857760878, 2036477234, 1797285236] K i).map (.int .u32)), row 5 1 (.slice (some ⟨gN, 0, none⟩) 12 cN) 12 (N.map (.int .u8)), row 5 1 (.slice (some ⟨gK, 0, none⟩) 32 cK) 32 (K.map (.int .u8))]) (fun _ u8 _ => 8 - (intOf u8).toNat)
  case atStart => exact ⟨0, some ⟨w2.heap.size, 0, none⟩, 4, rfl, rfl, by omega, s3⟩
  case round =>
    clear s3
    obtain ⟨i, av, cv, rfl, rfl, hi8, hs⟩ := hrel
    by_cases hil : i < 8
    · have j1 : IntKind.i64.wrap (4 * (i : Int)) = 4 * (i : Int) := IntWalk.i64_in _ (by omega)
      have hX := (show Src wr (.slice (some ⟨gK, 0, none⟩) 32 cK) 1 K.length (K.map (Value.int .u8)) by rw [hl1.out]; exact own_src hs.tail.tail.head)
      have hX := Lib.hid hX
      go_wp2_with fail
      refine (rword_any _ K (4 * i) wr hX.out hb1.out (by rw [hl1.out]; omega) (by omega)).mono ?_
      rintro e w5 ⟨rfl, ho5⟩
      have hs5 := hs.quiet ho5
      have hF : Hid ((sR [1634760805, 857760878, 2036477234, 1797285236] K (i + 1)).map (Value.int .u32) = (sR [1634760805, 857760878, 2036477234, 1797285236] K i).map (.int .u32) ++ [.int .u32 (wd K (4 * i))]) := by
        show _ = _
        exact List.map_append
      clear ho5 hs hX
      generalize wd K (4 * i) = x at *
      have u1 := hs5.quiet (Only.alloc w5 (.cells #[.int .u32 x] 26) [])
      have hs6 := src_one w5 (.int .u32 x) 26
      have hown : (w5.alloc (.cells #[.int .u32 x] 26)).ownsRow 0 26 1 (.slice av (4 + i) cv) (4 + i) ((sR [1634760805, 857760878, 2036477234, 1797285236] K i).map (.int .u32)) := u1.head
      go_wp2_with (at_builtin; refine wpList_append_src rfl _ _ 43 rfl 26 i1 (.int .u32 0) 1 4 Try.underlying43 hi1 hy0 hy1 hy2 rfl (by decide) (.slice av (4 + i) cv) (4 + i) ((sR [1634760805, 857760878, 2036477234, 1797285236] K i).map (.int .u32)) rfl hown _ 1 _ rfl hs6 (by simp [Value.oneCell']) (by unfold maxLen; omega) (by omega) ?_; intro v7 w7 g1 g2 g3; obtain ⟨a7, c7, rfl⟩ := own_slice g1)
      have u2 := u1.app g1 g2 g3
      clear g1 g2 g3 u1 hs6 hown
      go_wp2_with fail
      exact ⟨⟨i + 1, a7, c7, by rw [show 4 + (i + 1) = 4 + i + 1 by omega], by simp, by omega, by rw [hF.out]; exact u2⟩, by simp [intOf]; omega⟩
    · obtain rfl : i = 8 := by omega
      rw [show ((8 : Nat) : Int) = 8 from rfl]
      have hs5 : Sep w wr [row 26 1 (.slice av 12 cv) 12 ((sR [1634760805, 857760878, 2036477234, 1797285236] K 8).map (.int .u32)), row 5 1 (.slice (some ⟨gN, 0, none⟩) 12 cN) 12 (N.map (.int .u8)), row 5 1 (.slice (some ⟨gK, 0, none⟩) 32 cK) 32 (K.map (.int .u8))] := hs
      obtain ⟨L0, hL0⟩ : ∃ l, l = sR [1634760805, 857760878, 2036477234, 1797285236] K 8 := ⟨_, rfl⟩
      rw [← hL0] at hs5
      have HL0 := Lib.hid hL0
      clear hL0 hs
      rw [show 4 + 8 = 12 from rfl]
      have u1 := hs5.quiet (Only.alloc wr (.cells #[.int .u32 n] 26) [])
      have hs6 := src_one wr (.int .u32 n) 26
      have hown : (wr.alloc (.cells #[.int .u32 n] 26)).ownsRow 0 26 1 (.slice av 12 cv) (12) ((L0).map (.int .u32)) := u1.head
      go_wp2_with (at_builtin; refine wpList_append_src rfl _ _ 43 rfl 26 i1 (.int .u32 0) 1 4 Try.underlying43 hi1 hy0 hy1 hy2 rfl (by decide) (.slice av 12 cv) (12) ((L0).map (.int .u32)) rfl hown _ 1 _ rfl hs6 (by simp [Value.oneCell']) (by unfold maxLen; omega) (by omega) ?_; intro v7 w7 g1 g2 g3; obtain ⟨a7, c7, rfl⟩ := own_slice g1)
      have u2 := u1.app g1 g2 g3
      clear g1 g2 g3 u1 hs6 hown
      have s3 : Sep w w7 [row 26 1 (.slice a7 (13 + 0) c7) (13 + 0) ((sR (L0 ++ [n]) N 0).map (.int .u32)), row 5 1 (.slice (some ⟨gN, 0, none⟩) 12 cN) 12 (N.map (.int .u8)), row 5 1 (.slice (some ⟨gK, 0, none⟩) 32 cK) 32 (K.map (.int .u8))] := by
        have e : (sR (L0 ++ [n]) N 0).map (Value.int .u32) = L0.map (.int .u32) ++ [.int .u32 n] := List.map_append
        rw [e]; exact u2
      clear u2
      go_wp2_with fail
      go_loopw [7, 9] (fun u7 u9 wr => ∃ (i : Nat) (av : Option Addr) (cv : Nat), u7 = .slice av (13 + i) cv ∧ u9 = .int .i64 i ∧ i ≤ 3 ∧ Sep w wr [row 26 1 (.slice av (13 + i) cv) (13 + i) ((sR (L0 ++ [n]) N i).map (.int .u32)), row 5 1 (.slice (some ⟨gN, 0, none⟩) 12 cN) 12 (N.map (.int .u8)), row 5 1 (.slice (some ⟨gK, 0, none⟩) 32 cK) 32 (K.map (.int .u8))]) (fun _ u9 _ => 3 - (intOf u9).toNat)
      case atStart => exact ⟨0, a7, c7, rfl, rfl, by omega, s3⟩
      case round =>
        clear s3
        obtain ⟨i, av, cv, rfl, rfl, hi8, hs⟩ := hrel
        by_cases hil : i < 3
        · have j1 : IntKind.i64.wrap (4 * (i : Int)) = 4 * (i : Int) := IntWalk.i64_in _ (by omega)
          have hX := (show Src wr (.slice (some ⟨gN, 0, none⟩) 12 cN) 1 N.length (N.map (Value.int .u8)) by rw [hl2.out]; exact own_src hs.tail.head)
          have hX := Lib.hid hX
          go_wp2_with fail
          refine (rword_any _ N (4 * i) wr hX.out hb2.out (by rw [hl2.out]; omega) (by omega)).mono ?_
          rintro e w5 ⟨rfl, ho5⟩
          have hs5 := hs.quiet ho5
          have hF : Hid ((sR (L0 ++ [n]) N (i + 1)).map (Value.int .u32) = (sR (L0 ++ [n]) N i).map (.int .u32) ++ [.int .u32 (wd N (4 * i))]) := by
            show _ = _
            exact List.map_append
          clear ho5 hs hX
          generalize wd N (4 * i) = x at *
          have u1 := hs5.quiet (Only.alloc w5 (.cells #[.int .u32 x] 26) [])
          have hs6 := src_one w5 (.int .u32 x) 26
          have hown : (w5.alloc (.cells #[.int .u32 x] 26)).ownsRow 0 26 1 (.slice av (13 + i) cv) (13 + i) ((sR (L0 ++ [n]) N i).map (.int .u32)) := u1.head
          go_wp2_with (at_builtin; refine wpList_append_src rfl _ _ 43 rfl 26 i1 (.int .u32 0) 1 4 Try.underlying43 hi1 hy0 hy1 hy2 rfl (by decide) (.slice av (13 + i) cv) (13 + i) ((sR (L0 ++ [n]) N i).map (.int .u32)) rfl hown _ 1 _ rfl hs6 (by simp [Value.oneCell']) (by unfold maxLen; omega) (by omega) ?_; intro v7 w7 g1 g2 g3; obtain ⟨a7, c7, rfl⟩ := own_slice g1)
          have u2 := u1.app g1 g2 g3
          clear g1 g2 g3 u1 hs6 hown
          go_wp2_with fail
          exact ⟨⟨i + 1, a7, c7, by rw [show 13 + (i + 1) = 13 + i + 1 by omega], by simp, by omega, by rw [hF.out]; exact u2⟩, by simp [intOf]; omega⟩
        · obtain rfl : i = 3 := by omega
          rw [show ((3 : Nat) : Int) = 3 from rfl]
          have s4 : Sep w wr [row 26 1 (.slice av 16 cv) 16 ((sR (L0 ++ [n]) N 3).map (.int .u32))] := Sep.one hs
          have hsL : Hid (sR (L0 ++ [n]) N 3 = sL (fitL ks 32) n (fitL ns 12)) := by
            show _ = _
            rw [HL0.out, sR_sL, HK.out, HN.out]
          obtain ⟨L, hL⟩ : ∃ l, l = sR (L0 ++ [n]) N 3 := ⟨_, rfl⟩
          rw [← hL] at s4 hsL
          have hw3 : Hid (W16 L) := by
            show W16 L
            rw [hsL.out]
            exact sC_w ((sA_w (fitL_byt hkb 32) 8 (by rw [fitL_len]; decide)).set 12 hn32) (fitL_byt hnb 12) 3 (by rw [fitL_len]; decide)
          clear hs hL HL0 hb2 hl2 hb1 hl1 HK HN
          rw [show 13 + 3 = 16 from rfl]
          obtain ⟨gS, rfl, _⟩ := own_some (show wr.ownsRow 0 26 1 (.slice av 16 cv) 16 (L.map (.int .u32)) from s4.head) (by decide)
          have hsrc : Src wr (.slice (some ⟨gS, 0, none⟩) 16 cv) 1 16 (L.map (.int .u32)) := own_src s4.head
          have hcS : 16 ≤ cv := by
            obtain ⟨_, _, he, k1, _⟩ := hsrc
            simp only [Value.slice.injEq] at he
            omega
          have s5 := Sep.rown s4 26 1
          have hown : wr.ownsRow 0 26 1 (.slice none 0 0) 0 [] := s5.head
          go_wp2_with (at_builtin; refine wpList_append_src rfl _ _ 43 rfl 26 i1 (.int .u32 0) 1 4 Try.underlying43 hi1 hy0 hy1 hy2 rfl (by decide) (.slice none 0 0) 0 [] rfl hown _ 16 _ rfl hsrc (one_ints _ _) (by unfold maxLen; omega) (by omega) ?_; intro v7 w7 g1 g2 g3; obtain ⟨a7, c7, rfl⟩ := own_slice g1)
          have s6 : Sep w w7 [row 26 1 (.slice a7 16 c7) 16 (L.map (.int .u32)), row 26 1 (.slice (some ⟨gS, 0, none⟩) 16 cv) 16 (L.map (.int .u32))] := s5.app g1 g2 g3
          obtain ⟨gW, rfl, _⟩ := own_some (show w7.ownsRow 0 26 1 (.slice a7 16 c7) 16 (L.map (.int .u32)) from s6.head) (by decide)
          have hcW : 16 ≤ c7 := by
            obtain ⟨_, _, he, k1, _⟩ := own_src (show w7.ownsRow 0 26 1 (.slice (some ⟨gW, 0, none⟩) 16 c7) 16 (L.map (.int .u32)) from s6.head)
            simp only [Value.slice.injEq] at he
            omega
          have s7 : Sep w w7 [wds gW L, wds gS L] := (wds_of ((wds_of s6 hw3.out).up 1 (by simp)) hw3.out).up 1 (by simp)
          clear s4 s5 s6 g1 g2 g3 hown hsrc
          go_wp2_with fail
          go_loopw [11] (fun u11 wr => ∃ k : Nat, u11 = .int .i64 k ∧ k ≤ 10 ∧ Sep w wr [wds gW (rep L k), wds gS L]) (fun u11 _ => 10 - (intOf u11).toNat)
          case atStart => exact ⟨0, rfl, by omega, s7⟩
          case round =>
            clear s7
            obtain ⟨k, rfl, hk, hs⟩ := hrel
            by_cases hk10 : k < 10
            · have d10 : decide ((k : Int) < 10) = true := by simp; omega
              obtain ⟨R, hRe⟩ : ∃ l, l = rep L k := ⟨_, rfl⟩
              rw [← hRe] at hs
              have HR := Lib.hid hRe
              clear hRe
              have q0 := hs
              clear hs
              go_wp2_with fail
              refine (quarter_any gW c7 R 0 4 8 12 wr q0.head hcW (by decide) (by decide) (by decide) (by decide)).mono ?_
              rintro e x1 ⟨rfl, hq, ho⟩
              have q1 := Sep.quarter q0 hq ho
              clear hq ho q0
              obtain ⟨R1, hRe⟩ : ∃ l, l = (qr R 0 4 8 12) := ⟨_, rfl⟩
              rw [← hRe] at q1
              have H1 := Lib.hid hRe
              clear hRe
              go_wp2_with fail
              refine (quarter_any gW c7 R1 1 5 9 13 x1 q1.head hcW (by decide) (by decide) (by decide) (by decide)).mono ?_
              rintro e x2 ⟨rfl, hq, ho⟩
              have q2 := Sep.quarter q1 hq ho
              clear hq ho q1
              obtain ⟨R2, hRe⟩ : ∃ l, l = (qr R1 1 5 9 13) := ⟨_, rfl⟩
              rw [← hRe] at q2
              have H2 := Lib.hid hRe
              clear hRe
              go_wp2_with fail
              refine (quarter_any gW c7 R2 2 6 10 14 x2 q2.head hcW (by decide) (by decide) (by decide) (by decide)).mono ?_
              rintro e x3 ⟨rfl, hq, ho⟩
              have q3 := Sep.quarter q2 hq ho
              clear hq ho q2
              obtain ⟨R3, hRe⟩ : ∃ l, l = (qr R2 2 6 10 14) := ⟨_, rfl⟩
              rw [← hRe] at q3
              have H3 := Lib.hid hRe
              clear hRe
              go_wp2_with fail
              refine (quarter_any gW c7 R3 3 7 11 15 x3 q3.head hcW (by decide) (by decide) (by decide) (by decide)).mono ?_
              rintro e x4 ⟨rfl, hq, ho⟩
              have q4 := Sep.quarter q3 hq ho
              clear hq ho q3
              obtain ⟨R4, hRe⟩ : ∃ l, l = (qr R3 3 7 11 15) := ⟨_, rfl⟩
              rw [← hRe] at q4
              have H4 := Lib.hid hRe
              clear hRe
              go_wp2_with fail
              refine (quarter_any gW c7 R4 0 5 10 15 x4 q4.head hcW (by decide) (by decide) (by decide) (by decide)).mono ?_
              rintro e x5 ⟨rfl, hq, ho⟩
              have q5 := Sep.quarter q4 hq ho
              clear hq ho q4
              obtain ⟨R5, hRe⟩ : ∃ l, l = (qr R4 0 5 10 15) := ⟨_, rfl⟩
              rw [← hRe] at q5
              have H5 := Lib.hid hRe
              clear hRe
              go_wp2_with fail
              refine (quarter_any gW c7 R5 1 6 11 12 x5 q5.head hcW (by decide) (by decide) (by decide) (by decide)).mono ?_
              rintro e x6 ⟨rfl, hq, ho⟩
              have q6 := Sep.quarter q5 hq ho
              clear hq ho q5
              obtain ⟨R6, hRe⟩ : ∃ l, l = (qr R5 1 6 11 12) := ⟨_, rfl⟩
              rw [← hRe] at q6
              have H6 := Lib.hid hRe
              clear hRe
              go_wp2_with fail
              refine (quarter_any gW c7 R6 2 7 8 13 x6 q6.head hcW (by decide) (by decide) (by decide) (by decide)).mono ?_
              rintro e x7 ⟨rfl, hq, ho⟩
              have q7 := Sep.quarter q6 hq ho
              clear hq ho q6
              obtain ⟨R7, hRe⟩ : ∃ l, l = (qr R6 2 7 8 13) := ⟨_, rfl⟩
              rw [← hRe] at q7
              have H7 := Lib.hid hRe
              clear hRe
              go_wp2_with fail
              refine (quarter_any gW c7 R7 3 4 9 14 x7 q7.head hcW (by decide) (by decide) (by decide) (by decide)).mono ?_
              rintro e x8 ⟨rfl, hq, ho⟩
              have q8 := Sep.quarter q7 hq ho
              clear hq ho q7
              obtain ⟨R8, hRe⟩ : ∃ l, l = (qr R7 3 4 9 14) := ⟨_, rfl⟩
              rw [← hRe] at q8
              have H8 := Lib.hid hRe
              clear hRe
              have hE : Hid (R8 = rep L (k + 1)) := by
                show _ = _
                rw [H8.out, H7.out, H6.out, H5.out, H4.out, H3.out, H2.out, H1.out, rnd_eq, HR.out]; rfl
              go_wp2_with fail
              exact ⟨⟨k + 1, by simp, by omega, by rw [← hE.out]; exact q8⟩, by simp [intOf]; omega⟩
            · obtain rfl : k = 10 := by omega
              rw [show ((10 : Nat) : Int) = 10 from rfl]
              obtain ⟨R, hRe⟩ : ∃ l, l = rep L 10 := ⟨_, rfl⟩
              rw [← hRe] at hs
              have HR := Lib.hid hRe
              clear hRe
              have s8 := (Sep.rown hs 5 1)
              clear hs
              go_wp2_with fail
              go_loopw [12, 13] (fun u12 u13 wr => ∃ (i : Nat) (av : Option Addr) (cv : Nat), u12 = .slice av (4 * i) cv ∧ u13 = .int .i64 i ∧ i ≤ 16 ∧ Sep w wr [row 5 1 (.slice av (4 * i) cv) (4 * i) ((outB R L i).map (.int .u8)), wds gW R, wds gS L]) (fun _ u13 _ => 16 - (intOf u13).toNat)
              case atStart => exact ⟨0, none, 0, rfl, rfl, by omega, s8⟩
              case round =>
                clear s8
                obtain ⟨i, av, cv, rfl, rfl, hi6, hs⟩ := hrel
                by_cases hi16 : i < 16
                · have d16 : decide ((i : Int) < 16) = true := by simp; omega
                  go_upto_region 30 with fail
                  have hs := hs.quiet (Only.drew wr [])
                  have hAW : Wds gW R wr.drew := hs.tail.head
                  have hAS : Wds gS L wr.drew := hs.tail.tail.head
                  have c1 := hAW.cell i hi16
                  have c2 := hAS.cell i hi16
                  have b1 := hAW.bd i hi16
                  have b2 := hAS.bd i hi16
                  have j0 : (0 : Int) ≤ (i : Int) := by omega
                  have j1 : (i : Int) < 16 := by omega
                  have hE : Hid (outB R L (i + 1) = outB R L i ++ dg 256 ((gt R i + gt L i) % 4294967296) 4) := rfl
                  clear hAW hAS
                  generalize gt R i = x at *
                  generalize gt L i = y at *
                  obtain ⟨b1, b3⟩ := b1
                  obtain ⟨b2, b4⟩ := b2
                  obtain ⟨z, hz⟩ : ∃ z, IntKind.u32.wrap (x + y) = z := ⟨_, rfl⟩
                  have hze : (x + y) % 4294967296 = z := by rw [← hz]; simp [IntKind.wrap, IntKind.bits, IntKind.signed]
                  rw [hze] at hE
                  have z0 : 0 ≤ z := by omega
                  have z1 : z < 4294967296 := by omega
                  clear hze
                  go_still_tail 9, (by kernel_rfl)
                  change wpList _ _ _ _ _ wr.drew
                  generalize wr.drew = w9 at *
                  clear b1 b2 b3 b4 c1 c2 hz
                  have s9 : Sep w w9 [row 5 1 (.slice av (4 * i + 0) cv) (4 * i + 0) ((outB R L i ++ (dg 256 z 4).take 0).map (.int .u8)), wds gW R, wds gS L] := by
                    rw [List.take_zero, List.append_nil]; exact hs
                  clear hs
                  go_wp2_with fail
                  go_loopw [12, 15] (fun u12 u15 wr => ∃ (j : Nat) (av : Option Addr) (cv : Nat), u12 = .slice av (4 * i + j) cv ∧ u15 = .int .i64 j ∧ j ≤ 4 ∧ Sep w wr [row 5 1 (.slice av (4 * i + j) cv) (4 * i + j) ((outB R L i ++ (dg 256 z 4).take j).map (.int .u8)), wds gW R, wds gS L]) (fun _ u15 _ => 4 - (intOf u15).toNat)
                  case atStart => exact ⟨0, av, cv, rfl, rfl, by omega, s9⟩
                  case round =>
                    clear s9
                    obtain ⟨j, av, cv, rfl, rfl, hj, hs5⟩ := hrel
                    by_cases hj4 : j < 4
                    · have j1 : IntKind.i64.wrap (8 * (j : Int)) = 8 * (j : Int) := IntWalk.i64_in _ (by omega)
                      have j2 : (8 * (j : Int)).toNat = 8 * j := by omega
                      have j3 : 0 ≤ 8 * (j : Int) := by omega
                      have hF : Hid ((outB R L i ++ (dg 256 z 4).take (j + 1)).map (Value.int .u8) = (outB R L i ++ (dg 256 z 4).take j).map (.int .u8) ++ [.int .u8 (z / 2 ^ (8 * j) % 256)]) := by
                        show _ = _
                        rw [take_succ_gt (by rw [dg_len]; exact hj4), ← List.append_assoc, List.map_append]
                        congr 2
                        rw [dg_at _ _ hj4, pow8]; rfl
                      have u1 := hs5.quiet (Only.alloc wr (.cells #[.int .u8 (IntKind.u8.wrap (z / 2 ^ (8 * j)))] 5) [])
                      have hs6 := src_one wr (.int .u8 (IntKind.u8.wrap (z / 2 ^ (8 * j)))) 5
                      have hown : (wr.alloc (.cells #[.int .u8 (IntKind.u8.wrap (z / 2 ^ (8 * j)))] 5)).ownsRow 0 5 1 (.slice av (4 * i + j) cv) (4 * i + j) ((outB R L i ++ (dg 256 z 4).take j).map (.int .u8)) := u1.head
                      go_wp2_with (at_builtin; refine wpList_append_src rfl _ _ 22 rfl 5 i0 (.int .u8 0) 1 1 Try.underlying22 hi hz0 hz1 hz2 rfl (by decide) (.slice av (4 * i + j) cv) (4 * i + j) ((outB R L i ++ (dg 256 z 4).take j).map (.int .u8)) rfl hown _ 1 _ rfl hs6 (by simp [Value.oneCell']) (by unfold maxLen; omega) (by omega) ?_; intro v7 w7 g1 g2 g3; obtain ⟨a7, c7, rfl⟩ := own_slice g1)
                      have u2 := u1.app g1 g2 g3
                      clear g1 g2 g3 u1 hs6 hown
                      have hwr : Hid (IntKind.u8.wrap (z / 2 ^ (8 * j)) = z / 2 ^ (8 * j) % 256) := by
                        show _ = _
                        simp [IntKind.wrap, IntKind.bits, IntKind.signed]
                      rw [hwr.out, ← hF.out] at u2
                      go_wp2_with fail
                      exact ⟨⟨j + 1, a7, c7, rfl, by simp, by omega, u2⟩, by simp [intOf]; omega⟩
                    · obtain rfl : j = 4 := by omega
                      rw [show ((4 : Nat) : Int) = 4 from rfl]
                      have u2 : Sep w wr [row 5 1 (.slice av (4 * i + 4) cv) (4 * i + 4) ((outB R L (i + 1)).map (.int .u8)), wds gW R, wds gS L] := by
                        have e : outB R L (i + 1) = outB R L i ++ (dg 256 z 4).take 4 := by rw [List.take_of_length_le (by rw [dg_len]; exact Nat.le_refl _)]; exact hE.out
                        rw [e]; exact hs5
                      clear hs5
                      go_wp2_with fail
                      exact ⟨⟨i + 1, av, cv, by rw [show 4 * (i + 1) = 4 * i + 4 by omega], by simp, by omega, u2⟩, by simp [intOf]; omega⟩
                · obtain rfl : i = 16 := by omega
                  have hown : wr.ownsRow 0 5 1 (.slice av 64 cv) 64 ((outB R L 16).map (.int .u8)) := hs.head
                  have hnew := hs.new _ (List.mem_cons_self ..)
                  have hB : Hid (blockL ks n ns = outB R L 16) := by
                    show _ = _
                    rw [HR.out, hsL.out]; rfl
                  have ho := hs.only
                  clear hs
                  go_wp2_with fail
                  go_ret
                  rw [hB.out]
                  exact ⟨_, rfl, by rw [outB_len]; exact hown, fun k hk => .inr (hnew k (by simpa [row] using hk)), ho⟩
end Go.Proofs.Ytemmdhfmdgpfmaa
