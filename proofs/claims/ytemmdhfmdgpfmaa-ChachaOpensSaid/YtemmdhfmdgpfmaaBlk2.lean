/- Layer 5 (chacha): the contract of Block. -/
import Derived.Test.YtemmdhfmdgpfmaaBlk1
import Derived.Deep.Cut
import Derived.Deep.CutBlock
import Derived.Deep.MidRow
import Derived.StillTailTactics
namespace Go.Proofs.Ytemmdhfmdgpfmaa
open Go.RowKit Go.Pw
set_option linter.unusedVariables false

/-- The words that a block begins with. -/
def sA (K : List Int) : Nat → List Int
  | 0 => [1634760805, 857760878, 2036477234, 1797285236, 0, 0, 0, 0, 0, 0, 0, 0, 0, 0, 0, 0]
  | i + 1 => (sA K i).set (4 + i) (wd K (4 * i))
def sC (l N : List Int) : Nat → List Int
  | 0 => l
  | i + 1 => (sC l N i).set (13 + i) (wd N (4 * i))
def sL (K : List Int) (n : Int) (N : List Int) : List Int := sC ((sA K 8).set 12 n) N 3
def cA (l : List Int) : Nat → List Int
  | 0 => l
  | i + 1 => qr (cA l i) i (4 + i) (8 + i) (12 + i)
def cB (l : List Int) : Nat → List Int
  | 0 => l
  | i + 1 => qr (cB l i) i (4 + (i + 1) % 4) (8 + (i + 2) % 4) (12 + (i + 3) % 4)
def rep (l : List Int) : Nat → List Int
  | 0 => l
  | k + 1 => cB (cA (rep l k) 4) 4
def outB (w s : List Int) : Nat → List Int
  | 0 => []
  | i + 1 => outB w s i ++ dg 256 ((gtI w i + gtI s i) % 4294967296) 4
def blockL (ks : List Int) (n : Int) (ns : List Int) : List Int := outB (rep (sL (fitL ks 32) n (fitL ns 12)) 10) (sL (fitL ks 32) n (fitL ns 12)) 16
def W16 (l : List Int) : Prop := l.length = 16 ∧ ∀ x ∈ l, W32 x
theorem W16.set {l : List Int} (h : W16 l) (i : Nat) {x : Int} (hx : W32 x) : W16 (l.set i x) := by
  refine ⟨by simpa using h.1, fun y hy => ?_⟩
  rcases List.mem_or_eq_of_mem_set hy with hy | hy
  · exact h.2 y hy
  · rw [hy]; exact hx
theorem sA_w {K : List Int} (hK : ∀ x ∈ K, 0 ≤ x ∧ x < 256) : ∀ i, 4 * i ≤ K.length → W16 (sA K i)
  | 0, _ => ⟨rfl, by simp [sA, W32]⟩
  | i + 1, h => (sA_w hK i (by omega)).set _ (wd_bd hK (by omega))
theorem sC_w {l N : List Int} (hl : W16 l) (hN : ∀ x ∈ N, 0 ≤ x ∧ x < 256) : ∀ i, 4 * i ≤ N.length → W16 (sC l N i)
  | 0, _ => hl
  | i + 1, h => (sC_w hl hN i (by omega)).set _ (wd_bd hN (by omega))
theorem wd_drop (l : List Int) (k : Nat) : wd (l.drop k) 0 = wd l k := by
  have e : ∀ j, gtI (l.drop k) j = gtI l (k + j) := fun j => by simp [gtI, List.getD_eq_getElem?_getD, List.getElem?_drop]
  simp only [wd, e, Nat.zero_add, Nat.add_zero]
theorem outB_len (w s : List Int) (i : Nat) : (outB w s i).length = 4 * i := by
  induction i with
  | zero => rfl
  | succ i ih => simp [outB, ih, dg_len]; omega
theorem outB_byt (w s : List Int) (i : Nat) : ∀ x ∈ outB w s i, 0 ≤ x ∧ x < 256 := by
  induction i with
  | zero => simp [outB]
  | succ i ih =>
    intro x hx
    rcases List.mem_append.1 hx with hx | hx
    · exact ih x hx
    · exact dg_bd (by decide) _ _ x hx
theorem block_len (ks : List Int) (n : Int) (ns : List Int) : (blockL ks n ns).length = 64 := outB_len _ _ 16
theorem block_byt (ks : List Int) (n : Int) (ns : List Int) : ∀ x ∈ blockL ks n ns, 0 ≤ x ∧ x < 256 := outB_byt _ _ 16

theorem Sep.as {w0 w : World} {a b : Res} {rs : List Res} (h : Sep w0 w (a :: rs)) (e : a = b) : Sep w0 w (b :: rs) := e ▸ h
theorem list16 : ∀ (l : List Int), l.length = 16 → l.map (Value.int .u32) = [.int .u32 (gtI l 0), .int .u32 (gtI l 1), .int .u32 (gtI l 2), .int .u32 (gtI l 3), .int .u32 (gtI l 4), .int .u32 (gtI l 5), .int .u32 (gtI l 6), .int .u32 (gtI l 7), .int .u32 (gtI l 8), .int .u32 (gtI l 9), .int .u32 (gtI l 10), .int .u32 (gtI l 11), .int .u32 (gtI l 12), .int .u32 (gtI l 13), .int .u32 (gtI l 14), .int .u32 (gtI l 15)]
  | [a0, a1, a2, a3, a4, a5, a6, a7, a8, a9, a10, a11, a12, a13, a14, a15], _ => rfl
  | _ :: _ :: _ :: _ :: _ :: _ :: _ :: _ :: _ :: _ :: _ :: _ :: _ :: _ :: _ :: _ :: _ :: _, h => by simp at h
  | [], h => by simp at h
  | [_], h => by simp at h
  | [_, _], h => by simp at h
  | [_, _, _], h => by simp at h
  | [_, _, _, _], h => by simp at h
  | [_, _, _, _, _], h => by simp at h
  | [_, _, _, _, _, _], h => by simp at h
  | [_, _, _, _, _, _, _], h => by simp at h
  | [_, _, _, _, _, _, _, _], h => by simp at h
  | [_, _, _, _, _, _, _, _, _], h => by simp at h
  | [_, _, _, _, _, _, _, _, _, _], h => by simp at h
  | [_, _, _, _, _, _, _, _, _, _, _], h => by simp at h
  | [_, _, _, _, _, _, _, _, _, _, _, _], h => by simp at h
  | [_, _, _, _, _, _, _, _, _, _, _, _, _], h => by simp at h
  | [_, _, _, _, _, _, _, _, _, _, _, _, _, _], h => by simp at h
  | [_, _, _, _, _, _, _, _, _, _, _, _, _, _, _], h => by simp at h

set_option maxRecDepth 100000 in
set_option maxHeartbeats 3200000 in
theorem block_any (key nonce : Value) (ks ns : List Int) (n : Int) (w : World) (hk : Src w key 1 ks.length (ks.map (Value.int .u8))) (hkb : ∀ x ∈ ks, 0 ≤ x ∧ x < 256)
    (hn : Src w nonce 1 ns.length (ns.map (Value.int .u8))) (hnb : ∀ x ∈ ns, 0 ≤ x ∧ x < 256) (hn32 : W32 n) :
    Calls Try.prog 11 #[key, .int .u32 n, nonce] w (Fresh (blockL ks n ns) w) := by
  obtain ⟨i0, hi, hz0, hz1, hz2⟩ := info_parts Try.info5
  go_enter Try.func11, Try.ntmps11
  go_wp2_with fail
  refine (fit_any key ks 32 w hk (by decide)).mono ?_
  rintro e w1 hf
  obtain ⟨gK, cK, rfl, kc1, kc2, hsK⟩ := hf.row 32 (fitL_len _ _) (by decide)
  have s1 := hsK (Sep.nil w)
  have hb1 := Lib.hid (fitL_byt hkb 32)
  have hl1 := Lib.hid (fitL_len ks 32)
  obtain ⟨K, hKe⟩ : ∃ K, K = fitL ks 32 := ⟨_, rfl⟩
  rw [← hKe] at s1 hb1 hl1
  have HK := Lib.hid hKe
  clear hf hsK hKe hk
  go_wp2_with fail
  refine (fit_any nonce ns 12 w1 (s1.src hn) (by decide)).mono ?_
  rintro e w2 hf
  obtain ⟨gN, cN, rfl, nc1, nc2, hsN⟩ := hf.row 12 (fitL_len _ _) (by decide)
  have s2 := hsN s1
  have hb2 := Lib.hid (fitL_byt hnb 12)
  have hl2 := Lib.hid (fitL_len ns 12)
  obtain ⟨N, hNe⟩ : ∃ N, N = fitL ns 12 := ⟨_, rfl⟩
  rw [← hNe] at s2 hb2 hl2
  have HN := Lib.hid hNe
  clear hf hsN hNe hn s1
  go_wp2_with fail
  have s3 : Sep w _ [blk w2.heap.size ((sA K 0).map (.int .u32)) 48, row 5 1 (.slice (some ⟨gN, 0, none⟩) 12 cN) 12 (N.map (.int .u8)), row 5 1 (.slice (some ⟨gK, 0, none⟩) 32 cK) 32 (K.map (.int .u8))] := s2.box [.int .u32 1634760805, .int .u32 857760878, .int .u32 2036477234, .int .u32 1797285236, .int .u32 0, .int .u32 0, .int .u32 0, .int .u32 0, .int .u32 0, .int .u32 0, .int .u32 0, .int .u32 0, .int .u32 0, .int .u32 0, .int .u32 0, .int .u32 0] 48
  generalize hS : w2.heap.size = S at *
  clear hS s2
  go_loopw [21] (fun u21 wr => ∃ i : Nat, u21 = .int .i64 i ∧ i ≤ 8 ∧ Sep w wr [blk S ((sA K i).map (.int .u32)) 48, row 5 1 (.slice (some ⟨gN, 0, none⟩) 12 cN) 12 (N.map (.int .u8)), row 5 1 (.slice (some ⟨gK, 0, none⟩) 32 cK) 32 (K.map (.int .u8))]) (fun u21 _ => 8 - (intOf u21).toNat)
  case atStart => exact ⟨0, rfl, by omega, s3⟩
  case round =>
    clear s3
    obtain ⟨i, rfl, hi8, hs⟩ := hrel
    by_cases hil : i < 8
    · obtain ⟨ao', c', hsl1, hsl2⟩ := slice_ex (some ⟨gK, 0, none⟩) 32 cK (4 * i) (32 - 4 * i) (by omega)
      rw [show ((4 * i : Nat) : Int) = 4 * (i : Int) by omega] at hsl1
      have hX : Src wr (.slice ao' (32 - 4 * i) c') 1 (K.drop (4 * i)).length ((K.drop (4 * i)).map (Value.int .u8)) := by
        rw [List.length_drop, hl1.out, List.map_drop]
        exact hsl2 _ _ (own_src hs.tail.tail.head)
      have hwl : Hid (4 ≤ (K.drop (4 * i)).length) := by show 4 ≤ _; rw [List.length_drop, hl1.out]; omega
      have hX := Lib.hid hX
      clear hsl2
      have j1 : IntKind.i64.wrap (4 * (i : Int)) = 4 * (i : Int) := IntWalk.i64_in _ (by omega)
      have j2 : IntKind.i64.wrap (4 + (i : Int)) = 4 + (i : Int) := IntWalk.i64_in _ (by omega)
      have j3 : (0 : Int) ≤ 4 + (i : Int) := by omega
      have j4 : 4 + (i : Int) < 16 := by omega
      have j5 : (4 + (i : Int)).toNat = 4 + i := by omega
      go_wp2_with fail
      refine (word_any _ (K.drop (4 * i)) wr hX.out (fun x hx => hb1.out x (List.mem_of_mem_drop hx)) hwl.out).mono ?_
      rintro e w5 ⟨rfl, ho5⟩
      rw [wd_drop]
      have hs5 := hs.quiet ho5
      have hS1 : w5.heap[S]? = some (.cells (((sA K i).map (.int .u32)).toArray) 48 (0, 0)) := hs5.head
      have hwl2 := sA_w hb1.out i (by rw [hl1.out]; omega)
      have cS : ∃ v, w5.cell? ⟨S, 4 + i, none⟩ = some v := by
        rw [cell_in hS1, List.getElem?_toArray, List.getElem?_map, List.getElem?_eq_getElem (by rw [hwl2.1]; omega)]
        exact ⟨_, rfl⟩
      obtain ⟨cv, cS⟩ := cS
      have fS := free_in hS1 (4 + i)
      have hset : Sep w (w5.setCell ⟨S, 4 + i, none⟩ (.int .u32 (wd K (4 * i)))) [blk S ((sA K (i + 1)).map (.int .u32)) 48, row 5 1 (.slice (some ⟨gN, 0, none⟩) 12 cN) 12 (N.map (.int .u8)), row 5 1 (.slice (some ⟨gK, 0, none⟩) 32 cK) 32 (K.map (.int .u8))] := by
        have := hs5.put (4 + i) (.int .u32 (wd K (4 * i)))
        rw [← List.map_set] at this
        exact this
      clear hs5 hS1 hwl2 ho5 hs hX hwl
      generalize wd K (4 * i) = x at *
      go_wp2_with fail
      exact ⟨⟨i + 1, by simp, by omega, hset⟩, by simp [intOf]; omega⟩
    · obtain rfl : i = 8 := by omega
      rw [show ((8 : Nat) : Int) = 8 from rfl]
      have hs : Sep w wr [blk S ((sA K 8).map (.int .u32)) 48, row 5 1 (.slice (some ⟨gN, 0, none⟩) 12 cN) 12 (N.map (.int .u8)), row 5 1 (.slice (some ⟨gK, 0, none⟩) 32 cK) 32 (K.map (.int .u8))] := hs
      have h8 := sA_w hb1.out 8 (by rw [hl1.out]; decide)
      have hS1 : wr.heap[S]? = some (.cells (((sA K 8).map (.int .u32)).toArray) 48 (0, 0)) := hs.head
      have cS : ∃ v, wr.cell? ⟨S, 12, none⟩ = some v := by
        rw [cell_in hS1, List.getElem?_toArray, List.getElem?_map, List.getElem?_eq_getElem (by rw [h8.1]; omega)]
        exact ⟨_, rfl⟩
      obtain ⟨cv, cS⟩ := cS
      have fS := free_in hS1 12
      have s4 : Sep w (wr.setCell ⟨S, 12, none⟩ (.int .u32 n)) [blk S ((sC ((sA K 8).set 12 n) N 0).map (.int .u32)) 48, row 5 1 (.slice (some ⟨gN, 0, none⟩) 12 cN) 12 (N.map (.int .u8)), row 5 1 (.slice (some ⟨gK, 0, none⟩) 32 cK) 32 (K.map (.int .u8))] := by
        have := hs.put 12 (.int .u32 n)
        rw [← List.map_set] at this
        exact this
      have hw0 := Lib.hid (h8.set 12 hn32)
      clear hS1 h8 hs
      go_wp2_with fail
      obtain ⟨L0, hL0⟩ : ∃ l, l = (sA K 8).set 12 n := ⟨_, rfl⟩
      rw [← hL0] at s4 hw0
      have HL0 := Lib.hid hL0
      clear hL0 cS fS
      go_loopw [35] (fun u35 wr => ∃ i : Nat, u35 = .int .i64 i ∧ i ≤ 3 ∧ Sep w wr [blk S ((sC L0 N i).map (.int .u32)) 48, row 5 1 (.slice (some ⟨gN, 0, none⟩) 12 cN) 12 (N.map (.int .u8)), row 5 1 (.slice (some ⟨gK, 0, none⟩) 32 cK) 32 (K.map (.int .u8))]) (fun u35 _ => 3 - (intOf u35).toNat)
      case atStart => exact ⟨0, rfl, by omega, s4⟩
      case round =>
        clear s4
        obtain ⟨i, rfl, hi8, hs⟩ := hrel
        by_cases hil : i < 3
        · obtain ⟨ao', c', hsl1, hsl2⟩ := slice_ex (some ⟨gN, 0, none⟩) 12 cN (4 * i) (12 - 4 * i) (by omega)
          rw [show ((4 * i : Nat) : Int) = 4 * (i : Int) by omega] at hsl1
          have hX : Src wr (.slice ao' (12 - 4 * i) c') 1 (N.drop (4 * i)).length ((N.drop (4 * i)).map (Value.int .u8)) := by
            rw [List.length_drop, hl2.out, List.map_drop]
            exact hsl2 _ _ (own_src hs.tail.head)
          have hwl : Hid (4 ≤ (N.drop (4 * i)).length) := by show 4 ≤ _; rw [List.length_drop, hl2.out]; omega
          have hX := Lib.hid hX
          clear hsl2
          have j1 : IntKind.i64.wrap (4 * (i : Int)) = 4 * (i : Int) := IntWalk.i64_in _ (by omega)
          have j2 : IntKind.i64.wrap (13 + (i : Int)) = 13 + (i : Int) := IntWalk.i64_in _ (by omega)
          have j3 : (0 : Int) ≤ 13 + (i : Int) := by omega
          have j4 : 13 + (i : Int) < 16 := by omega
          have j5 : (13 + (i : Int)).toNat = 13 + i := by omega
          go_wp2_with fail
          refine (word_any _ (N.drop (4 * i)) wr hX.out (fun x hx => hb2.out x (List.mem_of_mem_drop hx)) hwl.out).mono ?_
          rintro e w5 ⟨rfl, ho5⟩
          rw [wd_drop]
          have hs5 := hs.quiet ho5
          have hS1 : w5.heap[S]? = some (.cells (((sC L0 N i).map (.int .u32)).toArray) 48 (0, 0)) := hs5.head
          have hwl2 := sC_w hw0.out hb2.out i (by rw [hl2.out]; omega)
          have cS : ∃ v, w5.cell? ⟨S, 13 + i, none⟩ = some v := by
            rw [cell_in hS1, List.getElem?_toArray, List.getElem?_map, List.getElem?_eq_getElem (by rw [hwl2.1]; omega)]
            exact ⟨_, rfl⟩
          obtain ⟨cv, cS⟩ := cS
          have fS := free_in hS1 (13 + i)
          have hset : Sep w (w5.setCell ⟨S, 13 + i, none⟩ (.int .u32 (wd N (4 * i)))) [blk S ((sC L0 N (i + 1)).map (.int .u32)) 48, row 5 1 (.slice (some ⟨gN, 0, none⟩) 12 cN) 12 (N.map (.int .u8)), row 5 1 (.slice (some ⟨gK, 0, none⟩) 32 cK) 32 (K.map (.int .u8))] := by
            have := hs5.put (13 + i) (.int .u32 (wd N (4 * i)))
            rw [← List.map_set] at this
            exact this
          clear hs5 hS1 hwl2 ho5 hs hX hwl
          generalize wd N (4 * i) = x at *
          go_wp2_with fail
          exact ⟨⟨i + 1, by simp, by omega, hset⟩, by simp [intOf]; omega⟩
        · obtain rfl : i = 3 := by omega
          rw [show ((3 : Nat) : Int) = 3 from rfl]
          have hs : Sep w wr [blk S ((sC L0 N 3).map (.int .u32)) 48, row 5 1 (.slice (some ⟨gN, 0, none⟩) 12 cN) 12 (N.map (.int .u8)), row 5 1 (.slice (some ⟨gK, 0, none⟩) 32 cK) 32 (K.map (.int .u8))] := hs
          have hw3 := Lib.hid (sC_w hw0.out hb2.out 3 (by rw [hl2.out]; decide))
          have hsL : Hid (sC L0 N 3 = sL (fitL ks 32) n (fitL ns 12)) := by
            show _ = _
            rw [HL0.out, HK.out, HN.out]; rfl
          have s5 : Sep w wr [blk S ((sC L0 N 3).map (.int .u32)) 48] := Sep.one hs
          obtain ⟨L, hL⟩ : ∃ l, l = sC L0 N 3 := ⟨_, rfl⟩
          rw [← hL] at s5 hw3 hsL
          clear hs hL hw0 HL0 hb2 hl2 hb1 hl1 HK HN
          have hA : Arr S 48 16 L wr := ⟨s5.head, hw3.out.1, hw3.out.2⟩
          have c0 := hA.cell 0 (by decide)
          have c1 := hA.cell 1 (by decide)
          have c2 := hA.cell 2 (by decide)
          have c3 := hA.cell 3 (by decide)
          have c4 := hA.cell 4 (by decide)
          have c5 := hA.cell 5 (by decide)
          have c6 := hA.cell 6 (by decide)
          have c7 := hA.cell 7 (by decide)
          have c8 := hA.cell 8 (by decide)
          have c9 := hA.cell 9 (by decide)
          have c10 := hA.cell 10 (by decide)
          have c11 := hA.cell 11 (by decide)
          have c12 := hA.cell 12 (by decide)
          have c13 := hA.cell 13 (by decide)
          have c14 := hA.cell 14 (by decide)
          have c15 := hA.cell 15 (by decide)
          have s6 : Sep w _ [blk wr.heap.size (L.map (.int .u32)) 48, blk S (L.map (.int .u32)) 48] := Sep.as (s5.box [.int .u32 (gtI L 0), .int .u32 (gtI L 1), .int .u32 (gtI L 2), .int .u32 (gtI L 3), .int .u32 (gtI L 4), .int .u32 (gtI L 5), .int .u32 (gtI L 6), .int .u32 (gtI L 7), .int .u32 (gtI L 8), .int .u32 (gtI L 9), .int .u32 (gtI L 10), .int .u32 (gtI L 11), .int .u32 (gtI L 12), .int .u32 (gtI L 13), .int .u32 (gtI L 14), .int .u32 (gtI L 15)] 48) (by rw [list16 L hw3.out.1])
          clear s5 hA
          have hR3 := hw3
          go_wp2_with fail
          generalize hW : wr.heap.size = W at *
          clear hW c0 c1 c2 c3 c4 c5 c6 c7 c8 c9 c10 c11 c12 c13 c14 c15
          go_loopw [48] (fun u48 wr => ∃ k : Nat, u48 = .int .i64 k ∧ k ≤ 10 ∧ W16 (rep L k) ∧ Sep w wr [blk W ((rep L k).map (.int .u32)) 48, blk S (L.map (.int .u32)) 48]) (fun u48 _ => 10 - (intOf u48).toNat)
          case atStart => exact ⟨0, rfl, by omega, hw3.out, s6⟩
          case round =>
            clear s6
            obtain ⟨k, rfl, hk, hR, hs⟩ := hrel
            by_cases hk10 : k < 10
            · have d10 : decide ((k : Int) < 10) = true := by simp; omega
              have hR := Lib.hid hR
              obtain ⟨R, hRe⟩ : ∃ l, l = rep L k := ⟨_, rfl⟩
              rw [← hRe] at hs hR
              have HR := Lib.hid hRe
              clear hRe
              go_wp2_with fail
              go_loopw [50] (fun u50 wr => ∃ i : Nat, u50 = .int .i64 i ∧ i ≤ 4 ∧ W16 (cA R i) ∧ Sep w wr [blk W ((cA R i).map (.int .u32)) 48, blk S (L.map (.int .u32)) 48]) (fun u50 _ => 4 - (intOf u50).toNat)
              case atStart => exact ⟨0, rfl, by omega, hR.out, hs⟩
              case round =>
                clear hs hR
                obtain ⟨i, rfl, hi, hR, hs⟩ := hrel
                by_cases hi4 : i < 4
                · have hR := Lib.hid hR
                  have j0 : (0 : Int) ≤ (i : Int) := by omega
                  have j4 : IntKind.i64.wrap (4 + (i : Int)) = 4 + (i : Int) := IntWalk.i64_in _ (by omega)
                  have j8 : IntKind.i64.wrap (8 + (i : Int)) = 8 + (i : Int) := IntWalk.i64_in _ (by omega)
                  have j12 : IntKind.i64.wrap (12 + (i : Int)) = 12 + (i : Int) := IntWalk.i64_in _ (by omega)
                  go_wp2_with fail
                  refine (turn_any W 48 (cA R i) i (4 + i) (8 + i) (12 + i) wr ⟨hs.head, hR.out.1, hR.out.2⟩ (by omega) (by omega) (by omega) (by omega)).mono ?_
                  rintro e w5 ⟨rfl, hA5, ho5⟩
                  have hs5 : Sep w w5 [blk W ((cA R (i + 1)).map (.int .u32)) 48, blk S (L.map (.int .u32)) 48] := hs.step (L := [W]) ho5 (fun k hk => .inl (by simpa [blk] using hk)) hA5.1 (fun k hk => .inl hk)
                  have hR5 : Hid (W16 (cA R (i + 1))) := ⟨hA5.2.1, hA5.2.2⟩
                  clear hA5 ho5 hs hR
                  go_wp2_with fail
                  exact ⟨⟨i + 1, by simp, by omega, hR5.out, hs5⟩, by simp [intOf]; omega⟩
                · obtain rfl : i = 4 := by omega
                  rw [show ((4 : Nat) : Int) = 4 from rfl]
                  have hs : Sep w wr [blk W ((cA R 4).map (.int .u32)) 48, blk S (L.map (.int .u32)) 48] := hs
                  obtain ⟨R2, hR2⟩ : ∃ l, l = cA R 4 := ⟨_, rfl⟩
                  rw [← hR2] at hs hR
                  have HR2 := Lib.hid hR2
                  have hR := Lib.hid hR
                  clear hR2
                  go_wp2_with fail
                  go_loopw [62] (fun u62 wr => ∃ i : Nat, u62 = .int .i64 i ∧ i ≤ 4 ∧ W16 (cB R2 i) ∧ Sep w wr [blk W ((cB R2 i).map (.int .u32)) 48, blk S (L.map (.int .u32)) 48]) (fun u62 _ => 4 - (intOf u62).toNat)
                  case atStart => exact ⟨0, rfl, by omega, hR.out, hs⟩
                  case round =>
                    clear hs hR
                    obtain ⟨i, rfl, hi, hR, hs⟩ := hrel
                    by_cases hi4 : i < 4
                    · have hR := Lib.hid hR
                      have j0 : (0 : Int) ≤ (i : Int) := by omega
                      have j4 : IntKind.i64.wrap ((i : Int) + 1) = (i : Int) + 1 := IntWalk.i64_in _ (by omega)
                      have k4 : ((i : Int) + 1).tmod 4 = ((i : Int) + 1) % 4 := Int.tmod_eq_emod_of_nonneg (by omega)
                      have l4 : IntKind.i64.wrap (4 + ((i : Int) + 1) % 4) = 4 + ((i : Int) + 1) % 4 := IntWalk.i64_in _ (by omega)
                      have j8 : IntKind.i64.wrap ((i : Int) + 2) = (i : Int) + 2 := IntWalk.i64_in _ (by omega)
                      have k8 : ((i : Int) + 2).tmod 4 = ((i : Int) + 2) % 4 := Int.tmod_eq_emod_of_nonneg (by omega)
                      have l8 : IntKind.i64.wrap (8 + ((i : Int) + 2) % 4) = 8 + ((i : Int) + 2) % 4 := IntWalk.i64_in _ (by omega)
                      have j12 : IntKind.i64.wrap ((i : Int) + 3) = (i : Int) + 3 := IntWalk.i64_in _ (by omega)
                      have k12 : ((i : Int) + 3).tmod 4 = ((i : Int) + 3) % 4 := Int.tmod_eq_emod_of_nonneg (by omega)
                      have l12 : IntKind.i64.wrap (12 + ((i : Int) + 3) % 4) = 12 + ((i : Int) + 3) % 4 := IntWalk.i64_in _ (by omega)
                      go_wp2_with fail
                      refine (turn_any W 48 (cB R2 i) i (4 + (i + 1) % 4) (8 + (i + 2) % 4) (12 + (i + 3) % 4) wr ⟨hs.head, hR.out.1, hR.out.2⟩ (by omega) (by omega) (by omega) (by omega)).mono ?_
                      rintro e w5 ⟨rfl, hA5, ho5⟩
                      have hs5 : Sep w w5 [blk W ((cB R2 (i + 1)).map (.int .u32)) 48, blk S (L.map (.int .u32)) 48] := hs.step (L := [W]) ho5 (fun k hk => .inl (by simpa [blk] using hk)) hA5.1 (fun k hk => .inl hk)
                      have hR5 : Hid (W16 (cB R2 (i + 1))) := ⟨hA5.2.1, hA5.2.2⟩
                      clear hA5 ho5 hs hR
                      go_wp2_with fail
                      exact ⟨⟨i + 1, by simp, by omega, hR5.out, hs5⟩, by simp [intOf]; omega⟩
                    · obtain rfl : i = 4 := by omega
                      rw [show ((4 : Nat) : Int) = 4 from rfl]
                      have hR := Lib.hid hR
                      have hE : Hid (cB R2 4 = rep L (k + 1)) := by
                        show _ = _
                        rw [HR2.out, HR.out]; rfl
                      go_wp2_with fail
                      exact ⟨⟨k + 1, by simp, by omega, by rw [← hE.out]; exact hR.out, by rw [← hE.out]; exact hs⟩, by simp [intOf]; omega⟩
            · obtain rfl : k = 10 := by omega
              rw [show ((10 : Nat) : Int) = 10 from rfl]
              have hs : Sep w wr [blk W ((rep L 10).map (.int .u32)) 48, blk S (L.map (.int .u32)) 48] := hs
              obtain ⟨R, hRe⟩ : ∃ l, l = rep L 10 := ⟨_, rfl⟩
              rw [← hRe] at hs hR
              have HR := Lib.hid hRe
              have hR := Lib.hid hR
              clear hRe
              have s7 := (Sep.rown hs 5 1)
              clear hs
              go_wp2_with fail
              go_loopw [13, 81] (fun u13 u81 wr => ∃ (i : Nat) (av : Option Addr) (cv : Nat), u13 = .slice av (4 * i) cv ∧ u81 = .int .i64 i ∧ i ≤ 16 ∧ Sep w wr [row 5 1 (.slice av (4 * i) cv) (4 * i) ((outB R L i).map (.int .u8)), blk W (R.map (.int .u32)) 48, blk S (L.map (.int .u32)) 48]) (fun _ u81 _ => 16 - (intOf u81).toNat)
              case atStart => exact ⟨0, none, 0, rfl, rfl, by omega, s7⟩
              case round =>
                clear s7
                obtain ⟨i, av, cv, rfl, rfl, hi6, hs⟩ := hrel
                by_cases hi16 : i < 16
                · go_upto_region 32 with fail
                  have hs := hs.quiet (Only.drew wr [])
                  have hAW : Arr W 48 16 R wr.drew := ⟨hs.tail.head, hR.out.1, hR.out.2⟩
                  have hAS : Arr S 48 16 L wr.drew := ⟨hs.tail.tail.head, hw3.out.1, hw3.out.2⟩
                  have c1 := hAW.cell i hi16
                  have c2 := hAS.cell i hi16
                  have b1 := hAW.bd i hi16
                  have b2 := hAS.bd i hi16
                  have j0 : (0 : Int) ≤ (i : Int) := by omega
                  have j1 : (i : Int) < 16 := by omega
                  have hE : Hid (outB R L (i + 1) = outB R L i ++ dg 256 ((gt R i + gt L i) % 4294967296) 4) := rfl
                  clear hAW hAS
                  generalize gt R i = x at *
                  generalize gt L i = y at *
                  obtain ⟨b1, b3⟩ := b1
                  obtain ⟨b2, b4⟩ := b2
                  obtain ⟨z, hz⟩ : ∃ z, IntKind.u32.wrap (x + y) = z := ⟨_, rfl⟩
                  have hze : (x + y) % 4294967296 = z := by rw [← hz]; simp [IntKind.wrap, IntKind.bits, IntKind.signed]
                  rw [hze] at hE
                  have z0 : 0 ≤ z := by omega
                  have z1 : z < 4294967296 := by omega
                  clear hze
                  go_still_tail 7, (by kernel_rfl)
                  change wpList _ _ _ _ _ wr.drew
                  generalize wr.drew = w9 at *
                  go_upto_region 33 with fail
                  clear b1 b2 b3 b4 c1 c2 hz
                  have u1 := hs.quiet (Only.alloc w9 (.cells #[.int .u8 (z % 256), .int .u8 (z / 256 % 256), .int .u8 (z / 65536 % 256), .int .u8 (z / 16777216)] 5) [])
                  have hs6 := src_lit w9 [.int .u8 (z % 256), .int .u8 (z / 256 % 256), .int .u8 (z / 65536 % 256), .int .u8 (z / 16777216)] 5 4 1 rfl
                  have hown : (w9.alloc (.cells #[.int .u8 (z % 256), .int .u8 (z / 256 % 256), .int .u8 (z / 65536 % 256), .int .u8 (z / 16777216)] 5)).ownsRow 0 5 1 (.slice av (4 * i) cv) (4 * i) ((outB R L i).map (.int .u8)) := u1.head
                  go_wp2_with (at_builtin; refine wpList_append_src rfl _ _ 22 rfl 5 i0 (.int .u8 0) 1 1 Try.underlying22 hi hz0 hz1 hz2 rfl (by decide) (.slice av (4 * i) cv) (4 * i) ((outB R L i).map (.int .u8)) rfl hown _ 4 _ rfl hs6 (by simp [Value.oneCell']) (by unfold maxLen; omega) (by omega) ?_; intro v7 w7 g1 g2 g3; obtain ⟨a7, c7, rfl⟩ := own_slice g1)
                  have u2 := u1.app g1 g2 g3
                  have hd : Hid ((outB R L (i + 1)).map (Value.int .u8) = (outB R L i).map (.int .u8) ++ [.int .u8 (z % 256), .int .u8 (z / 256 % 256), .int .u8 (z / 65536 % 256), .int .u8 (z / 16777216)]) := by
                    show _ = _
                    have e1 : z / 256 / 256 % 256 = z / 65536 % 256 := by omega
                    have e2 : z / 256 / 256 / 256 % 256 = z / 16777216 := by omega
                    rw [hE.out]
                    simp [dg, e1, e2]
                  clear g1 g2 g3 u1 hs6 hown hs z0 z1
                  go_wp2_with fail
                  exact ⟨⟨i + 1, a7, c7, by rw [show 4 * (i + 1) = 4 * i + 4 by omega], by simp, by omega, by rw [hd.out]; exact u2⟩, by simp [intOf]; omega⟩
                · obtain rfl : i = 16 := by omega
                  have hown : wr.ownsRow 0 5 1 (.slice av 64 cv) 64 ((outB R L 16).map (.int .u8)) := hs.head
                  have hnew := hs.new _ (List.mem_cons_self ..)
                  have hB : Hid (blockL ks n ns = outB R L 16) := by
                    show _ = _
                    rw [HR.out, hsL.out]; rfl
                  have ho := hs.only
                  clear hs
                  go_wp2_with fail
                  go_ret
                  rw [hB.out]
                  exact ⟨_, rfl, by rw [outB_len]; exact hown, fun k hk => .inr (hnew k (by simpa [row] using hk)), ho⟩
end Go.Proofs.Ytemmdhfmdgpfmaa
