/- Layer 5 (chacha): the contract of Stream. -/
import Derived.Test.YtemmdhfmdgpfmaaBlk2
import Derived.Test.YtemmdhfmdgpfmaaRFit
import Derived.Test.YtemmdhfmdgpfmaaTag6
import Derived.Deep.Cut
import Derived.Deep.CutBlock
import Derived.StillTailTactics
namespace Go.Proofs.Ytemmdhfmdgpfmaa
open Go.RowKit Go.Pw
set_option linter.unusedVariables false

def xor8 (x y : Int) : Int := bits .xor .u8 x y
theorem xor8_bd {x y : Int} (hx : 0 ≤ x ∧ x < 256) (hy : 0 ≤ y ∧ y < 256) : 0 ≤ xor8 x y ∧ xor8 x y < 256 := by
  unfold xor8
  rw [u8_xor x y hx.1 hx.2 hy.1 hy.2]
  have : x.toNat ^^^ y.toNat < 2 ^ 8 := Nat.xor_lt_two_pow (by omega) (by omega)
  omega
theorem xor8_twice {x y : Int} (hx : 0 ≤ x ∧ x < 256) (hy : 0 ≤ y ∧ y < 256) : xor8 (xor8 x y) y = x := by
  have h := xor8_bd hx hy
  have e : xor8 x y = ((x.toNat ^^^ y.toNat : Nat) : Int) := u8_xor x y hx.1 hx.2 hy.1 hy.2
  unfold xor8 at h ⊢
  rw [u8_xor _ y h.1 h.2 hy.1 hy.2]
  have e2 : (bits .xor .u8 x y).toNat = x.toNat ^^^ y.toNat := by
    have : bits .xor .u8 x y = ((x.toNat ^^^ y.toNat : Nat) : Int) := e
    rw [this, Int.toNat_natCast]
  rw [e2, Nat.xor_assoc, Nat.xor_self, Nat.xor_zero]
  omega
/-- The number of the block that a byte is turned by; the byte. -/
def nOf (n : Int) (i : Nat) : Int := (n + ((i / 64 : Nat) : Int)) % 4294967296
def sBy (ks : List Int) (n : Int) (ns : List Int) (i : Nat) : Int := gtI (blockL ks (nOf n i) ns) (i % 64)
def strK (ks : List Int) (n : Int) (ns xs : List Int) : Nat → List Int
  | 0 => []
  | i + 1 => strK ks n ns xs i ++ [xor8 (gtI xs i) (sBy ks n ns i)]
def streamL (ks : List Int) (n : Int) (ns xs : List Int) : List Int := strK ks n ns xs xs.length
theorem strK_len (ks : List Int) (n : Int) (ns xs : List Int) (i : Nat) : (strK ks n ns xs i).length = i := by
  induction i with
  | zero => rfl
  | succ i ih => simp [strK, ih]
theorem sBy_bd (ks : List Int) (n : Int) (ns : List Int) (i : Nat) : 0 ≤ sBy ks n ns i ∧ sBy ks n ns i < 256 :=
  block_byt _ _ _ _ (gtI_mem (by rw [block_len]; exact Nat.mod_lt _ (by decide)))
theorem gtI_bd {xs : List Int} (h : ∀ x ∈ xs, 0 ≤ x ∧ x < 256) (i : Nat) : 0 ≤ gtI xs i ∧ gtI xs i < 256 := by
  by_cases hi : i < xs.length
  · exact h _ (gtI_mem hi)
  · have : gtI xs i = 0 := by simp [gtI, List.getD_eq_getElem?_getD, List.getElem?_eq_none (Nat.le_of_not_lt hi)]
    rw [this]; decide
theorem strK_byt {ks : List Int} {n : Int} {ns xs : List Int} (h : ∀ x ∈ xs, 0 ≤ x ∧ x < 256) (i : Nat) : ∀ x ∈ strK ks n ns xs i, 0 ≤ x ∧ x < 256 := by
  induction i with
  | zero => simp [strK]
  | succ i ih =>
    intro x hx
    rcases List.mem_append.1 hx with hx | hx
    · exact ih x hx
    · obtain rfl : x = _ := by simpa using hx
      exact xor8_bd (gtI_bd h i) (sBy_bd ks n ns i)
theorem strK_at (ks : List Int) (n : Int) (ns xs : List Int) (k : Nat) {i : Nat} (hi : i < k) : gtI (strK ks n ns xs k) i = xor8 (gtI xs i) (sBy ks n ns i) := by
  induction k with
  | zero => omega
  | succ k ih =>
    have hl := strK_len ks n ns xs k
    unfold gtI at ih ⊢
    simp only [strK, List.getD_eq_getElem?_getD] at ih ⊢
    by_cases h : i < k
    · rw [List.getElem?_append_left (by omega)]
      exact ih h
    · obtain rfl : i = k := by omega
      rw [List.getElem?_append_right (by omega), hl, Nat.sub_self]
      rfl
theorem stream_len (ks : List Int) (n : Int) (ns xs : List Int) : (streamL ks n ns xs).length = xs.length := strK_len _ _ _ _ _
theorem stream_byt {ks : List Int} {n : Int} {ns xs : List Int} (h : ∀ x ∈ xs, 0 ≤ x ∧ x < 256) : ∀ x ∈ streamL ks n ns xs, 0 ≤ x ∧ x < 256 := strK_byt h _
theorem gtI_ext {a b : List Int} (hl : a.length = b.length) (h : ∀ i, i < a.length → gtI a i = gtI b i) : a = b := by
  apply List.ext_getElem hl
  intro i h1 h2
  have := h i h1
  rwa [gtI_get h1, gtI_get h2] at this
/-- Twice is nothing. -/
theorem stream_twice {ks : List Int} {n : Int} {ns xs : List Int} (h : ∀ x ∈ xs, 0 ≤ x ∧ x < 256) : streamL ks n ns (streamL ks n ns xs) = xs := by
  have hl : (streamL ks n ns (streamL ks n ns xs)).length = xs.length := by rw [stream_len, stream_len]
  refine gtI_ext hl fun i hi => ?_
  have hi' : i < xs.length := by omega
  unfold streamL
  rw [strK_at _ _ _ _ _ (by rw [strK_len]; exact hi'), strK_at _ _ _ _ _ hi']
  exact xor8_twice (gtI_bd h i) (sBy_bd ks n ns i)

theorem nOf_bd (n : Int) (i : Nat) : W32 (nOf n i) := by unfold W32 nOf; omega
theorem nOf_step (n : Int) {i : Nat} (h : (i + 1) % 64 ≠ 0) : nOf n (i + 1) = nOf n i := by
  unfold nOf
  rw [show (i + 1) / 64 = i / 64 by omega]

set_option maxRecDepth 100000 in
set_option maxHeartbeats 3200000 in
theorem stream_any (key nonce p : Value) (ks ns xs : List Int) (n : Int) (w : World) (hk : Src w key 1 ks.length (ks.map (Value.int .u8))) (hkb : ∀ x ∈ ks, 0 ≤ x ∧ x < 256)
    (hn : Src w nonce 1 ns.length (ns.map (Value.int .u8))) (hnb : ∀ x ∈ ns, 0 ≤ x ∧ x < 256) (hn32 : W32 n) (hp : Src w p 1 xs.length (xs.map (Value.int .u8))) (hxb : ∀ x ∈ xs, 0 ≤ x ∧ x < 256) (hxl : xs.length ≤ 1000000) :
    Calls Try.prog 13 #[key, .int .u32 n, nonce, p] w (Fresh (streamL ks n ns xs) w) := by
  obtain ⟨ap, cp, rfl, _⟩ := id hp
  have hmk := make_bytes w xs.length hxl
  go_enter Try.func13, Try.ntmps13
  have s0 : Sep w _ [row 5 1 (.slice none 0 0) 0 [], blk w.heap.size (fillZ [] xs.length) 5] := Sep.rown ((Sep.nil w).box (List.replicate xs.length (Value.int .u8 0)) 5) 5 1
  go_wp2_with fail
  generalize hZ : w.heap.size = Z at *
  clear hmk
  go_loopw [10, 17] (fun u10 u17 wr => ∃ (i : Nat) (v : Value) (bl : List Int), u10 = v ∧ u17 = .int .i64 i ∧ i ≤ xs.length ∧ (i % 64 ≠ 0 → bl = blockL ks (nOf n i) ns) ∧ Sep w wr [row 5 1 v bl.length (bl.map (.int .u8)), blk Z (fillZ (strK ks n ns xs i) xs.length) 5]) (fun _ u17 _ => xs.length - (intOf u17).toNat)
  case atStart => exact ⟨0, .slice none 0 0, [], rfl, rfl, by omega, by simp, s0⟩
  case round =>
    clear s0
    obtain ⟨i, v, bl, rfl, rfl, hi, hbl, hs⟩ := hrel
    by_cases hin : i < xs.length
    · have r1 : (i : Int).tmod 64 = ((i % 64 : Nat) : Int) := by rw [Int.tmod_eq_emod_of_nonneg (by omega)]; omega
      have r2 : (i : Int) % 64 = ((i % 64 : Nat) : Int) := by omega
      have r3 : (i : Int).tdiv 64 = ((i / 64 : Nat) : Int) := by rw [Int.tdiv_eq_ediv_of_nonneg (by omega)]; omega
      have r4 : (i : Int) / 64 = ((i / 64 : Nat) : Int) := by omega
      have r5 : IntKind.u32.wrap ((i / 64 : Nat) : Int) = ((i / 64 : Nat) : Int) := by simp [IntKind.wrap, IntKind.bits, IntKind.signed]; omega
      have d0 : decide ((i : Int) < (xs.length : Int)) = true := by simp; omega
      have hz : IntKind.u32.wrap (n + ((i / 64 : Nat) : Int)) = nOf n i := by simp [IntKind.wrap, IntKind.bits, IntKind.signed, nOf]
      have hz := hz
      obtain ⟨m, hm⟩ : ∃ m, m = i % 64 := ⟨_, rfl⟩
      rw [← hm] at r1 r2 hbl
      obtain ⟨q, hq⟩ : ∃ q, q = i / 64 := ⟨_, rfl⟩
      rw [← hq] at r3 r4 r5 hz
      have Hm := Lib.hid hm
      have Hq := Lib.hid hq
      have hbl := Lib.hid hbl
      clear hm hq
      go_upto_if 22 with fail
      go_cut [10] from 18 to 43 (fun u10 wx => ∃ (g c : Nat), u10 = .slice (some ⟨g, 0, none⟩) 64 c ∧ Sep w wx [row 5 1 (.slice (some ⟨g, 0, none⟩) 64 c) 64 ((blockL ks (nOf n i) ns).map (.int .u8)), blk Z (fillZ (strK ks n ns xs i) xs.length) 5])
      case first =>
        by_cases hm0 : m = 0
        · have d1 : decide ((m : Int) = 0) = true := by simp; omega
          go_wp2_with fail
          refine (block_any key nonce ks ns (nOf n i) wr (hs.src hk) hkb (hs.src hn) hnb (nOf_bd n i)).mono ?_
          rintro e w5 hf
          obtain ⟨g, c, rfl, _, _, hsR⟩ := hf.row 64 (block_len _ _ _) (by decide)
          have s2 := Sep.drop1 (hsR hs)
          clear hf hsR
          go_wp2_with fail
          go_meet
          case rel => exact ⟨g, c, rfl, s2⟩
        · have d1 : decide ((m : Int) = 0) = false := by simp; omega
          have hb := hbl.out hm0
          subst hb
          rw [block_len] at hs
          obtain ⟨ao, c, rfl⟩ := own_slice (show wr.ownsRow 0 5 1 _ 64 _ from hs.head)
          obtain ⟨g, rfl, _⟩ := own_some (show wr.ownsRow 0 5 1 (.slice ao 64 c) 64 _ from hs.head) (by decide)
          go_wp2_with fail
          go_meet
          case rel => exact ⟨g, c, rfl, hs⟩
      case rest =>
        clear hs hbl
        obtain ⟨g, c, rfl, hs⟩ := hcut
        go_upto_region 8 with fail
        have hs := hs.quiet (Only.drew wc [])
        obtain ⟨b, of, rfl, hcell⟩ := src_at (hs.src hp) hin
        have hc := hcell i (.int .u8 (gtI xs i)) (by rw [List.getElem?_map, List.getElem?_eq_getElem hin, gtI_get hin]; rfl)
        have hx := gtI_bd hxb i
        have hR1 : wc.drew.ownsRow 0 5 1 (.slice (some ⟨g, 0, none⟩) 64 c) 64 ((blockL ks (nOf n i) ns).map (.int .u8)) := hs.head
        have hm64 : m < 64 := by rw [Hm.out]; exact Nat.mod_lt _ (by decide)
        have cb := hR1.cellAt m (by omega)
        rw [List.getElem?_map, List.getElem?_eq_getElem (by rw [block_len]; exact hm64), ← gtI_get (by rw [block_len]; exact hm64)] at cb
        simp only [Option.map_some] at cb
        have hsb : Hid (sBy ks n ns i = gtI (blockL ks (nOf n i) ns) m) := by show _ = _; rw [Hm.out]; rfl
        have hyb : 0 ≤ gtI (blockL ks (nOf n i) ns) m ∧ gtI (blockL ks (nOf n i) ns) m < 256 := by rw [← hsb.out]; exact sBy_bd ks n ns i
        have hZ1 : wc.drew.heap[Z]? = some (.cells (fillZ (strK ks n ns xs i) xs.length).toArray 5 (0, 0)) := hs.tail.head
        have fz := free_in hZ1 i
        have hti := strK_len ks n ns xs i
        have cz : wc.drew.cell? ⟨Z, i, none⟩ = some (.int .u8 0) := by
          rw [cell_in hZ1 i, List.getElem?_toArray]
          have := fillZ_at (ys := strK ks n ns xs i) (n := xs.length) (by omega)
          rwa [hti] at this
        have hput := (hs.up 1 (by simp)).put (strK ks n ns xs i).length (.int .u8 (xor8 (gtI xs i) (gtI (blockL ks (nOf n i) ns) m)))
        have hF : Hid (strK ks n ns xs (i + 1) = strK ks n ns xs i ++ [xor8 (gtI xs i) (gtI (blockL ks (nOf n i) ns) m)]) := by show _ = _; rw [← hsb.out]; rfl
        rw [fillZ_set (by omega), ← hF.out, hti] at hput
        have hput := (hput.up 1 (by simp))
        have hbn : Hid ((i + 1) % 64 ≠ 0 → blockL ks (nOf n i) ns = blockL ks (nOf n (i + 1)) ns) := fun h => by rw [nOf_step n h]
        have hl64 := Lib.hid (block_len ks (nOf n i) ns)
        clear hcell hZ1 hR1 hti hs hz hF hsb
        generalize gtI xs i = x at *
        generalize blockL ks (nOf n i) ns = bl2 at *
        generalize gtI bl2 m = y at *
        obtain ⟨z, hzx⟩ : ∃ z, bits .xor .u8 x y = z := ⟨_, rfl⟩
        have hput : Sep w _ _ := hput
        rw [show xor8 x y = z from hzx] at hput
        have i0 : (0 : Int) ≤ (i : Int) := by omega
        have i1 : (i : Int) < xs.length := by omega
        have i2 : (0 : Int) ≤ (m : Int) := by omega
        have i3 : (m : Int) < 64 := by omega
        obtain ⟨x0, x1⟩ := hx
        obtain ⟨y0, y1⟩ := hyb
        go_still_tail 13, (by kernel_rfl)
        change wpList _ _ _ _ _ wc.drew
        generalize wc.drew = w9 at *
        go_wp2_with fail
        exact ⟨⟨i + 1, _, bl2, rfl, by simp, by omega, hbn.out, by rw [hl64.out]; exact hput⟩, by simp [intOf]; omega⟩
    · obtain rfl : i = xs.length := by omega
      have hfz : fillZ (strK ks n ns xs xs.length) xs.length = (streamL ks n ns xs).map (.int .u8) := by simp [fillZ, strK_len, streamL]
      have hs2 := hs.up 1 (by simp)
      have hs3 : Sep w wr [blk Z ((streamL ks n ns xs).map (.int .u8)) 5] := by rw [← hfz]; exact Sep.one hs2
      have hfr := fresh_blk hs3 (by rw [stream_len]; unfold maxLen; omega)
      rw [stream_len] at hfr
      have hfr := Lib.hid hfr
      clear hfz hs hs2 hs3 hbl
      go_wp2_with fail
      go_ret
      exact hfr.out
end Go.Proofs.Ytemmdhfmdgpfmaa
