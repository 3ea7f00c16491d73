/- Numbers of words of 32 bits (layer 2's reference): Low, Bytes, Bit, Len. -/
import Derived.Test.YtemmdhfmdgpfmaaNat1
import Derived.Test.YtemmdhfmdgpfmaaStr1
namespace Go.Proofs.Ytemmdhfmdgpfmaa
open Go.RowKit Go.Pw
set_option linter.unusedVariables false

theorem lv_div {B : Int} (hB : 1 < B) {l : List Int} (h : ∀ x ∈ l, 0 ≤ x ∧ x < B) (j : Nat) : lv B l / B ^ j = lv B (l.drop j) := by
  have hp : (0 : Int) < B ^ j := Int.pow_pos (by omega)
  by_cases hj : j ≤ l.length
  · conv => lhs; rw [← List.take_append_drop j l, lv_app]
    have hlen : (l.take j).length = j := by simp; omega
    have h1 := lv_lt (by omega) (l.take j) (fun x hx => h x (List.mem_of_mem_take hx))
    have h0 := lv_nonneg (B := B) (by omega) (l.take j) (fun x hx => (h x (List.mem_of_mem_take hx)).1)
    rw [hlen] at h1 ⊢
    rw [Int.add_mul_ediv_left _ _ (by omega), Int.ediv_eq_zero_of_lt h0 h1, Int.zero_add]
  · rw [List.drop_of_length_le (by omega)]
    have h1 := lv_lt (by omega) l h
    have h0 := lv_nonneg (B := B) (by omega) l (fun x hx => (h x hx).1)
    have h2 := pow_mono (B := B) (by omega) (show l.length ≤ j by omega)
    rw [Int.ediv_eq_zero_of_lt h0 (by omega)]
    rfl
/-- A digit of a lesser base. -/
theorem digit_in {B b : Int} {m s : Nat} (hBb : B = b ^ m) (hb : 1 < b) (hs : s < m) {l : List Int} (h : ∀ x ∈ l, 0 ≤ x ∧ x < B) (j : Nat) : lv B l / b ^ (m * j + s) % b = gtI l j / b ^ s % b := by
  have hB : 1 < B := by
    rw [hBb]
    have := pow_mono (B := b) (by omega) (show 1 ≤ m by omega)
    rw [Int.pow_succ, Int.pow_zero, Int.one_mul] at this
    omega
  have hps : (0 : Int) < b ^ s := Int.pow_pos (by omega)
  rw [Int.pow_add, Int.pow_mul, ← hBb, ← Int.ediv_ediv_of_nonneg (Int.pow_nonneg (by omega)), lv_div hB h]
  by_cases hj : j < l.length
  · have hd : l.drop j = gtI l j :: l.drop (j + 1) := by rw [gtI_get hj]; exact List.drop_eq_getElem_cons hj
    rw [hd]
    simp only [lv]
    have e : B = b ^ s * (b * b ^ (m - s - 1)) := by
      rw [Int.mul_comm b, ← Int.pow_succ, ← Int.pow_add, show s + (m - s - 1 + 1) = m by omega]; exact hBb
    rw [e, Int.mul_assoc, Int.add_mul_ediv_left _ _ (by omega), Int.mul_assoc, Int.add_mul_emod_self_left]
  · rw [List.drop_of_length_le (by omega), gtI_out (by omega)]
    rfl

/-- What Low holds while it goes. -/
def LowI (i : Nat) (o : List Int) : Prop := ∀ j, j < o.length → 0 ≤ gtI o j ∧ gtI o j < 256 ^ (min 4 (i - 4 * j))
theorem low_step {xs o : List Int} {i : Nat} {x : Int} (hL : i < 4 * o.length) (hI : LowI i o) (hv : lv B32 o = lv 256 (xs.take i)) (hi : i < xs.length) (hx : x = gtI xs i) (hb : 0 ≤ x ∧ x < 256) :
    IntKind.u32.wrap (x * 2 ^ (8 * (i % 4))) = x * 2 ^ (8 * (i % 4)) ∧ bits .or .u32 (gtI o (i / 4)) (x * 2 ^ (8 * (i % 4))) = x * 2 ^ (8 * (i % 4)) + gtI o (i / 4) ∧ lv B32 (o.set (i / 4) (x * 2 ^ (8 * (i % 4)) + gtI o (i / 4))) = lv 256 (xs.take (i + 1)) ∧ LowI (i + 1) (o.set (i / 4) (x * 2 ^ (8 * (i % 4)) + gtI o (i / 4))) ∧ (0 ≤ gtI o (i / 4) ∧ gtI o (i / 4) < 4294967296) := by
  have hj : i / 4 < o.length := by omega
  have h0 := hI (i / 4) hj
  rw [show min 4 (i - 4 * (i / 4)) = i % 4 by omega] at h0
  have e8 : (256 : Int) ^ (i % 4) = 2 ^ (8 * (i % 4)) := pow8 _
  rw [e8] at h0
  have hp24 : (2 : Int) ^ (8 * (i % 4)) ≤ 2 ^ 24 := pow2_le (by omega)
  have h24 : (2 : Int) ^ 24 = 16777216 := by decide
  have hp0 : (0 : Int) < 2 ^ (8 * (i % 4)) := Int.pow_pos (by decide)
  have hm0 : 0 ≤ x * 2 ^ (8 * (i % 4)) := Int.mul_nonneg hb.1 (Int.le_of_lt hp0)
  have hm1 : x * 2 ^ (8 * (i % 4)) + 2 ^ (8 * (i % 4)) ≤ 256 * 2 ^ (8 * (i % 4)) := by
    have : (x + 1) * 2 ^ (8 * (i % 4)) ≤ 256 * 2 ^ (8 * (i % 4)) := Int.mul_le_mul_of_nonneg_right (by omega) (Int.le_of_lt hp0)
    rw [Int.add_mul, Int.one_mul] at this
    exact this
  have h32 : 256 * 2 ^ (8 * (i % 4)) ≤ (4294967296 : Int) := by omega
  refine ⟨?_, or32 _ x (8 * (i % 4)) h0 hb.1 (by omega), ?_, ?_, by omega⟩
  · generalize x * 2 ^ (8 * (i % 4)) = y at *
    simp [IntKind.wrap, IntKind.bits, IntKind.signed]; omega
  · rw [lv_set B32 hj, lv_take_succ 256 hi, hv, ← hx]
    have e : x * 2 ^ (8 * (i % 4)) + gtI o (i / 4) - gtI o (i / 4) = x * 2 ^ (8 * (i % 4)) := by omega
    rw [e, ← e8, show (256 : Int) ^ i = B32 ^ (i / 4) * 256 ^ (i % 4) by
      rw [show B32 = 256 ^ 4 by decide, ← Int.pow_mul, ← Int.pow_add, show 4 * (i / 4) + i % 4 = i by omega], Int.mul_assoc, Int.mul_comm x]
  · intro j hj'
    rw [List.length_set] at hj'
    by_cases e : j = i / 4
    · subst e
      rw [gtI_set_same hj, show min 4 (i + 1 - 4 * (i / 4)) = i % 4 + 1 by omega, Int.pow_succ, e8]
      omega
    · rw [gtI_set_ne (fun h => e h.symm)]
      have := hI j hj'
      rw [show min 4 (i + 1 - 4 * j) = min 4 (i - 4 * j) by omega]
      exact this

theorem make_words (w : World) (k : Nat) (hk : k ≤ 1000000) :
    (Instr.makeSlice 44 (.int .i64 (k : Int)) (.int .i64 (k : Int))).run Try.prog w = .ok (.slice (some ⟨w.heap.size, 0, none⟩) k k) (w.alloc (.cells ((List.replicate k (Value.int .u32 0)).toArray) 26)) := by
  obtain ⟨i0, hi, hz0, hz1, hz2⟩ := info26
  have h := run_make (P := Try.prog) w 44 26 i0 (.int .u32 0) Try.underlying44 hi hz0 .i64 .i64 k k (by omega) (Int.le_refl _) (by rw [hz2]; omega) (by omega)
  rw [hz1, Int.toNat_natCast, Nat.mul_one] at h
  rw [h]
  have : madeCells (Value.int .u32 0).cells k = (List.replicate k (Value.int .u32 0)).toArray := by
    apply Array.toList_inj.1
    rw [show (Value.int .u32 0).cells = #[Value.int .u32 0] from rfl, toList_madeCells_one]
  rw [this]

theorem src_blk {w : World} {Z : Nat} {cs : List Value} {T : TypeId} {n : Nat} (h : w.heap[Z]? = some (.cells cs.toArray T (0, 0))) (hn : cs.length = n) (hl : n ≤ maxLen) : Src w (.slice (some ⟨Z, 0, none⟩) n n) 1 n cs :=
  ⟨_, _, rfl, Nat.le_refl _, hl, by simp [hn], by simp, fun b hb j u hj => by
    obtain rfl : b = ⟨Z, 0, none⟩ := by simpa using hb.symm
    rw [Addr.add_lit, Nat.zero_add, Pw.cell_in h]
    simpa using hj⟩
theorem blk_at {w : World} {Z : Nat} {o : List Int} {T : TypeId} (h : w.heap[Z]? = some (.cells (o.map (Value.int .u32)).toArray T (0, 0))) {j : Nat} (hj : j < o.length) : w.cell? ⟨Z, j, none⟩ = some (.int .u32 (gtI o j)) := by
  rw [cell_in h, List.getElem?_toArray, List.getElem?_map, List.getElem?_eq_getElem hj, gtI_get hj]; rfl

set_option maxRecDepth 100000 in
set_option maxHeartbeats 1600000 in
theorem low_any (p : Value) (xs : List Int) (w : World) (hp : Src w p 1 xs.length (xs.map (Value.int .u8))) (hxb : ∀ x ∈ xs, 0 ≤ x ∧ x < 256) (hxl : xs.length ≤ 1000000) :
    Calls Try.prog 26 #[p] w fun e w' => Only w w' [] ∧ ∃ v, e = .returned v ∧ Nm w' v (lv 256 xs) := by
  obtain ⟨ap, cp, rfl, _⟩ := id hp
  obtain ⟨L, hL⟩ : ∃ L, L = (xs.length + 3) / 4 := ⟨_, rfl⟩
  have hmk := make_words w L (by omega)
  have r1 : IntKind.i64.wrap ((xs.length : Int) + 3) = (xs.length : Int) + 3 := IntWalk.i64_in _ (by omega)
  have r2 : ((xs.length : Int) + 3).tdiv 4 = (L : Int) := by rw [Int.tdiv_eq_ediv_of_nonneg (by omega)]; omega
  have r3 : ((xs.length : Int) + 3) / 4 = (L : Int) := by omega
  have HL := Lib.hid hL
  clear hL
  have s0 : Sep w _ [blk w.heap.size ((List.replicate L (0 : Int)).map (.int .u32)) 26] := Sep.as ((Sep.nil w).box (List.replicate L (Value.int .u32 0)) 26) (by rw [List.map_replicate])
  go_enter Try.func26, Try.ntmps26
  go_wp2_with fail
  generalize hZ : w.heap.size = Z at *
  clear hmk hZ
  go_loopw [4] (fun u4 wr => ∃ (i : Nat) (o : List Int), u4 = .int .i64 i ∧ i ≤ xs.length ∧ o.length = L ∧ LowI i o ∧ lv B32 o = lv 256 (xs.take i) ∧ Sep w wr [blk Z (o.map (.int .u32)) 26]) (fun u4 _ => xs.length - (intOf u4).toNat)
  case atStart => exact ⟨0, List.replicate L 0, rfl, by omega, by simp, fun j hj => by
    have : gtI (List.replicate L 0) j = 0 := by simp [gtI, List.getD_eq_getElem?_getD, List.getElem?_replicate]; split <;> rfl
    rw [this]; simp, by rw [lv_zeros]; rfl, s0⟩
  case round =>
    clear s0
    obtain ⟨i, o, rfl, hi, ho, hI, hv, hs⟩ := hrel
    by_cases hin : i < xs.length
    · obtain ⟨b, of, rfl, hcell⟩ := src_at ((hs.quiet (Only.drew wr [])).src hp) hin
      have hc := hcell i (.int .u8 (gtI xs i)) (by rw [List.getElem?_map, List.getElem?_eq_getElem hin, gtI_get hin]; rfl)
      have hx := gtI_bd hxb i
      have hLn := HL.out
      obtain ⟨q1, q2, q3, q4, q5, q6⟩ := low_step (by omega) hI hv hin rfl hx
      obtain ⟨j, hj⟩ : ∃ j, j = i / 4 := ⟨_, rfl⟩
      obtain ⟨s, hs4⟩ : ∃ s, s = i % 4 := ⟨_, rfl⟩
      have hjL : j < o.length := by omega
      rw [← hs4] at q1 q2 q3 q4
      rw [← hj] at q2 q3 q4 q5 q6
      have hZ1 : wr.drew.heap[Z]? = some (.cells (o.map (Value.int .u32)).toArray 26 (0, 0)) := hs.head
      have fz := free_in hZ1 j
      have cz := blk_at hZ1 hjL
      have hput := (hs.quiet (Only.drew wr [])).put j (.int .u32 (gtI xs i * 2 ^ (8 * s) + gtI o j))
      rw [← List.map_set] at hput
      have hol : Hid ((o.set j (gtI xs i * 2 ^ (8 * s) + gtI o j)).length = L) := by show List.length _ = L; rw [List.length_set]; exact ho
      have q3 := Lib.hid q3
      have q4 := Lib.hid q4
      have t1 : (i : Int).tdiv 4 = (j : Int) := by rw [Int.tdiv_eq_ediv_of_nonneg (by omega)]; omega
      have t2 : (i : Int) / 4 = (j : Int) := by omega
      have t3 : (i : Int).tmod 4 = (s : Int) := by rw [Int.tmod_eq_emod_of_nonneg (by omega)]; omega
      have t4 : (i : Int) % 4 = (s : Int) := by omega
      have t5 : (8 * (s : Int)).toNat = 8 * s := by omega
      have t6 : 0 ≤ 8 * (s : Int) := by omega
      have t7 : IntKind.i64.wrap (8 * (s : Int)) = 8 * (s : Int) := IntWalk.i64_in _ (by omega)
      have t8 : (j : Int) < L := by omega
      have t12 : IntKind.i64.wrap (j : Int) = (j : Int) := IntWalk.i64_in _ (by omega)
      have t13 : IntKind.i64.wrap (s : Int) = (s : Int) := IntWalk.i64_in _ (by omega)
      have t9 : (0 : Int) ≤ (j : Int) := by omega
      have t10 : (0 : Int) ≤ (i : Int) := by omega
      have t11 : (i : Int) < xs.length := by omega
      clear hI hv hs hcell hZ1 hj hs4 hLn
      generalize gtI xs i = x at *
      generalize gtI o j = u at *
      generalize o.set j (x * 2 ^ (8 * s) + u) = o2 at *
      obtain ⟨x0, x1⟩ := hx
      have q7 : x * 2 ^ (8 * s) % 4294967296 = x * 2 ^ (8 * s) := by
        have e : IntKind.u32.wrap (x * 2 ^ (8 * s)) = x * 2 ^ (8 * s) % 4294967296 := by simp [IntKind.wrap, IntKind.bits, IntKind.signed]
        rw [← e]; exact q1
      go_upto_region 5 with fail
      go_still_tail 19, (by kernel_rfl)
      change wpList _ _ _ _ _ wr.drew
      generalize wr.drew = w9 at *
      go_wp2_with fail
      exact ⟨⟨i + 1, o2, by simp, by omega, hol.out, q4.out, q3.out, hput⟩, by simp [intOf]; omega⟩
    · obtain rfl : i = xs.length := by omega
      have hZ1 : wr.heap[Z]? = some (.cells (o.map (Value.int .u32)).toArray 26 (0, 0)) := hs.head
      have hsr : Src wr (.slice (some ⟨Z, 0, none⟩) L L) 1 o.length (o.map (.int .u32)) := by rw [ho]; exact src_blk hZ1 (by simp [ho]) (by have := HL.out; unfold maxLen; omega)
      have hou : U32s o := fun x hx => by
        obtain ⟨j, hj, rfl⟩ := List.mem_iff_getElem.1 hx
        have := hI j hj
        rw [gtI_get hj] at this
        have h4 := pow_mono (B := 256) (by decide) (show min 4 (xs.length - 4 * j) ≤ 4 by omega)
        rw [show (256 : Int) ^ 4 = 4294967296 by decide] at h4
        omega
      have hsr := Lib.hid hsr
      have hou := Lib.hid hou
      rw [List.take_length] at hv
      have hv := Lib.hid hv
      have honly := Lib.hid hs.only
      clear hI hs hZ1
      have hol : Hid (o.length ≤ 1000000) := by show _ ≤ _; have := HL.out; omega
      go_wp2_with fail
      subst ho
      refine (trim_any _ _ o wr hsr.out hou.out hol.out).mono ?_
      rintro e w5 ⟨rfl, v, rfl, hN⟩
      rw [hv.out] at hN
      have hN := Lib.hid hN
      go_wp2_with fail
      go_ret
      exact ⟨honly.out, v, rfl, hN.out⟩

set_option maxRecDepth 100000 in
set_option maxHeartbeats 1600000 in
theorem bit_any (ao : Option Addr) (c : Nat) (ys : List Int) (i : Nat) (w : World) (h : Src w (.slice ao ys.length c) 1 ys.length (ys.map (.int .u32))) (hu : U32s ys) (hl : ys.length ≤ 1000000) (hi : i ≤ 100000000) :
    Calls Try.prog 35 #[.slice ao ys.length c, .int .i64 i] w fun e w' => w' = w ∧ e = .returned (.int .u32 (lv B32 ys / 2 ^ i % 2)) := by
  obtain ⟨j, hj⟩ : ∃ j, j = i / 32 := ⟨_, rfl⟩
  obtain ⟨s, hs4⟩ : ∃ s, s = i % 32 := ⟨_, rfl⟩
  have hd := digit_in (B := B32) (b := 2) (m := 32) (s := s) (by decide) (by decide) (by omega) hu j
  rw [show 32 * j + s = i by omega] at hd
  rw [hd]
  have t1 : (i : Int).tdiv 32 = (j : Int) := by rw [Int.tdiv_eq_ediv_of_nonneg (by omega)]; omega
  have t2 : (i : Int) / 32 = (j : Int) := by omega
  have t3 : (i : Int).tmod 32 = (s : Int) := by rw [Int.tmod_eq_emod_of_nonneg (by omega)]; omega
  have t4 : (i : Int) % 32 = (s : Int) := by omega
  by_cases hjl : j < ys.length
  · obtain ⟨b, of, rfl, hcell⟩ := src_at h hjl
    have hc := hcell j (.int .u32 (gtI ys j)) (by rw [List.getElem?_map, List.getElem?_eq_getElem hjl, gtI_get hjl]; rfl)
    have hx := u32s_at hu j
    have d1 : decide ((ys.length : Int) ≤ (j : Int)) = false := by simp; omega
    have hp : (0 : Int) < 2 ^ s := Int.pow_pos (by decide)
    have z0 : 0 ≤ gtI ys j / 2 ^ s := Int.ediv_nonneg hx.1 (Int.le_of_lt hp)
    have z1 : gtI ys j / 2 ^ s ≤ gtI ys j := Int.ediv_le_self _ hx.1
    have hm : bits .and .u32 (gtI ys j / 2 ^ s) 1 = gtI ys j / 2 ^ s % 2 := by
      rw [u32_and _ _ z0 (by omega) (by decide) (by decide)]
      have := Nat.and_two_pow_sub_one_eq_mod (gtI ys j / 2 ^ s).toNat 1
      rw [show (2 ^ 1 - 1 : Nat) = 1 from rfl] at this
      rw [show (1 : Int).toNat = 1 from rfl, this]
      omega
    clear hcell hd hp
    generalize gtI ys j = x at *
    have i0 : (0 : Int) ≤ (j : Int) := by omega
    have i1 : (j : Int) < ys.length := by omega
    have i2 : ¬ (ys.length : Int) ≤ (j : Int) := by omega
    clear hj hs4
    go_enter Try.func35, Try.ntmps35
    go_wp2_with fail
    go_ret
    exact ⟨rfl, rfl⟩
  · have d1 : decide ((ys.length : Int) ≤ (j : Int)) = true := by simp; omega
    rw [gtI_out (by omega), Int.zero_ediv]
    have i2 : (ys.length : Int) ≤ (j : Int) := by omega
    clear hd hj hs4
    go_enter Try.func35, Try.ntmps35
    go_wp2_with fail
    go_ret
    exact ⟨rfl, rfl⟩

theorem len_step {V : Int} {n : Nat} (h0 : 0 ≤ V) (h : V < 2 ^ (n + 1)) (hb : V / 2 ^ n % 2 = 0) : V < 2 ^ n := by
  have hp : (0 : Int) < 2 ^ n := Int.pow_pos (by decide)
  rw [Int.pow_succ] at h
  have h1 : V / 2 ^ n < 2 := Int.ediv_lt_of_lt_mul hp (by omega)
  have h2 : 0 ≤ V / 2 ^ n := Int.ediv_nonneg h0 (Int.le_of_lt hp)
  have h3 : V / 2 ^ n = 0 := by omega
  have := Int.lt_mul_ediv_self_add (x := V) hp
  rw [h3] at this
  omega

set_option maxRecDepth 100000 in
set_option maxHeartbeats 1600000 in
theorem nlen_any (ao : Option Addr) (c : Nat) (ys : List Int) (w : World) (h : Src w (.slice ao ys.length c) 1 ys.length (ys.map (.int .u32))) (hu : U32s ys) (hl : ys.length ≤ 1000000) :
    Calls Try.prog 34 #[.slice ao ys.length c] w fun e w' => w' = w ∧ ∃ n : Nat, e = .returned (.int .i64 n) ∧ lv B32 ys < 2 ^ n ∧ n ≤ 32 * ys.length := by
  have hb := lv_bd hu
  rw [show B32 = 2 ^ 32 by decide, ← Int.pow_mul] at hb
  rw [show (2 : Int) ^ 32 = B32 by decide] at hb
  have r1 : IntKind.i64.wrap (32 * (ys.length : Int)) = 32 * (ys.length : Int) := IntWalk.i64_in _ (by omega)
  have hb0 := Lib.hid hb.1
  have hb1 := Lib.hid hb.2
  clear hb
  go_enter Try.func34, Try.ntmps34
  go_wp2_with fail
  go_loopw [3] (fun u3 wr => ∃ n : Nat, u3 = .int .i64 n ∧ n ≤ 32 * ys.length ∧ lv B32 ys < 2 ^ n ∧ wr = w) (fun u3 _ => (intOf u3).toNat)
  case atStart => exact ⟨32 * ys.length, by simp, Nat.le_refl _, hb1.out, rfl⟩
  case round =>
    obtain ⟨n, rfl, hn, hv, rfl⟩ := hrel
    have hv := Lib.hid hv
    by_cases hn0 : n = 0
    · subst hn0
      rw [show ((0 : Nat) : Int) = 0 from rfl]
      go_wp2_with fail
      go_ret
      exact ⟨rfl, 0, rfl, hv.out, by omega⟩
    · obtain ⟨m, rfl⟩ : ∃ m, n = m + 1 := ⟨n - 1, by omega⟩
      have i0 : (0 : Int) < ((m + 1 : Nat) : Int) := by omega
      have i1 : IntKind.i64.wrap (((m + 1 : Nat) : Int) - 1) = (m : Int) := by rw [IntWalk.i64_in _ (by omega)]; omega
      have hbv : 0 ≤ lv B32 ys / 2 ^ m % 2 ∧ lv B32 ys / 2 ^ m % 2 < 2 := ⟨Int.emod_nonneg _ (by decide), Int.emod_lt_of_pos _ (by decide)⟩
      have hst : Hid (lv B32 ys / 2 ^ m % 2 = 0 → lv B32 ys < 2 ^ m) := len_step hb0.out hv.out
      go_wp2_with (first | (go_at_call 35; refine (bit_any ao c ys m _ h hu hl (by omega)).mono ?_; rintro e w5 ⟨rfl, rfl⟩; generalize lv B32 ys / 2 ^ m % 2 = bt at *))
      · rename_i hb
        exact ⟨⟨m, rfl, by omega, hst.out (by simpa using hb), trivial⟩, by simp [intOf]⟩
      · go_ret
        exact ⟨rfl, m + 1, by simp, hv.out, hn⟩
end Go.Proofs.Ytemmdhfmdgpfmaa
