/- The contracts of the Reader of layer 9 (wire): Num, Flag, Count, Bytes, Bad, End, Left at every state of a Reader of fewer than 1000000001 bytes. -/
import Derived.Test.YtemlpjfngaemdaaRows
import Derived.Test.YtemlpjfngaemdaaBase
namespace Go.Proofs.Ytemlpjfngaemdaa
open Go.RowKit Go.Pw
set_option linter.unusedVariables false

/-- Bytes: numbers from 0 to 255. -/
def Byt (l : List Int) : Prop := ∀ x ∈ l, 0 ≤ x ∧ x < 256

/-- The number that some bytes are, the highest first. -/
def ofbe (l : List Int) : Int := l.foldl (fun a b => a * 256 + b) 0

theorem ofbe_snoc (l : List Int) (x : Int) : ofbe (l ++ [x]) = ofbe l * 256 + x := by simp [ofbe, List.foldl_append]

theorem ofbe_from (l : List Int) (h : Byt l) : ∀ a : Int, 0 ≤ a → a * 256 ^ l.length ≤ l.foldl (fun a b => a * 256 + b) a ∧ l.foldl (fun a b => a * 256 + b) a < (a + 1) * 256 ^ l.length := by
  induction l with
  | nil => intro a _; simp; omega
  | cons x l ih =>
    intro a ha
    have h2 := h x (by simp)
    have h1 := ih (fun y hy => h y (by simp [hy])) (a * 256 + x) (by omega)
    have hp : (0 : Int) ≤ 256 ^ l.length := Int.pow_nonneg (by decide)
    simp only [List.foldl_cons, List.length_cons, Int.pow_succ]
    constructor
    · refine Int.le_trans ?_ h1.1
      have : (a * 256) * 256 ^ l.length ≤ (a * 256 + x) * 256 ^ l.length := Int.mul_le_mul_of_nonneg_right (by omega) hp
      rw [Int.mul_assoc, Int.mul_comm 256] at this
      exact this
    · refine Int.lt_of_lt_of_le h1.2 ?_
      have : (a * 256 + x + 1) * 256 ^ l.length ≤ ((a + 1) * 256) * 256 ^ l.length := Int.mul_le_mul_of_nonneg_right (by omega) hp
      rw [Int.mul_assoc (a + 1), Int.mul_comm 256] at this
      exact this

theorem ofbe_bd (l : List Int) (h : Byt l) : 0 ≤ ofbe l ∧ ofbe l < 256 ^ l.length := by
  have := ofbe_from l h 0 (by decide)
  simpa [ofbe] using this

theorem pow7 (j : Nat) (h : j ≤ 7) : (256 : Int) ^ j ≤ 72057594037927936 := by
  have : j = 0 ∨ j = 1 ∨ j = 2 ∨ j = 3 ∨ j = 4 ∨ j = 5 ∨ j = 6 ∨ j = 7 := by omega
  rcases this with rfl | rfl | rfl | rfl | rfl | rfl | rfl | rfl <;> decide

theorem or_byte (N x : Int) (h0 : 0 ≤ N) (h1 : N < 72057594037927936) (h2 : 0 ≤ x) (h3 : x < 256) : bits .or .u64 (N * 256) x = N * 256 + x := by
  rw [u64_or _ _ (by omega) (by omega) h2 (by omega)]
  have := Nat.two_pow_add_eq_or_of_lt (i := 8) (b := x.toNat) (by omega) N.toNat
  have e : (N * 256).toNat = 2 ^ 8 * N.toNat := by omega
  rw [e, ← this]
  omega

/-- A Reader: block R holds its two fields. -/
def IsR (T R : Nat) (p : Value) (rest : List Int) (bad : Bool) (w : World) : Prop :=
  w.heap[R]? = some (.cells #[p, .bool bad] T (0, 0)) ∧ Src w p 1 rest.length (rest.map (Value.int .u8)) ∧ Byt rest

theorem cell_two0 {w : World} {b : Nat} {u v : Value} {t : TypeId} (h : w.heap[b]? = some (.cells #[u, v] t (0, 0))) : w.cell? ⟨b, 0, none⟩ = some u := by simp [World.cell?, h]
theorem cell_two1 {w : World} {b : Nat} {u v : Value} {t : TypeId} (h : w.heap[b]? = some (.cells #[u, v] t (0, 0))) : w.cell? ⟨b, 1, none⟩ = some v := by simp [World.cell?, h]
theorem free_two {w : World} {b : Nat} {u v : Value} {t : TypeId} (h : w.heap[b]? = some (.cells #[u, v] t (0, 0))) (i : Nat) : w.frozen? ⟨b, i, none⟩ = false := by simp [World.frozen?, h]
theorem set_two0 {w : World} {b : Nat} {u v x : Value} {t : TypeId} (h : w.heap[b]? = some (.cells #[u, v] t (0, 0))) : (w.setCell ⟨b, 0, none⟩ x).heap[b]? = some (.cells #[x, v] t (0, 0)) := by
  have hlt := lt_of_block h
  have h' : w.heap[b] = .cells #[u, v] t (0, 0) := by simpa [Array.getElem?_eq_getElem hlt] using h
  show (w.heap.modify b _)[b]? = _
  rw [Array.getElem?_eq_getElem (by simpa using hlt), Array.getElem_modify_self, h']
  rfl
theorem set_two1 {w : World} {b : Nat} {u v x : Value} {t : TypeId} (h : w.heap[b]? = some (.cells #[u, v] t (0, 0))) : (w.setCell ⟨b, 1, none⟩ x).heap[b]? = some (.cells #[u, x] t (0, 0)) := by
  have hlt := lt_of_block h
  have h' : w.heap[b] = .cells #[u, v] t (0, 0) := by simpa [Array.getElem?_eq_getElem hlt] using h
  show (w.heap.modify b _)[b]? = _
  rw [Array.getElem?_eq_getElem (by simpa using hlt), Array.getElem_modify_self, h']
  rfl

theorem Try.info5 : (Try.prog.info? 5).map (fun i => (i.zero, i.size, i.bytes)) = some (some (.int .u8 0), 1, 1) := by kernel_rfl

set_option maxHeartbeats 400000 in
theorem rspoil_any (R : Nat) (u : Value) (bad : Bool) (w : World) (h : w.heap[R]? = some (.cells #[u, .bool bad] 87 (0, 0))) :
    Calls Try.prog 47 #[.pointer (some ⟨R, 0, none⟩)] w fun e w' => e = .returned (.tuple #[]) ∧ w' = w.setCell ⟨R, 1, none⟩ (.bool true) := by
  have h1 := cell_two1 h
  have h2 := free_two h 1
  go_enter Try.func47, Try.ntmps47
  go_wp2
  go_end0
  exact ⟨rfl, rfl⟩

set_option maxHeartbeats 400000 in
theorem rspoil_nil (w : World) :
    Calls Try.prog 47 #[.pointer none] w fun e w' => e = .returned (.tuple #[]) ∧ w' = w := by
  go_enter Try.func47, Try.ntmps47
  go_wp2
  go_end0
  exact ⟨rfl, rfl⟩

theorem Src.only' {w w' : World} {x : Value} {size m : Nat} {news : List Value} {L : List Nat} (h : Src w x size m news) (ho : Only w w' L) (ha : ∀ k ∈ L, ∀ i u, w.cell? ⟨k, i, none⟩ = some u → u ∉ news) : Src w' x size m news := by
  obtain ⟨ao, c, rfl, h1, h2, h3, h4, h5⟩ := h
  refine ⟨ao, c, rfl, h1, h2, h3, h4, fun b hb j u hj => ?_⟩
  have hc := h5 b hb j u hj
  have hsp := World.cell?_spot hc
  refine (World.cell?_of_block (w := w) (ho.block _ (World.block_lt_of_cell? w _ hc) ?_)).trans hc
  intro hm
  refine ha _ hm (b.add j).off u ?_ (List.mem_of_getElem? hj)
  rw [show (⟨(b.add j).block, (b.add j).off, none⟩ : Addr) = b.add j by rw [← hsp]]
  exact hc

theorem src_tail {w : World} {ao : Option Addr} {n c k : Nat} {cs : List Value} (h : Src w (.slice ao n c) 1 n cs) (hk : k ≤ n) :
    (c = k → Src w (.slice ao (n - k) 0) 1 (n - k) (cs.drop k)) ∧ Src w (.slice (ao.map (fun x => x.add k)) (n - k) (c - k)) 1 (n - k) (cs.drop k) := by
  obtain ⟨ao', c', he, h1, h2, h3, h4, h5⟩ := h
  simp only [Value.slice.injEq] at he
  obtain ⟨rfl, _, rfl⟩ := he
  constructor
  · rintro rfl
    have e : n - c = 0 := by omega
    refine ⟨ao, 0, rfl, by omega, Nat.zero_le _, by simp [h3], fun _ => ⟨e, rfl⟩, fun b hb j u hj => ?_⟩
    simp at hj
    have := List.length_drop (i := c) (l := cs)
    have hn := (List.getElem?_eq_some_iff.1 hj).1
    omega
  · refine ⟨_, c - k, rfl, by omega, by omega, by simp [h3], fun hn => ?_, fun b hb j u hj => ?_⟩
    · have := h4 (by simpa using hn); omega
    · cases ao with
      | none => simp at hb
      | some a =>
        obtain rfl : b = a.add k := by simpa using hb.symm
        rw [List.getElem?_drop] at hj
        have := h5 a rfl (k + j) u hj
        have e : (a.add k).add j = a.add (k + j) := by
          unfold Addr.add
          split <;> split <;> (try split) <;> simp_all <;> omega
        rw [e]; exact this

theorem src_take {w : World} {ao : Option Addr} {n c k : Nat} {cs : List Value} (h : Src w (.slice ao n c) 1 n cs) (hk : k ≤ n) : Src w (.slice ao k c) 1 k (cs.take k) := by
  obtain ⟨ao', c', he, h1, h2, h3, h4, h5⟩ := h
  simp only [Value.slice.injEq] at he
  obtain ⟨rfl, _, rfl⟩ := he
  refine ⟨ao, c, rfl, by omega, h2, by simp [h3]; omega, fun hn => ?_, fun b hb j u hj => ?_⟩
  · have := h4 hn; exact ⟨by omega, this.2⟩
  · rw [List.getElem?_take] at hj
    split at hj
    · exact h5 b hb j u hj
    · cases hj

theorem cells_two {w : World} {b : Nat} {u v : Value} {t : TypeId} (h : w.heap[b]? = some (.cells #[u, v] t (0, 0))) : ∀ i x, w.cell? ⟨b, i, none⟩ = some x → x = u ∨ x = v := by
  intro i x hx
  simp [World.cell?, h] at hx
  match i, hx with
  | 0, hx => left; simpa using hx.symm
  | 1, hx => right; simpa using hx.symm
  | i + 2, hx => simp at hx

/-- A Reader's slice reads as it did while the Reader's own block is written. -/
theorem isr_src {T R : Nat} {ao : Option Addr} {n c : Nat} {rest : List Int} {bad : Bool} {w w' : World} {x : Value} {m : Nat} (hR : w.heap[R]? = some (.cells #[.slice ao n c, .bool bad] T (0, 0))) (h : Src w x 1 m (rest.map (Value.int .u8))) (ho : Only w w' [R]) : Src w' x 1 m (rest.map (Value.int .u8)) := by
  refine Src.only' h ho fun k hk i u hu hm => ?_
  obtain rfl : k = R := by simpa using hk
  obtain ⟨y, _, rfl⟩ := List.mem_map.1 hm
  rcases cells_two hR i _ hu with h | h <;> simp at h

set_option maxHeartbeats 800000 in
theorem rnum_fault (R : Nat) (p : Value) (rest : List Int) (bad : Bool) (k : Int) (w : World) (h : IsR 87 R p rest bad w) (hl : rest.length ≤ 1000000000) (hk : -9223372036854775808 ≤ k ∧ k ≤ 9223372036854775807) (hf : bad = true ∨ k < 0 ∨ 8 < k ∨ (rest.length : Int) < k) :
    Calls Try.prog 25 #[.pointer (some ⟨R, 0, none⟩), .int .i64 k] w fun e w' => e = .returned (.int .u64 0) ∧ IsR 87 R p rest true w' ∧ Only w w' [R] := by
  obtain ⟨hR, hsrc, hb⟩ := h
  obtain ⟨ao, c, rfl, _, _⟩ := id hsrc
  have h0 := cell_two0 hR
  have h1 := cell_two1 hR
  have hbad : bad = true ∨ bad = false := by cases bad <;> simp
  have hon : Only w (w.setCell ⟨R, 1, none⟩ (.bool true)) [R] := Only.setCell _ _ _ _ (by simp)
  have hend : Hid (IsR 87 R (.slice ao rest.length c) rest true (w.setCell ⟨R, 1, none⟩ (.bool true)) ∧ Only w (w.setCell ⟨R, 1, none⟩ (.bool true)) [R]) :=
    ⟨⟨set_two1 hR, isr_src hR hsrc hon, hb⟩, hon⟩
  rcases hbad with rfl | rfl
  · go_enter Try.func25, Try.ntmps25
    go_wp2_with (go_at_call 47; refine (rspoil_any R _ _ _ hR).mono ?_; rintro e w' ⟨rfl, rfl⟩)
    go_ret
    exact ⟨rfl, hend.out⟩
  · by_cases k0 : k < 0
    · have d0 : decide (k < 0) = true := by simpa using k0
      go_enter Try.func25, Try.ntmps25
      go_wp2_with (go_at_call 47; refine (rspoil_any R _ _ _ hR).mono ?_; rintro e w' ⟨rfl, rfl⟩)
      go_ret
      exact ⟨rfl, hend.out⟩
    · have d0 : decide (k < 0) = false := by simpa using k0
      by_cases k8 : 8 < k
      · have d8 : decide (8 < k) = true := by simpa using k8
        go_enter Try.func25, Try.ntmps25
        go_wp2_with (go_at_call 47; refine (rspoil_any R _ _ _ hR).mono ?_; rintro e w' ⟨rfl, rfl⟩)
        go_ret
        exact ⟨rfl, hend.out⟩
      · have d8 : decide (8 < k) = false := by simpa using k8
        have hlk : (rest.length : Int) < k := by rcases hf with h | h | h | h; simp at h; omega; omega; exact h
        have dl : decide ((rest.length : Int) < k) = true := by simpa using hlk
        go_enter Try.func25, Try.ntmps25
        go_wp2_with (go_at_call 47; refine (rspoil_any R _ _ _ hR).mono ?_; rintro e w' ⟨rfl, rfl⟩)
        go_ret
        exact ⟨rfl, hend.out⟩

set_option maxHeartbeats 800000 in
theorem rnum_ok (R : Nat) (p : Value) (rest : List Int) (k : Nat) (w : World) (h : IsR 87 R p rest false w) (hl : rest.length ≤ 1000000000) (hk : k ≤ 8) (hr : k ≤ rest.length) :
    Calls Try.prog 25 #[.pointer (some ⟨R, 0, none⟩), .int .i64 k] w fun e w' => e = .returned (.int .u64 (ofbe (rest.take k))) ∧ (∃ p', p'.ownBlock = p.ownBlock ∧ IsR 87 R p' (rest.drop k) false w') ∧ Only w w' [R] := by
  obtain ⟨hR, hsrc, hb⟩ := h
  obtain ⟨ao, c, rfl, hc1, hc2, hc3, hc4, hc5⟩ := id hsrc
  have h0 := cell_two0 hR
  have h1 := cell_two1 hR
  have d0 : decide ((k : Int) < 0) = false := by simp
  have d8 : decide (8 < (k : Int)) = false := by simp; omega
  have dl : decide ((rest.length : Int) < k) = false := by simp; omega
  have hpos : 0 < k → ∃ b o, ao = some ⟨b, o, none⟩ ∧ ∀ j x, rest[j]? = some x → w.cell? ⟨b, o + j, none⟩ = some (.int .u8 x) := by
    intro hk0
    cases ao with
    | none => have := (hc4 rfl).1; omega
    | some ad =>
      obtain ⟨b, o, sp⟩ := ad
      have hz : rest[0]? = some rest[0] := by simp
      have hcz := hc5 _ rfl 0 (.int .u8 rest[0]) (by simp)
      have hsp : sp = none := by simpa [Addr.add] using World.cell?_spot hcz
      subst hsp
      exact ⟨b, o, rfl, fun j x hj => by have := hc5 _ rfl j (.int .u8 x) (by simp [hj]); rwa [Addr.add_lit] at this⟩
  go_enter Try.func25, Try.ntmps25
  go_wp2_with fail
  go_loop [5, 42] (fun n i => ∃ j : Nat, i = .int .i64 j ∧ j ≤ k ∧ n = .int .u64 (ofbe (rest.take j))) (fun _ i => k - (intOf i).toNat)
  case atStart => exact ⟨0, rfl, Nat.zero_le _, rfl⟩
  case round =>
    obtain ⟨j, rfl, hj, rfl⟩ := hrel
    by_cases hjk : j < k
    · obtain ⟨b, o, rfl, hcell⟩ := hpos (by omega)
      have hjl : j < rest.length := by omega
      have hz := hcell j rest[j] (by simp)
      obtain ⟨x, hx⟩ : ∃ x, x = rest[j] := ⟨_, rfl⟩
      rw [← hx] at hz
      have hx0 : 0 ≤ x ∧ x < 256 := hx ▸ hb _ (List.getElem_mem _)
      obtain ⟨N, hN⟩ : ∃ N, N = ofbe (rest.take j) := ⟨_, rfl⟩
      rw [← hN]
      have hN0 : 0 ≤ N ∧ N < 72057594037927936 := by
        have := ofbe_bd (rest.take j) (fun y hy => hb y (List.mem_of_mem_take hy))
        rw [List.length_take, Nat.min_eq_left (by omega), ← hN] at this
        refine ⟨this.1, Int.lt_of_lt_of_le this.2 ?_⟩
        exact pow7 j (by omega)
      have Hx := Lib.hid hx
      have HN := Lib.hid hN
      clear hx hN hcell hc5 hc4 hsrc
      go_wp2
      go_round
      case rel =>
        refine ⟨j + 1, by simp, by omega, ?_⟩
        rw [or_byte N x hN0.1 hN0.2 hx0.1 hx0.2, List.take_succ_eq_append_getElem hjl, ofbe_snoc, ← HN.out, ← Hx.out]
      case measure => simp [intOf]; omega
    · obtain rfl : j = k := by omega
      have hf := free_two hR 0
      go_wp2
      all_goals go_ret
      · have hcj : c = j := by assumption
        have ho : Only w (w.setCell ⟨R, 0, none⟩ (.slice ao (rest.length - j) 0)) [R] := Only.setCell _ _ _ _ (by simp)
        have ht := (src_tail hsrc hr).1 hcj
        rw [← List.map_drop] at ht
        refine ⟨rfl, ⟨.slice ao (rest.length - j) 0, by cases ao <;> rfl, set_two0 hR, ?_, fun y hy => hb y (List.mem_of_mem_drop hy)⟩, ho⟩
        rw [List.length_drop]
        exact isr_src hR ht ho
      · have ho : Only w (w.setCell ⟨R, 0, none⟩ (.slice (ao.map (fun x => x.add j)) (rest.length - j) (c - j))) [R] := Only.setCell _ _ _ _ (by simp)
        have ht := (src_tail hsrc hr).2
        rw [← List.map_drop] at ht
        refine ⟨rfl, ⟨_, ?_, set_two0 hR, ?_, fun y hy => hb y (List.mem_of_mem_drop hy)⟩, ho⟩
        · cases ao with
          | none => rfl
          | some a => simp only [Option.map_some, Value.ownBlock, Option.some.injEq]; unfold Addr.add; split <;> rfl
        · rw [List.length_drop]
          exact isr_src hR ht ho

theorem isr_bad {T R : Nat} {p : Value} {l : List Int} {b : Bool} {w : World} (h : IsR T R p l b w) : IsR T R p l true (w.setCell ⟨R, 1, none⟩ (.bool true)) := by
  obtain ⟨h1, h2, h3⟩ := h
  obtain ⟨ao, c, rfl, _⟩ := id h2
  exact ⟨set_two1 h1, isr_src h1 h2 (Only.setCell _ _ _ [R] (by simp)), h3⟩

/-- What Num gives, and what it leaves: number, rest, fault. -/
def RN (k : Int) (l : List Int) (b : Bool) : Int × List Int × Bool :=
  if b = false ∧ 0 ≤ k ∧ k ≤ 8 ∧ k ≤ l.length then (ofbe (l.take k.toNat), l.drop k.toNat, false) else (0, l, true)

/-- A Reader behind a call: its slice may have moved on within its block. -/
def RS (R : Nat) (p : Value) (l : List Int) (b : Bool) (w w' : World) : Prop :=
  (∃ p', p'.ownBlock = p.ownBlock ∧ IsR 87 R p' l b w') ∧ Only w w' [R]

theorem rnum_any (R : Nat) (p : Value) (l : List Int) (b : Bool) (k : Int) (w : World) (h : IsR 87 R p l b w) (hl : l.length ≤ 1000000000) (hk : -9223372036854775808 ≤ k ∧ k ≤ 9223372036854775807) :
    Calls Try.prog 25 #[.pointer (some ⟨R, 0, none⟩), .int .i64 k] w fun e w' => e = .returned (.int .u64 (RN k l b).1) ∧ RS R p (RN k l b).2.1 (RN k l b).2.2 w w' := by
  by_cases hf : b = false ∧ 0 ≤ k ∧ k ≤ 8 ∧ k ≤ l.length
  · have e1 : RN k l b = (ofbe (l.take k.toNat), l.drop k.toNat, false) := if_pos hf
    obtain ⟨rfl, h0, h8, hr⟩ := hf
    obtain ⟨n, rfl⟩ := Int.eq_ofNat_of_zero_le h0
    rw [e1, Int.toNat_natCast]
    exact rnum_ok R p l n w h hl (by omega) (by omega)
  · have e1 : RN k l b = (0, l, true) := if_neg hf
    rw [e1]
    refine (rnum_fault R p l b k w h hl hk ?_).mono ?_
    · cases b
      · simp only [true_and] at hf; omega
      · exact .inl rfl
    · rintro e w' ⟨h1, h2, h3⟩
      exact ⟨h1, ⟨p, rfl, h2⟩, h3⟩

theorem RN_bd (k : Nat) (l : List Int) (b : Bool) (h : Byt l) : 0 ≤ (RN k l b).1 ∧ (RN k l b).1 < 256 ^ k ∧ (RN k l b).2.1.length ≤ l.length ∧ Byt (RN k l b).2.1 := by
  unfold RN
  have hp : (0 : Int) < 256 ^ k := Int.pow_pos (by decide)
  split
  · rename_i hc
    have := ofbe_bd (l.take k) (fun y hy => h y (List.mem_of_mem_take hy))
    rw [List.length_take, Nat.min_eq_left (by omega)] at this
    exact ⟨by simpa using this.1, by simpa using this.2, by simp, fun y hy => h y (List.mem_of_mem_drop hy)⟩
  · exact ⟨Int.le_refl _, hp, Nat.le_refl _, h⟩

/-- Flag's answer; a fault behind Flag or Count; Count's answer. -/
def FV (n : Int) : Bool := n == 1
def FB (b : Bool) (m n : Int) : Bool := b || decide (m < n)
def CV (m n : Int) : Int := if m < n then 0 else n
theorem FB_yes {b : Bool} {m n : Int} (h : m < n) : FB b m n = true := by simp [FB, h]
theorem FB_no {b : Bool} {m n : Int} (h : ¬ m < n) : FB b m n = b := by simp [FB, h]

set_option maxHeartbeats 400000 in
theorem rflag_any (R : Nat) (p : Value) (l : List Int) (b : Bool) (w : World) (h : IsR 87 R p l b w) (hl : l.length ≤ 1000000000) :
    Calls Try.prog 26 #[.pointer (some ⟨R, 0, none⟩)] w fun e w' => e = .returned (.bool (FV (RN 1 l b).1)) ∧ RS R p (RN 1 l b).2.1 (FB (RN 1 l b).2.2 1 (RN 1 l b).1) w w' := by
  have hbd := RN_bd 1 l b h.2.2
  have HN := Lib.hid (rnum_any R p l b 1 _ h hl (by decide))
  generalize RN 1 l b = r at *
  obtain ⟨n, l', b'⟩ := r
  simp only at hbd HN ⊢
  obtain ⟨hn0, hn1, hl', _⟩ := hbd
  clear h
  go_enter Try.func26, Try.ntmps26
  go_wp2_with fail
  refine HN.out.mono ?_
  rintro e w1 ⟨rfl, ⟨p', hp', hr'⟩, ho⟩
  by_cases hn : 1 < n
  · have hend : Hid (RS R p l' (FB b' 1 n) w (w1.setCell ⟨R, 1, none⟩ (.bool true))) := by
      rw [FB_yes hn]
      exact ⟨⟨p', hp', isr_bad hr'⟩, ho.step (Only.setCell _ _ _ [R] (by simp)) (fun i hi => .inl hi)⟩
    have hfin : Hid (FV n = false) := show _ = _ by simp [FV]; omega
    go_wp2_with (go_at_call 47; refine (rspoil_any R _ _ _ hr'.1).mono ?_; rintro e w' ⟨rfl, rfl⟩)
    go_ret
    exact ⟨by rw [hfin.out]; rfl, hend.out⟩
  · have hend : Hid (RS R p l' (FB b' 1 n) w w1) := by
      rw [FB_no hn]
      exact ⟨⟨p', hp', hr'⟩, ho⟩
    clear hr' ho hp'
    go_wp2
    go_ret
    exact ⟨rfl, hend.out⟩

set_option maxHeartbeats 400000 in
theorem rcount_any (R : Nat) (p : Value) (l : List Int) (b : Bool) (most : Int) (w : World) (h : IsR 87 R p l b w) (hl : l.length ≤ 1000000000) (hm : 0 ≤ most ∧ most ≤ 9223372036854775807) :
    Calls Try.prog 27 #[.pointer (some ⟨R, 0, none⟩), .int .i64 most] w fun e w' => e = .returned (.int .i64 (CV most (RN 2 l b).1)) ∧ RS R p (RN 2 l b).2.1 (FB (RN 2 l b).2.2 most (RN 2 l b).1) w w' := by
  have hbd := RN_bd 2 l b h.2.2
  have HN := Lib.hid (rnum_any R p l b 2 _ h hl (by decide))
  generalize RN 2 l b = r at *
  obtain ⟨n, l', b'⟩ := r
  simp only at hbd HN ⊢
  obtain ⟨hn0, hn1, hl', _⟩ := hbd
  clear h
  have d0 : decide (most < 0) = false := by simp; omega
  go_enter Try.func27, Try.ntmps27
  go_wp2_with fail
  refine HN.out.mono ?_
  rintro e w1 ⟨rfl, ⟨p', hp', hr'⟩, ho⟩
  by_cases hn : most < n
  · have hn' : decide (most < n) = true := by simpa using hn
    have hend : Hid (RS R p l' (FB b' most n) w (w1.setCell ⟨R, 1, none⟩ (.bool true))) := by
      rw [FB_yes hn]
      exact ⟨⟨p', hp', isr_bad hr'⟩, ho.step (Only.setCell _ _ _ [R] (by simp)) (fun i hi => .inl hi)⟩
    have hfin : Hid (CV most n = 0) := if_pos hn
    go_wp2_with (go_at_call 47; refine (rspoil_any R _ _ _ hr'.1).mono ?_; rintro e w' ⟨rfl, rfl⟩)
    go_ret
    exact ⟨by rw [hfin.out]; rfl, hend.out⟩
  · have hn' : decide (most < n) = false := by simpa using hn
    have hend : Hid (RS R p l' (FB b' most n) w w1) := by
      rw [FB_no hn]
      exact ⟨⟨p', hp', hr'⟩, ho⟩
    have hfin : Hid (CV most n = n) := if_neg hn
    clear hr' ho hp'
    go_wp2
    go_ret
    exact ⟨by rw [hfin.out]; rfl, hend.out⟩

set_option maxHeartbeats 400000 in
theorem rbad_any (R : Nat) (p : Value) (l : List Int) (b : Bool) (w : World) (h : IsR 87 R p l b w) :
    Calls Try.prog 28 #[.pointer (some ⟨R, 0, none⟩)] w fun e w' => e = .returned (.bool b) ∧ w = w' := by
  have h1 := cell_two1 h.1
  go_enter Try.func28, Try.ntmps28
  go_wp2
  go_ret
  exact ⟨rfl, rfl⟩

set_option maxHeartbeats 400000 in
theorem rend_any (R : Nat) (p : Value) (l : List Int) (b : Bool) (w : World) (h : IsR 87 R p l b w) :
    Calls Try.prog 30 #[.pointer (some ⟨R, 0, none⟩)] w fun e w' => e = .returned (.bool (!b && decide (l.length = 0))) ∧ w = w' := by
  obtain ⟨ao, c, rfl, _⟩ := id h.2.1
  have h0 := cell_two0 h.1
  cases b
  · by_cases hz : l.length = 0
    · have hz' : ((l.length : Int) == 0) = true := by simp [hz]
      go_enter Try.func30, Try.ntmps30
      go_wp2_with (go_at_call 28; refine (rbad_any R _ l _ _ h).mono ?_; rintro e w' ⟨rfl, rfl⟩)
      go_ret
      exact ⟨by simp [hz], rfl⟩
    · have hz' : ((l.length : Int) == 0) = false := by simpa using hz
      go_enter Try.func30, Try.ntmps30
      go_wp2_with (go_at_call 28; refine (rbad_any R _ l _ _ h).mono ?_; rintro e w' ⟨rfl, rfl⟩)
      go_ret
      exact ⟨by simp [hz], rfl⟩
  · go_enter Try.func30, Try.ntmps30
    go_wp2_with (go_at_call 28; refine (rbad_any R _ l _ _ h).mono ?_; rintro e w' ⟨rfl, rfl⟩)
    go_ret
    exact ⟨rfl, rfl⟩

set_option maxHeartbeats 400000 in
theorem rleft_any (R : Nat) (p : Value) (l : List Int) (b : Bool) (w : World) (h : IsR 87 R p l b w) :
    Calls Try.prog 29 #[.pointer (some ⟨R, 0, none⟩)] w fun e w' => e = .returned (.int .i64 (if b then 0 else l.length)) ∧ w = w' := by
  obtain ⟨ao, c, rfl, _⟩ := id h.2.1
  have h0 := cell_two0 h.1
  cases b
  · go_enter Try.func29, Try.ntmps29
    go_wp2_with (go_at_call 28; refine (rbad_any R _ l _ _ h).mono ?_; rintro e w' ⟨rfl, rfl⟩)
    go_ret
    exact ⟨rfl, rfl⟩
  · go_enter Try.func29, Try.ntmps29
    go_wp2_with (go_at_call 28; refine (rbad_any R _ l _ _ h).mono ?_; rintro e w' ⟨rfl, rfl⟩)
    go_ret
    exact ⟨rfl, rfl⟩

theorem rread_any (ao : Option Addr) (n c : Nat) (w : World) :
    Calls Try.prog 16 #[.slice ao n c] w fun e w' => e = .returned (.pointer (some ⟨w.heap.size, 0, none⟩)) ∧ w' = w.alloc (.cells #[.slice ao n c, .bool false] 87) := by
  go_enter Try.func16, Try.ntmps16
  go_wp2
  go_ret
  exact ⟨rfl, rfl⟩

/-- A Reader whose slice has moved on by k. -/
theorem isr_adv {T R : Nat} {ao : Option Addr} {c k : Nat} {l : List Int} {b : Bool} {w1 w2 : World} {v' : Value} (hr : IsR T R (.slice ao l.length c) l b w1) (h12 : Only w1 w2 []) (hk : k ≤ l.length)
    (hv : (c = k ∧ v' = .slice ao (l.length - k) 0) ∨ v' = .slice (ao.map (fun x => x.add k)) (l.length - k) (c - k)) :
    v'.ownBlock = (Value.slice ao l.length c).ownBlock ∧ IsR T R v' (l.drop k) b (w2.setCell ⟨R, 0, none⟩ v') ∧ Only w1 (w2.setCell ⟨R, 0, none⟩ v') [R] := by
  obtain ⟨hR, hsrc, hb⟩ := hr
  have ho : Only w1 (w2.setCell ⟨R, 0, none⟩ v') [R] := Only.trans (h12.mono (by simp)) (Only.setCell _ _ _ _ (by simp))
  have hst := src_tail hsrc hk
  have hs : Src w1 v' 1 (l.drop k).length ((l.drop k).map (Value.int .u8)) := by
    rw [List.length_drop, List.map_drop]
    rcases hv with ⟨h, rfl⟩ | rfl
    · exact hst.1 h
    · exact hst.2
  refine ⟨?_, ⟨set_two0 (h12.at hR (by simp)), isr_src hR hs ho, fun y hy => hb y (List.mem_of_mem_drop hy)⟩, ho⟩
  rcases hv with ⟨h, rfl⟩ | rfl
  · cases ao <;> rfl
  · cases ao with
    | none => rfl
    | some a => simp only [Option.map_some, Value.ownBlock, Option.some.injEq]; unfold Addr.add; split <;> rfl

/-- The fault behind Bytes, the bytes that it gives, the rest. -/
def BF (b : Bool) (most n : Int) (len : Nat) : Bool := b || decide (most < 0) || decide (most < n) || decide ((len : Int) < n)
def BV (f : Bool) (n : Int) (l : List Int) : List Int := if f then [] else l.take n.toNat
def BR (f : Bool) (n : Int) (l : List Int) : List Int := if f then l else l.drop n.toNat

/-- What Bytes leaves: its answer is the call's own. -/
def RBy (R : Nat) (p : Value) (f : Bool) (n : Int) (l : List Int) (w : World) (e : Ending) (w' : World) : Prop :=
  ∃ v, e = .returned v ∧ w'.ownsRow 0 5 1 v (BV f n l).length ((BV f n l).map (Value.int .u8)) ∧ SoN w (.slice none 0 0) v ∧ RS R p (BR f n l) f w w'

theorem rby_bad {R : Nat} {p p' : Value} {f b' : Bool} {n : Int} {l' : List Int} {w w1 : World} (hf : f = true) (hp' : p'.ownBlock = p.ownBlock) (hr : IsR 87 R p' l' b' w1) (ho : Only w w1 [R]) :
    RBy R p f n l' w (.returned (.slice none 0 0)) (w1.setCell ⟨R, 1, none⟩ (.bool true)) := by
  subst hf
  exact ⟨_, rfl, World.ownsRow_nil _ _ _ _, fun _ h => by simp [Value.ownBlock] at h, ⟨⟨p', hp', isr_bad hr⟩, ho.step (Only.setCell _ _ _ [R] (by simp)) (fun i hi => .inl hi)⟩⟩

theorem rby_good {R m : Nat} {p p' v u x y : Value} {l' : List Int} {w w1 w2 : World} (hp' : p'.ownBlock = p.ownBlock) (ho : Only w w1 [R]) (hm : m ≤ l'.length)
    (g1 : w2.ownsRow 0 5 1 v m ((l'.take m).map (Value.int .u8))) (g3 : SoN w1 (.slice none 0 0) v) (hR2 : w2.heap[R]? = some (.cells #[x, y] 87 (0, 0)))
    (q1 : u.ownBlock = p'.ownBlock) (q2 : IsR 87 R u (l'.drop m) false (w2.setCell ⟨R, 0, none⟩ u)) (q3 : Only w1 (w2.setCell ⟨R, 0, none⟩ u) [R]) :
    RBy R p false m l' w (.returned v) (w2.setCell ⟨R, 0, none⟩ u) := by
  refine ⟨v, rfl, ?_, g3.weaken ho.size, ⟨⟨u, q1.trans hp', ?_⟩, ho.trans q3⟩⟩
  · rw [show BV false (m : Int) l' = l'.take m by simp [BV]]
    have := ownsRow_setCell_other g1 (a := ⟨R, 0, none⟩) (own_ne g1 hR2 (by decide)) u
    rwa [show (l'.take m).length = m by simp [hm]]
  · rw [show BR false (m : Int) l' = l'.drop m by simp [BR]]
    exact q2

set_option maxRecDepth 100000 in
set_option maxHeartbeats 800000 in
theorem rbytes_any (R : Nat) (p : Value) (l : List Int) (b : Bool) (most : Int) (w : World) (h : IsR 87 R p l b w) (hl : l.length ≤ 1000000000) (hm : -9223372036854775808 ≤ most ∧ most ≤ 9223372036854775807) :
    Calls Try.prog 17 #[.pointer (some ⟨R, 0, none⟩), .int .i64 most] w (RBy R p (BF (RN 4 l b).2.2 most (RN 4 l b).1 (RN 4 l b).2.1.length) (RN 4 l b).1 (RN 4 l b).2.1 w) := by
  obtain ⟨i0, hi, hz0, hz1, hz2⟩ := info_parts Try.info5
  have hbd := RN_bd 4 l b h.2.2
  have HN := Lib.hid (rnum_any R p l b 4 _ h hl (by decide))
  generalize RN 4 l b = r at *
  obtain ⟨n, l', b'⟩ := r
  simp only at hbd HN ⊢
  obtain ⟨hn0, hn1, hl', hby'⟩ := hbd
  obtain ⟨m, rfl⟩ := Int.eq_ofNat_of_zero_le hn0
  have hn2 : m < 4294967296 := by omega
  clear h hn1
  go_enter Try.func17, Try.ntmps17
  go_wp2_with fail
  refine HN.out.mono ?_
  rintro e w1 ⟨rfl, ⟨p', hp', hr'⟩, ho⟩
  obtain ⟨ao, c, rfl, hc1, hc2, _⟩ := id hr'.2.1
  have h0 := cell_two0 hr'.1
  have h1 := cell_two1 hr'.1
  have hf := free_two hr'.1 0
  have hbb : b' = true ∨ b' = false := by cases b' <;> simp
  rcases hbb with rfl | rfl
  · have hend := Lib.hid (rby_bad (f := BF true most m l'.length) (n := m) (by simp [BF]) hp' hr' ho)
    go_wp2_with (go_at_call 47; refine (rspoil_any R _ _ _ hr'.1).mono ?_; rintro e w' ⟨rfl, rfl⟩)
    go_ret
    exact hend.out
  · by_cases k0 : most < 0
    · have d0 : decide (most < 0) = true := by simpa using k0
      have hend := Lib.hid (rby_bad (f := BF false most m l'.length) (n := m) (by simp [BF, k0]) hp' hr' ho)
      go_wp2_with (go_at_call 47; refine (rspoil_any R _ _ _ hr'.1).mono ?_; rintro e w' ⟨rfl, rfl⟩)
      go_ret
      exact hend.out
    · have d0 : decide (most < 0) = false := by simpa using k0
      by_cases k1 : most < m
      · have d1 : decide (most < (m : Int)) = true := by simpa using k1
        have hend := Lib.hid (rby_bad (f := BF false most m l'.length) (n := m) (by simp [BF, k1]) hp' hr' ho)
        go_wp2_with (go_at_call 47; refine (rspoil_any R _ _ _ hr'.1).mono ?_; rintro e w' ⟨rfl, rfl⟩)
        go_ret
        exact hend.out
      · have d1 : decide (most < (m : Int)) = false := by simpa using k1
        by_cases k2 : l'.length < m
        · have d2 : decide ((l'.length : Int) < (m : Int)) = true := by simpa using k2
          have hend := Lib.hid (rby_bad (f := BF false most m l'.length) (n := m) (by simp [BF, k2]) hp' hr' ho)
          go_wp2_with (go_at_call 47; refine (rspoil_any R _ _ _ hr'.1).mono ?_; rintro e w' ⟨rfl, rfl⟩)
          go_ret
          exact hend.out
        · have d2 : decide ((l'.length : Int) < (m : Int)) = false := by simpa using k2
          have hBF : Hid (BF false most m l'.length = false) := show _ = _ by simp only [BF, d0, d1, d2, Bool.or_false]
          have hsrc0 := src_take hr'.2.1 (Nat.le_of_not_lt k2)
          rw [← List.map_take] at hsrc0
          have hsrc := Lib.hid hsrc0
          have hm9 : m ≤ 1000000000 := by omega
          clear hsrc0 hn2
          have hm0 : 0 ≤ most := by omega
          have hm1 := hm.2
          go_wp2_with (at_builtin; refine wpList_append_src rfl _ _ 22 rfl 5 i0 (.int .u8 0) 1 1 Try.underlying22 hi hz0 hz1 hz2 rfl (by decide) (.slice none 0 0) 0 [] rfl (World.ownsRow_nil _ _ _ _) _ m _ rfl hsrc.out (one_ints _ _) (by unfold maxLen; omega) (by omega) ?_; intro v' w2 g1 g2 g3; simp only [Nat.zero_add, List.nil_append] at g1; obtain ⟨ao', cc', rfl⟩ := own_slice g1; have hR2 := (Only.grown (L := []) g2 (by simp [Value.ownBlock])).at hr'.1 (by simp); have h0' := cell_two0 hR2; have hf' := free_two hR2 0)
          all_goals go_ret
          all_goals rw [hBF.out]
          · have hcm : c = m := by assumption
            obtain ⟨q1, q2, q3⟩ := isr_adv hr' (Only.grown (L := []) g2 (by simp [Value.ownBlock])) (Nat.le_of_not_lt k2) (.inl ⟨hcm, rfl⟩)
            exact rby_good hp' ho (Nat.le_of_not_lt k2) g1 g3 hR2 q1 q2 q3
          · obtain ⟨q1, q2, q3⟩ := isr_adv hr' (Only.grown (L := []) g2 (by simp [Value.ownBlock])) (Nat.le_of_not_lt k2) (.inr rfl)
            exact rby_good hp' ho (Nat.le_of_not_lt k2) g1 g3 hR2 q1 q2 q3
end Go.Proofs.Ytemlpjfngaemdaa
