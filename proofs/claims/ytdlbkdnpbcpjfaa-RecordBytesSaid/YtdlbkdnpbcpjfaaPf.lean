/- Several texts in one: WireR, WireW, WireP, Ref09, Ref09b. -/
import Derived.Test.YtdlbkdnpbcpjfaaRows
import Derived.Test.YtdlbkdnpbcpjfaaPa
import Derived.Deep.RegionHeld3
set_option linter.unusedSimpArgs false
set_option linter.unusedVariables false
/- The contracts of the Reader of layer 9 (wire): Num, Flag, Count, Bytes, Bad, End, Left at every state of a Reader of fewer than 1000000001 bytes. -/
namespace Go.Proofs.Ytdlbkdnpbcpjfaa
open Go.RowKit Go.Pw
set_option linter.unusedVariables false
set_option maxRecDepth 100000

/-- Bytes: numbers from 0 to 255. -/
def Byt (l : List Int) : Prop := ∀ x ∈ l, 0 ≤ x ∧ x < 256

/-- The number that some bytes are, the highest first. -/
def ofbe (l : List Int) : Int := l.foldl (fun a b => a * 256 + b) 0

theorem ofbe_snoc (l : List Int) (x : Int) : ofbe (l ++ [x]) = ofbe l * 256 + x := by simp [ofbe, List.foldl_append]

theorem ofbe_from (l : List Int) (h : Byt l) : ∀ a : Int, 0 ≤ a → a * 256 ^ l.length ≤ l.foldl (fun a b => a * 256 + b) a ∧ l.foldl (fun a b => a * 256 + b) a < (a + 1) * 256 ^ l.length := by
  induction l with
  | nil => intro a _; simp; omega
  | cons x l ih =>
    intro a ha
    have h2 := h x (by simp)
    have h1 := ih (fun y hy => h y (by simp [hy])) (a * 256 + x) (by omega)
    have hp : (0 : Int) ≤ 256 ^ l.length := Int.pow_nonneg (by decide)
    simp only [List.foldl_cons, List.length_cons, Int.pow_succ]
    constructor
    · refine Int.le_trans ?_ h1.1
      have : (a * 256) * 256 ^ l.length ≤ (a * 256 + x) * 256 ^ l.length := Int.mul_le_mul_of_nonneg_right (by omega) hp
      rw [Int.mul_assoc, Int.mul_comm 256] at this
      exact this
    · refine Int.lt_of_lt_of_le h1.2 ?_
      have : (a * 256 + x + 1) * 256 ^ l.length ≤ ((a + 1) * 256) * 256 ^ l.length := Int.mul_le_mul_of_nonneg_right (by omega) hp
      rw [Int.mul_assoc (a + 1), Int.mul_comm 256] at this
      exact this

theorem ofbe_bd (l : List Int) (h : Byt l) : 0 ≤ ofbe l ∧ ofbe l < 256 ^ l.length := by
  have := ofbe_from l h 0 (by decide)
  simpa [ofbe] using this

theorem pow7 (j : Nat) (h : j ≤ 7) : (256 : Int) ^ j ≤ 72057594037927936 := by
  have : j = 0 ∨ j = 1 ∨ j = 2 ∨ j = 3 ∨ j = 4 ∨ j = 5 ∨ j = 6 ∨ j = 7 := by omega
  rcases this with rfl | rfl | rfl | rfl | rfl | rfl | rfl | rfl <;> decide

theorem or_byte (N x : Int) (h0 : 0 ≤ N) (h1 : N < 72057594037927936) (h2 : 0 ≤ x) (h3 : x < 256) : bits .or .u64 (N * 256) x = N * 256 + x := by
  rw [u64_or _ _ (by omega) (by omega) h2 (by omega)]
  have := Nat.two_pow_add_eq_or_of_lt (i := 8) (b := x.toNat) (by omega) N.toNat
  have e : (N * 256).toNat = 2 ^ 8 * N.toNat := by omega
  rw [e, ← this]
  omega

/-- A Reader: block R holds its two fields. -/
def IsR (T R : Nat) (p : Value) (rest : List Int) (bad : Bool) (w : World) : Prop :=
  w.heap[R]? = some (.cells #[p, .bool bad] T (0, 0)) ∧ Src w p 1 rest.length (rest.map (Value.int .u8)) ∧ Byt rest

theorem cell_two0 {w : World} {b : Nat} {u v : Value} {t : TypeId} (h : w.heap[b]? = some (.cells #[u, v] t (0, 0))) : w.cell? ⟨b, 0, none⟩ = some u := by simp [World.cell?, h]
theorem cell_two1 {w : World} {b : Nat} {u v : Value} {t : TypeId} (h : w.heap[b]? = some (.cells #[u, v] t (0, 0))) : w.cell? ⟨b, 1, none⟩ = some v := by simp [World.cell?, h]
theorem free_two {w : World} {b : Nat} {u v : Value} {t : TypeId} (h : w.heap[b]? = some (.cells #[u, v] t (0, 0))) (i : Nat) : w.frozen? ⟨b, i, none⟩ = false := by simp [World.frozen?, h]
theorem set_two0 {w : World} {b : Nat} {u v x : Value} {t : TypeId} (h : w.heap[b]? = some (.cells #[u, v] t (0, 0))) : (w.setCell ⟨b, 0, none⟩ x).heap[b]? = some (.cells #[x, v] t (0, 0)) := by
  have hlt := lt_of_block h
  have h' : w.heap[b] = .cells #[u, v] t (0, 0) := by simpa [Array.getElem?_eq_getElem hlt] using h
  show (w.heap.modify b _)[b]? = _
  rw [Array.getElem?_eq_getElem (by simpa using hlt), Array.getElem_modify_self, h']
  rfl
theorem set_two1 {w : World} {b : Nat} {u v x : Value} {t : TypeId} (h : w.heap[b]? = some (.cells #[u, v] t (0, 0))) : (w.setCell ⟨b, 1, none⟩ x).heap[b]? = some (.cells #[u, x] t (0, 0)) := by
  have hlt := lt_of_block h
  have h' : w.heap[b] = .cells #[u, v] t (0, 0) := by simpa [Array.getElem?_eq_getElem hlt] using h
  show (w.heap.modify b _)[b]? = _
  rw [Array.getElem?_eq_getElem (by simpa using hlt), Array.getElem_modify_self, h']
  rfl

theorem Try.info5 : (Try.prog.info? 5).map (fun i => (i.zero, i.size, i.bytes)) = some (some (.int .u8 0), 1, 1) := by kernel_rfl

set_option maxHeartbeats 400000 in
theorem rspoil_any (R : Nat) (u : Value) (bad : Bool) (w : World) (h : w.heap[R]? = some (.cells #[u, .bool bad] 131 (0, 0))) :
    Calls Try.prog 72 #[.pointer (some ⟨R, 0, none⟩)] w fun e w' => e = .returned (.tuple #[]) ∧ w' = w.setCell ⟨R, 1, none⟩ (.bool true) := by
  have h1 := cell_two1 h
  have h2 := free_two h 1
  go_enter Try.func72, Try.ntmps72
  go_wp2
  go_end0
  exact ⟨rfl, rfl⟩

set_option maxHeartbeats 400000 in
theorem rspoil_nil (w : World) :
    Calls Try.prog 72 #[.pointer none] w fun e w' => e = .returned (.tuple #[]) ∧ w' = w := by
  go_enter Try.func72, Try.ntmps72
  go_wp2
  go_end0
  exact ⟨rfl, rfl⟩

theorem Src.only' {w w' : World} {x : Value} {size m : Nat} {news : List Value} {L : List Nat} (h : Src w x size m news) (ho : Only w w' L) (ha : ∀ k ∈ L, ∀ i u, w.cell? ⟨k, i, none⟩ = some u → u ∉ news) : Src w' x size m news := by
  obtain ⟨ao, c, rfl, h1, h2, h3, h4, h5⟩ := h
  refine ⟨ao, c, rfl, h1, h2, h3, h4, fun b hb j u hj => ?_⟩
  have hc := h5 b hb j u hj
  have hsp := World.cell?_spot hc
  refine (World.cell?_of_block (w := w) (ho.block _ (World.block_lt_of_cell? w _ hc) ?_)).trans hc
  intro hm
  refine ha _ hm (b.add j).off u ?_ (List.mem_of_getElem? hj)
  rw [show (⟨(b.add j).block, (b.add j).off, none⟩ : Addr) = b.add j by rw [← hsp]]
  exact hc

theorem src_tail {w : World} {ao : Option Addr} {n c k : Nat} {cs : List Value} (h : Src w (.slice ao n c) 1 n cs) (hk : k ≤ n) :
    (c = k → Src w (.slice ao (n - k) 0) 1 (n - k) (cs.drop k)) ∧ Src w (.slice (ao.map (fun x => x.add k)) (n - k) (c - k)) 1 (n - k) (cs.drop k) := by
  obtain ⟨ao', c', he, h1, h2, h3, h4, h5⟩ := h
  simp only [Value.slice.injEq] at he
  obtain ⟨rfl, _, rfl⟩ := he
  constructor
  · rintro rfl
    have e : n - c = 0 := by omega
    refine ⟨ao, 0, rfl, by omega, Nat.zero_le _, by simp [h3], fun _ => ⟨e, rfl⟩, fun b hb j u hj => ?_⟩
    simp at hj
    have := List.length_drop (i := c) (l := cs)
    have hn := (List.getElem?_eq_some_iff.1 hj).1
    omega
  · refine ⟨_, c - k, rfl, by omega, by omega, by simp [h3], fun hn => ?_, fun b hb j u hj => ?_⟩
    · have := h4 (by simpa using hn); omega
    · cases ao with
      | none => simp at hb
      | some a =>
        obtain rfl : b = a.add k := by simpa using hb.symm
        rw [List.getElem?_drop] at hj
        have := h5 a rfl (k + j) u hj
        have e : (a.add k).add j = a.add (k + j) := by
          unfold Addr.add
          split <;> split <;> (try split) <;> simp_all <;> omega
        rw [e]; exact this

theorem src_take {w : World} {ao : Option Addr} {n c k : Nat} {cs : List Value} (h : Src w (.slice ao n c) 1 n cs) (hk : k ≤ n) : Src w (.slice ao k c) 1 k (cs.take k) := by
  obtain ⟨ao', c', he, h1, h2, h3, h4, h5⟩ := h
  simp only [Value.slice.injEq] at he
  obtain ⟨rfl, _, rfl⟩ := he
  refine ⟨ao, c, rfl, by omega, h2, by simp [h3]; omega, fun hn => ?_, fun b hb j u hj => ?_⟩
  · have := h4 hn; exact ⟨by omega, this.2⟩
  · rw [List.getElem?_take] at hj
    split at hj
    · exact h5 b hb j u hj
    · cases hj

theorem cells_two {w : World} {b : Nat} {u v : Value} {t : TypeId} (h : w.heap[b]? = some (.cells #[u, v] t (0, 0))) : ∀ i x, w.cell? ⟨b, i, none⟩ = some x → x = u ∨ x = v := by
  intro i x hx
  simp [World.cell?, h] at hx
  match i, hx with
  | 0, hx => left; simpa using hx.symm
  | 1, hx => right; simpa using hx.symm
  | i + 2, hx => simp at hx

/-- A Reader's slice reads as it did while the Reader's own block is written. -/
theorem isr_src {T R : Nat} {ao : Option Addr} {n c : Nat} {rest : List Int} {bad : Bool} {w w' : World} {x : Value} {m : Nat} (hR : w.heap[R]? = some (.cells #[.slice ao n c, .bool bad] T (0, 0))) (h : Src w x 1 m (rest.map (Value.int .u8))) (ho : Only w w' [R]) : Src w' x 1 m (rest.map (Value.int .u8)) := by
  refine Src.only' h ho fun k hk i u hu hm => ?_
  obtain rfl : k = R := by simpa using hk
  obtain ⟨y, _, rfl⟩ := List.mem_map.1 hm
  rcases cells_two hR i _ hu with h | h <;> simp at h

set_option maxHeartbeats 800000 in
theorem rnum_fault (R : Nat) (p : Value) (rest : List Int) (bad : Bool) (k : Int) (w : World) (h : IsR 131 R p rest bad w) (hl : rest.length ≤ 1000000000) (hk : -9223372036854775808 ≤ k ∧ k ≤ 9223372036854775807) (hf : bad = true ∨ k < 0 ∨ 8 < k ∨ (rest.length : Int) < k) :
    Calls Try.prog 50 #[.pointer (some ⟨R, 0, none⟩), .int .i64 k] w fun e w' => e = .returned (.int .u64 0) ∧ IsR 131 R p rest true w' ∧ Only w w' [R] := by
  obtain ⟨hR, hsrc, hb⟩ := h
  obtain ⟨ao, c, rfl, _, _⟩ := id hsrc
  have h0 := cell_two0 hR
  have h1 := cell_two1 hR
  have hbad : bad = true ∨ bad = false := by cases bad <;> simp
  have hon : Only w (w.setCell ⟨R, 1, none⟩ (.bool true)) [R] := Only.setCell _ _ _ _ (by simp)
  have hend : Hid (IsR 131 R (.slice ao rest.length c) rest true (w.setCell ⟨R, 1, none⟩ (.bool true)) ∧ Only w (w.setCell ⟨R, 1, none⟩ (.bool true)) [R]) :=
    ⟨⟨set_two1 hR, isr_src hR hsrc hon, hb⟩, hon⟩
  rcases hbad with rfl | rfl
  · go_enter Try.func50, Try.ntmps50
    go_wp2_with (go_at_call 72; refine (rspoil_any R _ _ _ hR).mono ?_; rintro e w' ⟨rfl, rfl⟩)
    go_ret
    exact ⟨rfl, hend.out⟩
  · by_cases k0 : k < 0
    · have d0 : decide (k < 0) = true := by simpa using k0
      go_enter Try.func50, Try.ntmps50
      go_wp2_with (go_at_call 72; refine (rspoil_any R _ _ _ hR).mono ?_; rintro e w' ⟨rfl, rfl⟩)
      go_ret
      exact ⟨rfl, hend.out⟩
    · have d0 : decide (k < 0) = false := by simpa using k0
      by_cases k8 : 8 < k
      · have d8 : decide (8 < k) = true := by simpa using k8
        go_enter Try.func50, Try.ntmps50
        go_wp2_with (go_at_call 72; refine (rspoil_any R _ _ _ hR).mono ?_; rintro e w' ⟨rfl, rfl⟩)
        go_ret
        exact ⟨rfl, hend.out⟩
      · have d8 : decide (8 < k) = false := by simpa using k8
        have hlk : (rest.length : Int) < k := by rcases hf with h | h | h | h; simp at h; omega; omega; exact h
        have dl : decide ((rest.length : Int) < k) = true := by simpa using hlk
        go_enter Try.func50, Try.ntmps50
        go_wp2_with (go_at_call 72; refine (rspoil_any R _ _ _ hR).mono ?_; rintro e w' ⟨rfl, rfl⟩)
        go_ret
        exact ⟨rfl, hend.out⟩

set_option maxHeartbeats 800000 in
theorem rnum_ok (R : Nat) (p : Value) (rest : List Int) (k : Nat) (w : World) (h : IsR 131 R p rest false w) (hl : rest.length ≤ 1000000000) (hk : k ≤ 8) (hr : k ≤ rest.length) :
    Calls Try.prog 50 #[.pointer (some ⟨R, 0, none⟩), .int .i64 k] w fun e w' => e = .returned (.int .u64 (ofbe (rest.take k))) ∧ (∃ p', p'.ownBlock = p.ownBlock ∧ IsR 131 R p' (rest.drop k) false w') ∧ Only w w' [R] := by
  obtain ⟨hR, hsrc, hb⟩ := h
  obtain ⟨ao, c, rfl, hc1, hc2, hc3, hc4, hc5⟩ := id hsrc
  have h0 := cell_two0 hR
  have h1 := cell_two1 hR
  have d0 : decide ((k : Int) < 0) = false := by simp
  have d8 : decide (8 < (k : Int)) = false := by simp; omega
  have dl : decide ((rest.length : Int) < k) = false := by simp; omega
  have hpos : 0 < k → ∃ b o, ao = some ⟨b, o, none⟩ ∧ ∀ j x, rest[j]? = some x → w.cell? ⟨b, o + j, none⟩ = some (.int .u8 x) := by
    intro hk0
    cases ao with
    | none => have := (hc4 rfl).1; omega
    | some ad =>
      obtain ⟨b, o, sp⟩ := ad
      have hz : rest[0]? = some rest[0] := by simp
      have hcz := hc5 _ rfl 0 (.int .u8 rest[0]) (by simp)
      have hsp : sp = none := by simpa [Addr.add] using World.cell?_spot hcz
      subst hsp
      exact ⟨b, o, rfl, fun j x hj => by have := hc5 _ rfl j (.int .u8 x) (by simp [hj]); rwa [Addr.add_lit] at this⟩
  go_enter Try.func50, Try.ntmps50
  go_wp2_with fail
  go_loop [5, 42] (fun n i => ∃ j : Nat, i = .int .i64 j ∧ j ≤ k ∧ n = .int .u64 (ofbe (rest.take j))) (fun _ i => k - (intOf i).toNat)
  case atStart => exact ⟨0, rfl, Nat.zero_le _, rfl⟩
  case round =>
    obtain ⟨j, rfl, hj, rfl⟩ := hrel
    by_cases hjk : j < k
    · obtain ⟨b, o, rfl, hcell⟩ := hpos (by omega)
      have hjl : j < rest.length := by omega
      have hz := hcell j rest[j] (by simp)
      obtain ⟨x, hx⟩ : ∃ x, x = rest[j] := ⟨_, rfl⟩
      rw [← hx] at hz
      have hx0 : 0 ≤ x ∧ x < 256 := hx ▸ hb _ (List.getElem_mem _)
      obtain ⟨N, hN⟩ : ∃ N, N = ofbe (rest.take j) := ⟨_, rfl⟩
      rw [← hN]
      have hN0 : 0 ≤ N ∧ N < 72057594037927936 := by
        have := ofbe_bd (rest.take j) (fun y hy => hb y (List.mem_of_mem_take hy))
        rw [List.length_take, Nat.min_eq_left (by omega), ← hN] at this
        refine ⟨this.1, Int.lt_of_lt_of_le this.2 ?_⟩
        exact pow7 j (by omega)
      have Hx := Lib.hid hx
      have HN := Lib.hid hN
      clear hx hN hcell hc5 hc4 hsrc
      go_wp2
      go_round
      case rel =>
        refine ⟨j + 1, by simp, by omega, ?_⟩
        rw [or_byte N x hN0.1 hN0.2 hx0.1 hx0.2, List.take_succ_eq_append_getElem hjl, ofbe_snoc, ← HN.out, ← Hx.out]
      case measure => simp [intOf]; omega
    · obtain rfl : j = k := by omega
      have hf := free_two hR 0
      go_wp2
      all_goals go_ret
      · have hcj : c = j := by assumption
        have ho : Only w (w.setCell ⟨R, 0, none⟩ (.slice ao (rest.length - j) 0)) [R] := Only.setCell _ _ _ _ (by simp)
        have ht := (src_tail hsrc hr).1 hcj
        rw [← List.map_drop] at ht
        refine ⟨rfl, ⟨.slice ao (rest.length - j) 0, by cases ao <;> rfl, set_two0 hR, ?_, fun y hy => hb y (List.mem_of_mem_drop hy)⟩, ho⟩
        rw [List.length_drop]
        exact isr_src hR ht ho
      · have ho : Only w (w.setCell ⟨R, 0, none⟩ (.slice (ao.map (fun x => x.add j)) (rest.length - j) (c - j))) [R] := Only.setCell _ _ _ _ (by simp)
        have ht := (src_tail hsrc hr).2
        rw [← List.map_drop] at ht
        refine ⟨rfl, ⟨_, ?_, set_two0 hR, ?_, fun y hy => hb y (List.mem_of_mem_drop hy)⟩, ho⟩
        · cases ao with
          | none => rfl
          | some a => simp only [Option.map_some, Value.ownBlock, Option.some.injEq]; unfold Addr.add; split <;> rfl
        · rw [List.length_drop]
          exact isr_src hR ht ho

theorem isr_bad {T R : Nat} {p : Value} {l : List Int} {b : Bool} {w : World} (h : IsR T R p l b w) : IsR T R p l true (w.setCell ⟨R, 1, none⟩ (.bool true)) := by
  obtain ⟨h1, h2, h3⟩ := h
  obtain ⟨ao, c, rfl, _⟩ := id h2
  exact ⟨set_two1 h1, isr_src h1 h2 (Only.setCell _ _ _ [R] (by simp)), h3⟩

/-- What Num gives, and what it leaves: number, rest, fault. -/
def RN (k : Int) (l : List Int) (b : Bool) : Int × List Int × Bool :=
  if b = false ∧ 0 ≤ k ∧ k ≤ 8 ∧ k ≤ l.length then (ofbe (l.take k.toNat), l.drop k.toNat, false) else (0, l, true)

/-- A Reader behind a call: its slice may have moved on within its block. -/
def RS (R : Nat) (p : Value) (l : List Int) (b : Bool) (w w' : World) : Prop :=
  (∃ p', p'.ownBlock = p.ownBlock ∧ IsR 131 R p' l b w') ∧ Only w w' [R]

theorem rnum_any (R : Nat) (p : Value) (l : List Int) (b : Bool) (k : Int) (w : World) (h : IsR 131 R p l b w) (hl : l.length ≤ 1000000000) (hk : -9223372036854775808 ≤ k ∧ k ≤ 9223372036854775807) :
    Calls Try.prog 50 #[.pointer (some ⟨R, 0, none⟩), .int .i64 k] w fun e w' => e = .returned (.int .u64 (RN k l b).1) ∧ RS R p (RN k l b).2.1 (RN k l b).2.2 w w' := by
  by_cases hf : b = false ∧ 0 ≤ k ∧ k ≤ 8 ∧ k ≤ l.length
  · have e1 : RN k l b = (ofbe (l.take k.toNat), l.drop k.toNat, false) := if_pos hf
    obtain ⟨rfl, h0, h8, hr⟩ := hf
    obtain ⟨n, rfl⟩ := Int.eq_ofNat_of_zero_le h0
    rw [e1, Int.toNat_natCast]
    exact rnum_ok R p l n w h hl (by omega) (by omega)
  · have e1 : RN k l b = (0, l, true) := if_neg hf
    rw [e1]
    refine (rnum_fault R p l b k w h hl hk ?_).mono ?_
    · cases b
      · simp only [true_and] at hf; omega
      · exact .inl rfl
    · rintro e w' ⟨h1, h2, h3⟩
      exact ⟨h1, ⟨p, rfl, h2⟩, h3⟩

theorem RN_bd (k : Nat) (l : List Int) (b : Bool) (h : Byt l) : 0 ≤ (RN k l b).1 ∧ (RN k l b).1 < 256 ^ k ∧ (RN k l b).2.1.length ≤ l.length ∧ Byt (RN k l b).2.1 := by
  unfold RN
  have hp : (0 : Int) < 256 ^ k := Int.pow_pos (by decide)
  split
  · rename_i hc
    have := ofbe_bd (l.take k) (fun y hy => h y (List.mem_of_mem_take hy))
    rw [List.length_take, Nat.min_eq_left (by omega)] at this
    exact ⟨by simpa using this.1, by simpa using this.2, by simp, fun y hy => h y (List.mem_of_mem_drop hy)⟩
  · exact ⟨Int.le_refl _, hp, Nat.le_refl _, h⟩

/-- Flag's answer; a fault behind Flag or Count; Count's answer. -/
def FV (n : Int) : Bool := n == 1
def FB (b : Bool) (m n : Int) : Bool := b || decide (m < n)
def CV (m n : Int) : Int := if m < n then 0 else n
theorem FB_yes {b : Bool} {m n : Int} (h : m < n) : FB b m n = true := by simp [FB, h]
theorem FB_no {b : Bool} {m n : Int} (h : ¬ m < n) : FB b m n = b := by simp [FB, h]

set_option maxHeartbeats 400000 in
theorem rflag_any (R : Nat) (p : Value) (l : List Int) (b : Bool) (w : World) (h : IsR 131 R p l b w) (hl : l.length ≤ 1000000000) :
    Calls Try.prog 52 #[.pointer (some ⟨R, 0, none⟩)] w fun e w' => e = .returned (.bool (FV (RN 1 l b).1)) ∧ RS R p (RN 1 l b).2.1 (FB (RN 1 l b).2.2 1 (RN 1 l b).1) w w' := by
  have hbd := RN_bd 1 l b h.2.2
  have HN := Lib.hid (rnum_any R p l b 1 _ h hl (by decide))
  generalize RN 1 l b = r at *
  obtain ⟨n, l', b'⟩ := r
  simp only at hbd HN ⊢
  obtain ⟨hn0, hn1, hl', _⟩ := hbd
  clear h
  go_enter Try.func52, Try.ntmps52
  go_wp2_with fail
  refine HN.out.mono ?_
  rintro e w1 ⟨rfl, ⟨p', hp', hr'⟩, ho⟩
  by_cases hn : 1 < n
  · have hend : Hid (RS R p l' (FB b' 1 n) w (w1.setCell ⟨R, 1, none⟩ (.bool true))) := by
      rw [FB_yes hn]
      exact ⟨⟨p', hp', isr_bad hr'⟩, ho.step (Only.setCell _ _ _ [R] (by simp)) (fun i hi => .inl hi)⟩
    have hfin : Hid (FV n = false) := show _ = _ by simp [FV]; omega
    go_wp2_with (go_at_call 72; refine (rspoil_any R _ _ _ hr'.1).mono ?_; rintro e w' ⟨rfl, rfl⟩)
    go_ret
    exact ⟨by rw [hfin.out]; rfl, hend.out⟩
  · have hend : Hid (RS R p l' (FB b' 1 n) w w1) := by
      rw [FB_no hn]
      exact ⟨⟨p', hp', hr'⟩, ho⟩
    clear hr' ho hp'
    go_wp2
    go_ret
    exact ⟨rfl, hend.out⟩

set_option maxHeartbeats 400000 in
theorem rcount_any (R : Nat) (p : Value) (l : List Int) (b : Bool) (most : Int) (w : World) (h : IsR 131 R p l b w) (hl : l.length ≤ 1000000000) (hm : 0 ≤ most ∧ most ≤ 9223372036854775807) :
    Calls Try.prog 49 #[.pointer (some ⟨R, 0, none⟩), .int .i64 most] w fun e w' => e = .returned (.int .i64 (CV most (RN 2 l b).1)) ∧ RS R p (RN 2 l b).2.1 (FB (RN 2 l b).2.2 most (RN 2 l b).1) w w' := by
  have hbd := RN_bd 2 l b h.2.2
  have HN := Lib.hid (rnum_any R p l b 2 _ h hl (by decide))
  generalize RN 2 l b = r at *
  obtain ⟨n, l', b'⟩ := r
  simp only at hbd HN ⊢
  obtain ⟨hn0, hn1, hl', _⟩ := hbd
  clear h
  have d0 : decide (most < 0) = false := by simp; omega
  go_enter Try.func49, Try.ntmps49
  go_wp2_with fail
  refine HN.out.mono ?_
  rintro e w1 ⟨rfl, ⟨p', hp', hr'⟩, ho⟩
  by_cases hn : most < n
  · have hn' : decide (most < n) = true := by simpa using hn
    have hend : Hid (RS R p l' (FB b' most n) w (w1.setCell ⟨R, 1, none⟩ (.bool true))) := by
      rw [FB_yes hn]
      exact ⟨⟨p', hp', isr_bad hr'⟩, ho.step (Only.setCell _ _ _ [R] (by simp)) (fun i hi => .inl hi)⟩
    have hfin : Hid (CV most n = 0) := if_pos hn
    go_wp2_with (go_at_call 72; refine (rspoil_any R _ _ _ hr'.1).mono ?_; rintro e w' ⟨rfl, rfl⟩)
    go_ret
    exact ⟨by rw [hfin.out]; rfl, hend.out⟩
  · have hn' : decide (most < n) = false := by simpa using hn
    have hend : Hid (RS R p l' (FB b' most n) w w1) := by
      rw [FB_no hn]
      exact ⟨⟨p', hp', hr'⟩, ho⟩
    have hfin : Hid (CV most n = n) := if_neg hn
    clear hr' ho hp'
    go_wp2
    go_ret
    exact ⟨by rw [hfin.out]; rfl, hend.out⟩

set_option maxHeartbeats 400000 in
theorem rbad_any (R : Nat) (p : Value) (l : List Int) (b : Bool) (w : World) (h : IsR 131 R p l b w) :
    Calls Try.prog 76 #[.pointer (some ⟨R, 0, none⟩)] w fun e w' => e = .returned (.bool b) ∧ w = w' := by
  have h1 := cell_two1 h.1
  go_enter Try.func76, Try.ntmps76
  go_wp2
  go_ret
  exact ⟨rfl, rfl⟩

set_option maxHeartbeats 400000 in
theorem rend_any (R : Nat) (p : Value) (l : List Int) (b : Bool) (w : World) (h : IsR 131 R p l b w) :
    Calls Try.prog 55 #[.pointer (some ⟨R, 0, none⟩)] w fun e w' => e = .returned (.bool (!b && decide (l.length = 0))) ∧ w = w' := by
  obtain ⟨ao, c, rfl, _⟩ := id h.2.1
  have h0 := cell_two0 h.1
  cases b
  · by_cases hz : l.length = 0
    · have hz' : ((l.length : Int) == 0) = true := by simp [hz]
      go_enter Try.func55, Try.ntmps55
      go_wp2_with (go_at_call 76; refine (rbad_any R _ l _ _ h).mono ?_; rintro e w' ⟨rfl, rfl⟩)
      go_ret
      exact ⟨by simp [hz], rfl⟩
    · have hz' : ((l.length : Int) == 0) = false := by simpa using hz
      go_enter Try.func55, Try.ntmps55
      go_wp2_with (go_at_call 76; refine (rbad_any R _ l _ _ h).mono ?_; rintro e w' ⟨rfl, rfl⟩)
      go_ret
      exact ⟨by simp [hz], rfl⟩
  · go_enter Try.func55, Try.ntmps55
    go_wp2_with (go_at_call 76; refine (rbad_any R _ l _ _ h).mono ?_; rintro e w' ⟨rfl, rfl⟩)
    go_ret
    exact ⟨rfl, rfl⟩

theorem rread_any (ao : Option Addr) (n c : Nat) (w : World) :
    Calls Try.prog 48 #[.slice ao n c] w fun e w' => e = .returned (.pointer (some ⟨w.heap.size, 0, none⟩)) ∧ w' = w.alloc (.cells #[.slice ao n c, .bool false] 131) := by
  go_enter Try.func48, Try.ntmps48
  go_wp2
  go_ret
  exact ⟨rfl, rfl⟩

/-- A Reader whose slice has moved on by k. -/
theorem isr_adv {T R : Nat} {ao : Option Addr} {c k : Nat} {l : List Int} {b : Bool} {w1 w2 : World} {v' : Value} (hr : IsR T R (.slice ao l.length c) l b w1) (h12 : Only w1 w2 []) (hk : k ≤ l.length)
    (hv : (c = k ∧ v' = .slice ao (l.length - k) 0) ∨ v' = .slice (ao.map (fun x => x.add k)) (l.length - k) (c - k)) :
    v'.ownBlock = (Value.slice ao l.length c).ownBlock ∧ IsR T R v' (l.drop k) b (w2.setCell ⟨R, 0, none⟩ v') ∧ Only w1 (w2.setCell ⟨R, 0, none⟩ v') [R] := by
  obtain ⟨hR, hsrc, hb⟩ := hr
  have ho : Only w1 (w2.setCell ⟨R, 0, none⟩ v') [R] := Only.trans (h12.mono (by simp)) (Only.setCell _ _ _ _ (by simp))
  have hst := src_tail hsrc hk
  have hs : Src w1 v' 1 (l.drop k).length ((l.drop k).map (Value.int .u8)) := by
    rw [List.length_drop, List.map_drop]
    rcases hv with ⟨h, rfl⟩ | rfl
    · exact hst.1 h
    · exact hst.2
  refine ⟨?_, ⟨set_two0 (h12.at hR (by simp)), isr_src hR hs ho, fun y hy => hb y (List.mem_of_mem_drop hy)⟩, ho⟩
  rcases hv with ⟨h, rfl⟩ | rfl
  · cases ao <;> rfl
  · cases ao with
    | none => rfl
    | some a => simp only [Option.map_some, Value.ownBlock, Option.some.injEq]; unfold Addr.add; split <;> rfl

/-- The fault behind Bytes, the bytes that it gives, the rest. -/
def BF (b : Bool) (most n : Int) (len : Nat) : Bool := b || decide (most < 0) || decide (most < n) || decide ((len : Int) < n)
def BV (f : Bool) (n : Int) (l : List Int) : List Int := if f then [] else l.take n.toNat
def BR (f : Bool) (n : Int) (l : List Int) : List Int := if f then l else l.drop n.toNat

/-- What Bytes leaves: its answer is the call's own. -/
def RBy (R : Nat) (p : Value) (f : Bool) (n : Int) (l : List Int) (w : World) (e : Ending) (w' : World) : Prop :=
  ∃ v, e = .returned v ∧ w'.ownsRow 0 5 1 v (BV f n l).length ((BV f n l).map (Value.int .u8)) ∧ SoN w (.slice none 0 0) v ∧ RS R p (BR f n l) f w w'

theorem rby_bad {R : Nat} {p p' : Value} {f b' : Bool} {n : Int} {l' : List Int} {w w1 : World} (hf : f = true) (hp' : p'.ownBlock = p.ownBlock) (hr : IsR 131 R p' l' b' w1) (ho : Only w w1 [R]) :
    RBy R p f n l' w (.returned (.slice none 0 0)) (w1.setCell ⟨R, 1, none⟩ (.bool true)) := by
  subst hf
  exact ⟨_, rfl, World.ownsRow_nil _ _ _ _, fun _ h => by simp [Value.ownBlock] at h, ⟨⟨p', hp', isr_bad hr⟩, ho.step (Only.setCell _ _ _ [R] (by simp)) (fun i hi => .inl hi)⟩⟩

theorem rby_good {R m : Nat} {p p' v u x y : Value} {l' : List Int} {w w1 w2 : World} (hp' : p'.ownBlock = p.ownBlock) (ho : Only w w1 [R]) (hm : m ≤ l'.length)
    (g1 : w2.ownsRow 0 5 1 v m ((l'.take m).map (Value.int .u8))) (g3 : SoN w1 (.slice none 0 0) v) (hR2 : w2.heap[R]? = some (.cells #[x, y] 131 (0, 0)))
    (q1 : u.ownBlock = p'.ownBlock) (q2 : IsR 131 R u (l'.drop m) false (w2.setCell ⟨R, 0, none⟩ u)) (q3 : Only w1 (w2.setCell ⟨R, 0, none⟩ u) [R]) :
    RBy R p false m l' w (.returned v) (w2.setCell ⟨R, 0, none⟩ u) := by
  refine ⟨v, rfl, ?_, g3.weaken ho.size, ⟨⟨u, q1.trans hp', ?_⟩, ho.trans q3⟩⟩
  · rw [show BV false (m : Int) l' = l'.take m by simp [BV]]
    have := ownsRow_setCell_other g1 (a := ⟨R, 0, none⟩) (own_ne g1 hR2 (by decide)) u
    rwa [show (l'.take m).length = m by simp [hm]]
  · rw [show BR false (m : Int) l' = l'.drop m by simp [BR]]
    exact q2

set_option maxRecDepth 100000 in
set_option maxHeartbeats 800000 in
theorem rbytes_any (R : Nat) (p : Value) (l : List Int) (b : Bool) (most : Int) (w : World) (h : IsR 131 R p l b w) (hl : l.length ≤ 1000000000) (hm : -9223372036854775808 ≤ most ∧ most ≤ 9223372036854775807) :
    Calls Try.prog 51 #[.pointer (some ⟨R, 0, none⟩), .int .i64 most] w (RBy R p (BF (RN 4 l b).2.2 most (RN 4 l b).1 (RN 4 l b).2.1.length) (RN 4 l b).1 (RN 4 l b).2.1 w) := by
  obtain ⟨i0, hi, hz0, hz1, hz2⟩ := info_parts Try.info5
  have hbd := RN_bd 4 l b h.2.2
  have HN := Lib.hid (rnum_any R p l b 4 _ h hl (by decide))
  generalize RN 4 l b = r at *
  obtain ⟨n, l', b'⟩ := r
  simp only at hbd HN ⊢
  obtain ⟨hn0, hn1, hl', hby'⟩ := hbd
  obtain ⟨m, rfl⟩ := Int.eq_ofNat_of_zero_le hn0
  have hn2 : m < 4294967296 := by omega
  clear h hn1
  go_enter Try.func51, Try.ntmps51
  go_wp2_with fail
  refine HN.out.mono ?_
  rintro e w1 ⟨rfl, ⟨p', hp', hr'⟩, ho⟩
  obtain ⟨ao, c, rfl, hc1, hc2, _⟩ := id hr'.2.1
  have h0 := cell_two0 hr'.1
  have h1 := cell_two1 hr'.1
  have hf := free_two hr'.1 0
  have hbb : b' = true ∨ b' = false := by cases b' <;> simp
  rcases hbb with rfl | rfl
  · have hend := Lib.hid (rby_bad (f := BF true most m l'.length) (n := m) (by simp [BF]) hp' hr' ho)
    go_wp2_with (go_at_call 72; refine (rspoil_any R _ _ _ hr'.1).mono ?_; rintro e w' ⟨rfl, rfl⟩)
    go_ret
    exact hend.out
  · by_cases k0 : most < 0
    · have d0 : decide (most < 0) = true := by simpa using k0
      have hend := Lib.hid (rby_bad (f := BF false most m l'.length) (n := m) (by simp [BF, k0]) hp' hr' ho)
      go_wp2_with (go_at_call 72; refine (rspoil_any R _ _ _ hr'.1).mono ?_; rintro e w' ⟨rfl, rfl⟩)
      go_ret
      exact hend.out
    · have d0 : decide (most < 0) = false := by simpa using k0
      by_cases k1 : most < m
      · have d1 : decide (most < (m : Int)) = true := by simpa using k1
        have hend := Lib.hid (rby_bad (f := BF false most m l'.length) (n := m) (by simp [BF, k1]) hp' hr' ho)
        go_wp2_with (go_at_call 72; refine (rspoil_any R _ _ _ hr'.1).mono ?_; rintro e w' ⟨rfl, rfl⟩)
        go_ret
        exact hend.out
      · have d1 : decide (most < (m : Int)) = false := by simpa using k1
        by_cases k2 : l'.length < m
        · have d2 : decide ((l'.length : Int) < (m : Int)) = true := by simpa using k2
          have hend := Lib.hid (rby_bad (f := BF false most m l'.length) (n := m) (by simp [BF, k2]) hp' hr' ho)
          go_wp2_with (go_at_call 72; refine (rspoil_any R _ _ _ hr'.1).mono ?_; rintro e w' ⟨rfl, rfl⟩)
          go_ret
          exact hend.out
        · have d2 : decide ((l'.length : Int) < (m : Int)) = false := by simpa using k2
          have hBF : Hid (BF false most m l'.length = false) := show _ = _ by simp only [BF, d0, d1, d2, Bool.or_false]
          have hsrc0 := src_take hr'.2.1 (Nat.le_of_not_lt k2)
          rw [← List.map_take] at hsrc0
          have hsrc := Lib.hid hsrc0
          have hm9 : m ≤ 1000000000 := by omega
          clear hsrc0 hn2
          have hm0 : 0 ≤ most := by omega
          have hm1 := hm.2
          go_wp2_with (at_builtin; refine wpList_append_src rfl _ _ 28 rfl 5 i0 (.int .u8 0) 1 1 Try.underlying28 hi hz0 hz1 hz2 rfl (by decide) (.slice none 0 0) 0 [] rfl (World.ownsRow_nil _ _ _ _) _ m _ rfl hsrc.out (one_ints _ _) (by unfold maxLen; omega) (by omega) ?_; intro v' w2 g1 g2 g3; simp only [Nat.zero_add, List.nil_append] at g1; obtain ⟨ao', cc', rfl⟩ := own_slice g1; have hR2 := (Only.grown (L := []) g2 (by simp [Value.ownBlock])).at hr'.1 (by simp); have h0' := cell_two0 hR2; have hf' := free_two hR2 0)
          all_goals go_ret
          all_goals rw [hBF.out]
          · have hcm : c = m := by assumption
            obtain ⟨q1, q2, q3⟩ := isr_adv hr' (Only.grown (L := []) g2 (by simp [Value.ownBlock])) (Nat.le_of_not_lt k2) (.inl ⟨hcm, rfl⟩)
            exact rby_good hp' ho (Nat.le_of_not_lt k2) g1 g3 hR2 q1 q2 q3
          · obtain ⟨q1, q2, q3⟩ := isr_adv hr' (Only.grown (L := []) g2 (by simp [Value.ownBlock])) (Nat.le_of_not_lt k2) (.inr rfl)
            exact rby_good hp' ho (Nat.le_of_not_lt k2) g1 g3 hR2 q1 q2 q3
end Go.Proofs.Ytdlbkdnpbcpjfaa

/- The contracts of the Writer of layer 9 (wire): Num, Flag, Bytes, Done lay the document's bytes, for writers whose row is shorter than the bounds that each names. -/
namespace Go.Proofs.Ytdlbkdnpbcpjfaa
open Go.RowKit Go.Pw
set_option linter.unusedVariables false
set_option maxRecDepth 100000

/-- The big-endian bytes of n, k of them. -/
def be (n : Int) : Nat → List Int
  | 0 => []
  | k + 1 => (n / 256 ^ k) % 256 :: be n k

theorem be_len (n : Int) (k : Nat) : (be n k).length = k := by
  induction k with
  | zero => rfl
  | succ k ih => simp [be, ih]

theorem be_head (n : Int) (k : Nat) (hn0 : 0 ≤ n) : IntKind.u8.wrap (n / 2 ^ (8 * k)) = (n / 256 ^ k) % 256 := by
  rw [show (2 : Int) ^ (8 * k) = 256 ^ k by rw [Int.pow_mul]; rfl]
  simp [IntKind.wrap, IntKind.bits, IntKind.signed]

set_option maxHeartbeats 400000 in
theorem wnum_any (B : Nat) (v0 : Value) (xs : List Int) (n : Int) (k : Nat) (w : World) (hk : k ≤ 8) (hn0 : 0 ≤ n) (hn1 : n < 18446744073709551616) (hw : IsW 100 5 B v0 xs w) (hx : xs.length ≤ 1000000) :
    Calls Try.prog 42 #[.pointer (some ⟨B, 0, none⟩), .int .u64 n, .int .i64 k] w fun e w' => e = .returned (.pointer (some ⟨B, 0, none⟩)) ∧ ∃ v', IsW 100 5 B v' (xs ++ be n k) w' ∧ SoN w v0 v' ∧ Only w w' (B :: v0.ownBlock.toList) := by
  obtain ⟨i0, hi, hz0, hz1, hz2⟩ := info_parts Try.info5
  go_enter Try.func42, Try.ntmps42
  go_wp2
  go_loopw [7] (fun i wr => ∃ j : Nat, i = .int .i64 ((j : Int) - 1) ∧ j ≤ k ∧ ∃ v ys, IsW 100 5 B v ys wr ∧ SoN w v0 v ∧ Only w wr (B :: v0.ownBlock.toList) ∧ ys ++ be n j = xs ++ be n k ∧ ys.length ≤ 1000000 + k - j)
    (fun i _ => (intOf i + 1).toNat)
  case atStart => exact ⟨k, rfl, Nat.le_refl _, v0, xs, hw, SoN.refl _ _, Only.refl _ _, rfl, by omega⟩
  case round =>
    obtain ⟨j, rfl, hj, v, ys, ⟨hB, hown⟩, hson, honly, hys, hyl⟩ := hrel
    by_cases hj0 : j = 0
    · subst hj0
      go_wp2
      go_ret
      refine ⟨rfl, v, ?_, hson, honly⟩
      have e : ys = xs ++ be n k := by simpa [be] using hys
      subst e
      exact ⟨hB, hown⟩
    · obtain ⟨j', rfl⟩ : ∃ j', j = j' + 1 := ⟨j - 1, by omega⟩
      have hc := cell_of_one hB
      have hf := free_of_one hB
      obtain ⟨ao, cc, hv⟩ := own_slice hown
      have e1 : IntKind.i64.wrap (8 * (j' : Int)) = 8 * (j' : Int) := IntWalk.i64_in _ (by omega)
      have p1 : 0 ≤ 8 * (j' : Int) := by omega
      have m1 : (8 * (j' : Int)).toNat = 8 * j' := by omega
      have hne := own_ne hown hB (by decide)
      subst hv
      have hca : ∀ o, (wr.alloc o).cell? ⟨B, 0, none⟩ = some (.slice ao ys.length cc) := cell_al hc
      go_wp2
      go_region_law (refine step_append_src rfl (.tmp 22) (.tmp 28) 28 rfl 5 i0 (.int .u8 0) 1 1 Try.underlying28 hi hz0 hz1 hz2 rfl (by decide) _ ys.length _ (by simp [Act.eval]) (hown.alloc _).drew _ 1 _ (by simp [Act.eval]) (src_one _ _ _).drew (by simp [Value.oneCell']) (by unfold maxLen; omega) (by omega) (fun v' w' h1 h2 h3 => ?_); obtain ⟨ao', cc', rfl⟩ := own_slice h1; have hB' := grown_block h2 (show _ = some (.cells #[_] 100 (0, 0)) from (Below.heap_alloc wr _ B (Array.getElem?_eq_some_iff.1 hB).1).trans hB) hne; have hc' := cell_of_one hB'; have hf' := free_of_one hB')
      all_goals
        go_wp2
        go_roundw
        case rel =>
          obtain ⟨r1, r2, r3⟩ := isw_step (news := [IntKind.u8.wrap (n / 2 ^ (8 * j'))]) (by decide) ⟨hB, hown⟩ ((Only.alloc wr _ []).trans (Only.drew _ [])) h1 h2 h3
          exact ⟨j', rfl, by omega, _, _, r1, hson.trans r2 honly.size, honly.step r3 (own_list hson), by rw [← hys]; simp [be, be_head n j' hn0], by simp; omega⟩
        case measure => simp [intOf]

set_option maxHeartbeats 400000 in
theorem wflag_any (B : Nat) (v0 : Value) (xs : List Int) (b : Bool) (w : World) (hw : IsW 100 5 B v0 xs w) (hx : xs.length ≤ 1000000) :
    Calls Try.prog 44 #[.pointer (some ⟨B, 0, none⟩), .bool b] w fun e w' => e = .returned (.pointer (some ⟨B, 0, none⟩)) ∧ ∃ v', IsW 100 5 B v' (xs ++ [if b then 1 else 0]) w' ∧ SoN w v0 v' ∧ Only w w' (B :: v0.ownBlock.toList) := by
  cases b
  · go_enter Try.func44, Try.ntmps44
    go_wp2_with (go_at_call 42; refine (wnum_any B v0 xs 0 1 _ (by decide) (by decide) (by decide) hw hx).mono ?_; rintro e w' ⟨rfl, hq⟩)
    go_ret
    exact ⟨rfl, hq⟩
  · go_enter Try.func44, Try.ntmps44
    go_wp2_with (go_at_call 42; refine (wnum_any B v0 xs 1 1 _ (by decide) (by decide) (by decide) hw hx).mono ?_; rintro e w' ⟨rfl, hq⟩)
    go_ret
    exact ⟨rfl, hq⟩

set_option maxHeartbeats 400000 in
theorem wdone_any (B : Nat) (v0 : Value) (xs : List Int) (w : World) (hw : IsW 100 5 B v0 xs w) (hx : xs.length ≤ 1000000000) :
    Calls Try.prog 47 #[.pointer (some ⟨B, 0, none⟩)] w fun e w' => ∃ v, e = .returned v ∧ w'.ownsRow 0 5 1 v xs.length (xs.map (Value.int .u8)) ∧ SoN w (.slice none 0 0) v ∧ Only w w' [] := by
  obtain ⟨i0, hi, hz0, hz1, hz2⟩ := info_parts Try.info5
  obtain ⟨ao, c, rfl⟩ := hw.slice
  have hc := cell_of_one hw.1
  have hs := own_src hw.2
  go_enter Try.func47, Try.ntmps47
  go_wp2_with (at_builtin; refine wpList_append_src rfl _ _ 28 rfl 5 i0 (.int .u8 0) 1 1 Try.underlying28 hi hz0 hz1 hz2 rfl (by decide) (.slice none 0 0) 0 [] rfl (World.ownsRow_nil _ _ _ _) _ xs.length _ rfl hs (by simp [Value.oneCell']) (by unfold maxLen; omega) (by omega) ?_; intro v' w' h1 h2 h3; simp only [Nat.zero_add, List.nil_append] at h1; obtain ⟨ao', cc', rfl⟩ := own_slice h1)
  go_ret
  exact ⟨_, rfl, h1, h3, Only.grown h2 (by simp [Value.ownBlock])⟩

set_option maxHeartbeats 400000 in
theorem wbytes_any (B : Nat) (v0 p : Value) (xs ps : List Int) (w : World) (hw : IsW 100 5 B v0 xs w) (hx : xs.length ≤ 900000) (hp : Src w p 1 ps.length (ps.map (Value.int .u8))) (hpl : ps.length ≤ 1000000000) (ha : Off p (B :: v0.ownBlock.toList)) :
    Calls Try.prog 43 #[.pointer (some ⟨B, 0, none⟩), p] w fun e w' => e = .returned (.pointer (some ⟨B, 0, none⟩)) ∧ ∃ v', IsW 100 5 B v' (xs ++ be ps.length 4 ++ ps) w' ∧ SoN w v0 v' ∧ Only w w' (B :: v0.ownBlock.toList) := by
  obtain ⟨i0, hi, hz0, hz1, hz2⟩ := info_parts Try.info5
  obtain ⟨ao, c, rfl, _, _, _⟩ := id hp
  go_enter Try.func43, Try.ntmps43
  go_wp2_with fail
  refine (wnum_any B v0 xs ps.length 4 _ (by decide) (by omega) (by omega) hw (by omega)).mono ?_
  rintro e w1 ⟨rfl, v1, hw1, hs1, ho1⟩
  obtain ⟨ys, hys⟩ : ∃ ys, ys = xs ++ be ps.length 4 := ⟨_, rfl⟩
  rw [← hys] at hw1
  have hyl : ys.length ≤ 900004 := by rw [hys]; simp [be_len]; omega
  have Hys := Lib.hid hys
  clear hys hw hx
  have hsz := ho1.size
  have hp1 := hp.off ho1 ha
  obtain ⟨ao1, c1, hv1⟩ := hw1.slice
  obtain rfl := hv1
  have hc := cell_of_one hw1.1
  go_wp2_with (at_builtin; refine wpList_append_src rfl _ _ 28 rfl 5 i0 (.int .u8 0) 1 1 Try.underlying28 hi hz0 hz1 hz2 rfl (by decide) (.slice ao1 ys.length c1) _ _ rfl hw1.2 _ ps.length _ rfl hp1 (by simp [Value.oneCell']) (by unfold maxLen; omega) (by omega) ?_; intro v' w' h1 h2 h3; obtain ⟨ao', cc', rfl⟩ := own_slice h1; have hB' := grown_block h2 hw1.1 (own_ne hw1.2 hw1.1 (by decide)); have hc' := cell_of_one hB'; have hf' := free_of_one hB')
  obtain ⟨r1, r2, r3⟩ := isw_step (news := ps) (by decide) hw1 (Only.refl _ []) h1 h2 h3
  go_ret
  exact ⟨rfl, _, Hys.out ▸ r1, hs1.trans r2 hsz, ho1.step r3 (own_list hs1)⟩
end Go.Proofs.Ytdlbkdnpbcpjfaa

/- Plain laws of layer 9's numbers: what is laid is read back. -/
namespace Go.Proofs.Ytdlbkdnpbcpjfaa
open Go.RowKit Go.Pw
set_option linter.unusedVariables false
set_option maxRecDepth 100000

theorem Byt.app {a b : List Int} (ha : Byt a) (hb : Byt b) : Byt (a ++ b) := fun x hx => by
  rcases List.mem_append.1 hx with h | h
  · exact ha x h
  · exact hb x h
theorem Byt.nil : Byt [] := fun x hx => by simp at hx

theorem be_byt (n : Int) (k : Nat) : Byt (be n k) := by
  induction k with
  | zero => exact Byt.nil
  | succ k ih =>
    intro x hx
    rcases List.mem_cons.1 hx with rfl | h
    · constructor <;> omega
    · exact ih x h

theorem foldl_lin (l : List Int) : ∀ a : Int, l.foldl (fun a b => a * 256 + b) a = a * 256 ^ l.length + ofbe l := by
  induction l with
  | nil => intro a; simp [ofbe]
  | cons x l ih =>
    intro a
    have h0 := ih (a * 256 + x)
    have h1 := ih (0 * 256 + x)
    have e : ofbe (x :: l) = (0 * 256 + x) * 256 ^ l.length + ofbe l := h1
    rw [e]
    simp only [List.foldl_cons, List.length_cons, Int.pow_succ]
    rw [h0, Int.add_mul, Int.add_mul, Int.mul_assoc, Int.mul_comm 256]
    omega

theorem ofbe_cons (x : Int) (l : List Int) : ofbe (x :: l) = x * 256 ^ l.length + ofbe l := by
  have := foldl_lin l (0 * 256 + x)
  simpa [ofbe] using this

theorem ofbe_be (n : Int) (k : Nat) (hn : 0 ≤ n) : ofbe (be n k) = n % 256 ^ k := by
  induction k with
  | zero => simp [be, ofbe]
  | succ k ih =>
    rw [be, ofbe_cons, be_len, ih, Int.pow_succ]
    have hp : (0 : Int) < 256 ^ k := Int.pow_pos (by decide)
    generalize (256 : Int) ^ k = m at *
    have h1 := Int.mul_ediv_add_emod n m
    have h2 := Int.mul_ediv_add_emod (n / m) 256
    have h3 : 0 ≤ n % m ∧ n % m < m := ⟨Int.emod_nonneg _ (by omega), Int.emod_lt_of_pos _ hp⟩
    have h4 : 0 ≤ n / m % 256 ∧ n / m % 256 < 256 := by omega
    have hd : n = (n / m / 256) * (m * 256) + (n / m % 256 * m + n % m) := by
      have e1 : n / m / 256 * (m * 256) = m * (256 * (n / m / 256)) := by
        rw [Int.mul_comm m 256, ← Int.mul_assoc, Int.mul_comm (n / m / 256) 256, Int.mul_comm m]
      have e2 : m * (n / m) = m * (256 * (n / m / 256)) + m * (n / m % 256) := by rw [← Int.mul_add]; congr 1; exact h2.symm
      rw [e1, Int.mul_comm (n / m % 256) m]
      omega
    have hlt : n / m % 256 * m + n % m < m * 256 := by
      have : n / m % 256 * m ≤ 255 * m := Int.mul_le_mul_of_nonneg_right (by omega) (by omega)
      omega
    have hge : 0 ≤ n / m % 256 * m + n % m := by
      have : 0 ≤ n / m % 256 * m := Int.mul_nonneg h4.1 (by omega)
      omega
    conv => rhs; rw [hd]
    rw [Int.add_comm (n / m / 256 * (m * 256)), Int.add_mul_emod_self_right, Int.emod_eq_of_lt hge hlt]

/-- What Num has laid is read back. -/
theorem RN_be (n : Int) (k : Nat) (l : List Int) (hn : 0 ≤ n) (hn1 : n < 256 ^ k) (hk : k ≤ 8) : RN k (be n k ++ l) false = (n, l, false) := by
  have hlen := be_len n k
  unfold RN
  rw [if_pos ⟨rfl, by omega, by omega, by simp [hlen]; omega⟩]
  simp only [Int.toNat_natCast]
  rw [List.take_append_of_le_length (by omega), List.take_of_length_le (by omega), ofbe_be n k hn, Int.emod_eq_of_lt hn hn1, List.drop_append_of_le_length (by omega), List.drop_of_length_le (by omega)]
  rfl

theorem pow4 : (256 : Int) ^ 4 = 4294967296 := by decide

/-- What Bytes has laid is read back. -/
theorem RB_be (ps l : List Int) (most : Int) (hm : (ps.length : Int) ≤ most) (hp : (ps.length : Int) < 4294967296) :
    RN 4 (be ps.length 4 ++ ps ++ l) false = ((ps.length : Int), ps ++ l, false) ∧ BF false most ps.length (ps ++ l).length = false ∧ BV false ps.length (ps ++ l) = ps ∧ BR false ps.length (ps ++ l) = l := by
  refine ⟨?_, ?_, by simp [BV], by simp [BR]⟩
  · rw [List.append_assoc]
    exact RN_be ps.length 4 (ps ++ l) (by omega) (by rw [pow4]; exact hp) (by decide)
  · simp only [BF, Bool.false_or, Bool.or_eq_false_iff, decide_eq_false_iff_not, List.length_append]
    omega

/-- Bytes reads back what Bytes has laid. -/
theorem rback_any (R : Nat) (p : Value) (ps l : List Int) (most : Int) (w : World) (h : IsR 131 R p (be ps.length 4 ++ ps ++ l) false w) (hl : (be ps.length 4 ++ ps ++ l).length ≤ 1000000000) (hm : (ps.length : Int) ≤ most ∧ most ≤ 9223372036854775807) :
    Calls Try.prog 51 #[.pointer (some ⟨R, 0, none⟩), .int .i64 most] w fun e w' => ∃ v, e = .returned v ∧ w'.ownsRow 0 5 1 v ps.length (ps.map (Value.int .u8)) ∧ SoN w (.slice none 0 0) v ∧ RS R p l false w w' := by
  have hps : (ps.length : Int) < 4294967296 := by simp [be_len] at hl; omega
  obtain ⟨h1, h2, h3, h4⟩ := RB_be ps l most hm.1 hps
  have H := rbytes_any R p _ false most w h hl (by omega)
  rw [h1] at H
  simp only at H
  rw [h2] at H
  refine H.mono ?_
  rintro e w' ⟨v, g1, g2, g3, g4⟩
  rw [h3] at g2
  rw [h4] at g4
  exact ⟨v, g1, g2, g3, g4⟩

theorem RB_be0 (ps : List Int) (most : Int) (hm : (ps.length : Int) ≤ most) (hp : (ps.length : Int) < 4294967296) :
    RN 4 (be ps.length 4 ++ ps) false = ((ps.length : Int), ps, false) ∧ BF false most ps.length ps.length = false ∧ BV false ps.length ps = ps ∧ BR false ps.length ps = [] := by
  have := RB_be ps [] most hm hp
  simpa using this
end Go.Proofs.Ytdlbkdnpbcpjfaa

/- The contracts of the reference of layers 9, 11, 13 and 14 (pawlref09): each function gives the document's bytes behind those that it is handed, in new memory, for bytes shorter than the bounds that each contract names. -/
namespace Go.Proofs.Ytdlbkdnpbcpjfaa
open Go.RowKit Go.Pw
set_option linter.unusedVariables false
set_option maxRecDepth 100000

/-- The answer is a row of the call's own, which holds xs; nothing that was there has turned. -/
def Fresh (xs : List Int) (w : World) (e : Ending) (w' : World) : Prop :=
  ∃ v, e = .returned v ∧ w'.ownsRow 0 5 1 v xs.length (xs.map (Value.int .u8)) ∧ SoN w (.slice none 0 0) v ∧ Only w w' []

/-- A slice of bytes that is read. -/
def Rd (w : World) (v : Value) (xs : List Int) : Prop := Src w v 1 xs.length (xs.map (Value.int .u8))

theorem Rd.nil (w : World) : Rd w (.slice none 0 0) [] := ⟨none, 0, rfl, Nat.le_refl _, Nat.zero_le _, rfl, fun _ => ⟨rfl, rfl⟩, by simp⟩
theorem Rd.new {w w' : World} {v : Value} {xs : List Int} (h : Rd w v xs) (ho : Only w w' []) : Rd w' v xs := Src.off h ho (fun _ _ _ => by simp)
theorem Rd.slice {w : World} {v : Value} {xs : List Int} (h : Rd w v xs) : ∃ ao c, v = .slice ao xs.length c := by
  obtain ⟨ao, c, h, _⟩ := h
  exact ⟨ao, c, h⟩

theorem own_rd {w : World} {v : Value} {xs : List Int} (h : w.ownsRow 0 5 1 v xs.length (xs.map (Value.int .u8))) : Rd w v xs := own_src h

set_option maxHeartbeats 800000 in
theorem rfnum_any (v0 : Value) (xs : List Int) (n : Int) (k : Nat) (w : World) (h0 : Rd w v0 xs) (hl : xs.length ≤ 1000000) (hk : k ≤ 8) (hn0 : 0 ≤ n) (hn1 : n < 18446744073709551616) :
    Calls Try.prog 22 #[v0, .int .u64 n, .int .i64 k] w (Fresh (xs ++ be n k) w) := by
  obtain ⟨i0, hi, hz0, hz1, hz2⟩ := info_parts Try.info5
  obtain ⟨ao, c, rfl⟩ := h0.slice
  have h0 := Lib.hid h0
  go_enter Try.func22, Try.ntmps22
  go_wp2_with (at_builtin; refine wpList_append_src rfl _ _ 28 rfl 5 i0 (.int .u8 0) 1 1 Try.underlying28 hi hz0 hz1 hz2 rfl (by decide) (.slice none 0 0) 0 [] rfl (World.ownsRow_nil _ _ _ _) _ xs.length _ rfl h0.out (one_ints _ _) (by unfold maxLen; omega) (by omega) ?_; intro v' w2 g1 g2 g3; simp only [Nat.zero_add, List.nil_append] at g1; obtain ⟨aq, cq, rfl⟩ := own_slice g1)
  have ho2 : Only w w2 [] := Only.grown g2 (by simp [Value.ownBlock])
  clear g2
  go_loopw [7, 8] (fun vv i wr => ∃ j : Nat, i = .int .i64 ((j : Int) - 1) ∧ j ≤ k ∧ ∃ ys, wr.ownsRow 0 5 1 vv ys.length (ys.map (Value.int .u8)) ∧ SoN w (.slice none 0 0) vv ∧ Only w wr [] ∧ ys ++ be n j = xs ++ be n k ∧ ys.length ≤ 1000000 + k - j)
    (fun _ i _ => (intOf i + 1).toNat)
  case atStart => exact ⟨k, rfl, Nat.le_refl _, xs, g1, g3, ho2, rfl, by omega⟩
  case round =>
    obtain ⟨j, rfl, hj, ys, hown, hson, honly, hys, hyl⟩ := hrel
    clear g1 g3 ho2
    by_cases hj0 : j = 0
    · subst hj0
      obtain ⟨ao', cc', rfl⟩ := own_slice hown
      have Hys := Lib.hid hys
      clear hys
      go_wp2
      go_ret
      have e : ys = xs ++ be n k := by simpa [be] using Hys.out
      subst e
      exact ⟨_, rfl, hown, hson, honly⟩
    · obtain ⟨j', rfl⟩ : ∃ j', j = j' + 1 := ⟨j - 1, by omega⟩
      obtain ⟨ao', cc', rfl⟩ := own_slice hown
      have p1 : 0 ≤ 8 * (j' : Int) := by omega
      have m1 : (8 * (j' : Int)).toNat = 8 * j' := by omega
      have Hys := Lib.hid hys
      clear hys
      go_wp2_with (at_builtin; refine wpList_append_src rfl _ _ 28 rfl 5 i0 (.int .u8 0) 1 1 Try.underlying28 hi hz0 hz1 hz2 rfl (by decide) (.slice ao' ys.length cc') ys.length _ rfl (hown.alloc _) _ 1 _ rfl (src_one wr (.int .u8 (IntKind.u8.wrap (n / 2 ^ (8 * j')))) 5) (by simp [Value.oneCell']) (by unfold maxLen; omega) (by omega) ?_; intro v' w2 q1 q2 q3)
      go_roundw
      case rel =>
        refine ⟨j', rfl, by omega, ys ++ [IntKind.u8.wrap (n / 2 ^ (8 * j'))], by simpa using q1, hson.trans (q3.weaken (by simp)) honly.size, ?_, ?_, by simp; omega⟩
        · refine (honly.trans (Only.alloc wr _ [])).step (Only.grown q2 (L := (Value.slice ao' ys.length cc').ownBlock.toList) (fun k hk => by simp [hk])) (fun i hi => ?_)
          rcases hson i (by simpa using hi) with h | h
          · simp [Value.ownBlock] at h
          · exact .inr h
        · rw [← Hys.out]; simp [be, be_head n j' hn0]
      case measure => simp [intOf]

theorem rfnum4 (v0 : Value) (xs : List Int) (n : Int) (w : World) (h0 : Rd w v0 xs) (hl : xs.length ≤ 1000000) (hn0 : 0 ≤ n) (hn1 : n < 18446744073709551616) :
    Calls Try.prog 22 #[v0, .int .u64 n, .int .i64 4] w (Fresh (xs ++ be n 4) w) := rfnum_any v0 xs n 4 w h0 hl (by decide) hn0 hn1

/-- A Fresh row, its bytes under a name, its value written out. -/
theorem Fresh.name {xs : List Int} {w : World} {e : Ending} {w' : World} (h : Fresh xs w e w') : ∃ ys ao c, Hid (ys = xs) ∧ e = .returned (.slice ao ys.length c) ∧ w'.ownsRow 0 5 1 (.slice ao ys.length c) ys.length (ys.map (Value.int .u8)) ∧ SoN w (.slice none 0 0) (.slice ao ys.length c) ∧ Only w w' [] := by
  obtain ⟨v, rfl, h1, h2, h3⟩ := h
  obtain ⟨ao, c, rfl⟩ := own_slice h1
  exact ⟨xs, ao, c, rfl, rfl, h1, h2, h3⟩

theorem u64_u32 (u : Int) : IntKind.u64.wrap (IntKind.u32.wrap u) = IntKind.u32.wrap u := by simp [IntKind.wrap, IntKind.bits, IntKind.signed]; omega
theorem u32_lo (u : Int) : 0 ≤ IntKind.u32.wrap u := by simp [IntKind.wrap, IntKind.bits, IntKind.signed]; omega
theorem u32_hi (u : Int) : IntKind.u32.wrap u < 18446744073709551616 := by simp [IntKind.wrap, IntKind.bits, IntKind.signed]; omega

theorem fresh_end {xs ys : List Int} {w w1 w2 : World} {v : Value} (h : w2.ownsRow 0 5 1 v ys.length (ys.map (Value.int .u8))) (hs : SoN w1 (.slice none 0 0) v) (hz : w.heap.size ≤ w1.heap.size) (ho : Only w w2 []) (e : ys = xs) : Fresh xs w (.returned v) w2 := by
  subst e
  exact ⟨v, rfl, h, hs.weaken hz, ho⟩
theorem u64_in (n : Int) (h0 : 0 ≤ n) (h1 : n < 4294967296) : IntKind.u64.wrap n = n := by simp [IntKind.wrap, IntKind.bits, IntKind.signed]; omega

/-- The bytes of a device; of what is public of it. -/
def whoB (u d : Int) : List Int := be (IntKind.u32.wrap u) 4 ++ be (IntKind.u32.wrap d) 4
def identB (a s : List Int) : List Int := be a.length 4 ++ a ++ be s.length 4 ++ s

/-- The bytes of a Hello; of a head. -/
def helloB (a s key : List Int) (signed : Int) (has : Bool) (once : Int) : List Int :=
  identB a s ++ be key.length 4 ++ key ++ be signed 4 ++ [if has then 1 else 0] ++ if has then be once 4 else []
def headB (key : List Int) (prev n : Int) : List Int := be key.length 4 ++ key ++ be prev 4 ++ be n 4

/-- A number of four bytes. -/
def U32 (n : Int) : Prop := 0 ≤ n ∧ n < 4294967296

end Go.Proofs.Ytdlbkdnpbcpjfaa

/- The contracts of the reference of layers 9 to 14 (pawlref09), second part: Front, Envelope, Inner, Bundle, for bytes shorter than the bounds that each contract names. -/
namespace Go.Proofs.Ytdlbkdnpbcpjfaa
open Go.RowKit Go.Pw
set_option linter.unusedVariables false
set_option maxRecDepth 100000

/-- The bytes of an envelope without what is sealed; of an envelope; of what is sealed; of a bundle. -/
def frontB (fu fd tu td : Int) (ss : List Int) (hs : Bool) (has hss hks : List Int) (sg : Int) (hh : Bool) (on : Int) : List Int :=
  whoB fu fd ++ whoB tu td ++ be ss.length 4 ++ ss ++ [if hs then 1 else 0] ++ if hs then helloB has hss hks sg hh on else []
def envB (fu fd tu td : Int) (ss : List Int) (hs : Bool) (has hss hks : List Int) (sg : Int) (hh : Bool) (on : Int) (dks : List Int) (dp dn : Int) (sls : List Int) : List Int :=
  frontB fu fd tu td ss hs has hss hks sg hh on ++ headB dks dp dn ++ be sls.length 4 ++ sls
def innerB (u n : Int) (ts : List Int) : List Int := be (IntKind.u32.wrap u) 4 ++ be n 4 ++ be ts.length 4 ++ ts
def bundleB (u d : Int) (ags sgs : List Int) (sg : Int) (ks gs : List Int) (has : Bool) (on : Int) (os : List Int) : List Int :=
  whoB u d ++ identB ags sgs ++ be sg 4 ++ be ks.length 4 ++ ks ++ be gs.length 4 ++ gs ++ [if has then 1 else 0] ++ if has then be on 4 ++ be os.length 4 ++ os else []

theorem whoB_len (u d : Int) : (whoB u d).length = 8 := by simp [whoB, be_len]
theorem identB_len (a s : List Int) : (identB a s).length = a.length + s.length + 8 := by simp [identB, be_len]; omega
theorem helloB_len (a s k : List Int) (sg : Int) (hh : Bool) (on : Int) : (helloB a s k sg hh on).length ≤ a.length + s.length + k.length + 21 := by
  cases hh <;> simp [helloB, identB_len, be_len] <;> omega
theorem headB_len (k : List Int) (p n : Int) : (headB k p n).length = k.length + 12 := by simp [headB, be_len]; omega
theorem frontB_len (fu fd tu td : Int) (ss : List Int) (hs : Bool) (has hss hks : List Int) (sg : Int) (hh : Bool) (on : Int) : (frontB fu fd tu td ss hs has hss hks sg hh on).length ≤ ss.length + has.length + hss.length + hks.length + 42 := by
  have := helloB_len has hss hks sg hh on
  cases hs <;> simp [frontB, whoB_len, be_len] <;> omega

end Go.Proofs.Ytdlbkdnpbcpjfaa

