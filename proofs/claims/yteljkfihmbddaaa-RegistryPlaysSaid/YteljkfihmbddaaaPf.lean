/- Several texts in one: WireR, WireW, WireP, Ref09. -/
import Derived.Test.YteljkfihmbddaaaRows
import Derived.Test.YteljkfihmbddaaaPa
import Derived.Deep.RegionHeld3
set_option linter.unusedSimpArgs false
set_option linter.unusedVariables false
/- The contracts of the Reader of layer 9 (wire): Num, Flag, Count, Bytes, Bad, End, Left at every state of a Reader of fewer than 1000000001 bytes. -/
namespace Go.Proofs.Yteljkfihmbddaaa
open Go.RowKit Go.Pw
set_option linter.unusedVariables false

/-- Bytes: numbers from 0 to 255. -/
def Byt (l : List Int) : Prop := ∀ x ∈ l, 0 ≤ x ∧ x < 256

/-- The number that some bytes are, the highest first. -/
def ofbe (l : List Int) : Int := l.foldl (fun a b => a * 256 + b) 0

theorem ofbe_snoc (l : List Int) (x : Int) : ofbe (l ++ [x]) = ofbe l * 256 + x := by simp [ofbe, List.foldl_append]

theorem ofbe_from (l : List Int) (h : Byt l) : ∀ a : Int, 0 ≤ a → a * 256 ^ l.length ≤ l.foldl (fun a b => a * 256 + b) a ∧ l.foldl (fun a b => a * 256 + b) a < (a + 1) * 256 ^ l.length := by
  induction l with
  | nil => intro a _; simp; omega
  | cons x l ih =>
    intro a ha
    have h2 := h x (by simp)
    have h1 := ih (fun y hy => h y (by simp [hy])) (a * 256 + x) (by omega)
    have hp : (0 : Int) ≤ 256 ^ l.length := Int.pow_nonneg (by decide)
    simp only [List.foldl_cons, List.length_cons, Int.pow_succ]
    constructor
    · refine Int.le_trans ?_ h1.1
      have : (a * 256) * 256 ^ l.length ≤ (a * 256 + x) * 256 ^ l.length := Int.mul_le_mul_of_nonneg_right (by omega) hp
      rw [Int.mul_assoc, Int.mul_comm 256] at this
      exact this
    · refine Int.lt_of_lt_of_le h1.2 ?_
      have : (a * 256 + x + 1) * 256 ^ l.length ≤ ((a + 1) * 256) * 256 ^ l.length := Int.mul_le_mul_of_nonneg_right (by omega) hp
      rw [Int.mul_assoc (a + 1), Int.mul_comm 256] at this
      exact this

theorem ofbe_bd (l : List Int) (h : Byt l) : 0 ≤ ofbe l ∧ ofbe l < 256 ^ l.length := by
  have := ofbe_from l h 0 (by decide)
  simpa [ofbe] using this

theorem pow7 (j : Nat) (h : j ≤ 7) : (256 : Int) ^ j ≤ 72057594037927936 := by
  have : j = 0 ∨ j = 1 ∨ j = 2 ∨ j = 3 ∨ j = 4 ∨ j = 5 ∨ j = 6 ∨ j = 7 := by omega
  rcases this with rfl | rfl | rfl | rfl | rfl | rfl | rfl | rfl <;> decide

theorem or_byte (N x : Int) (h0 : 0 ≤ N) (h1 : N < 72057594037927936) (h2 : 0 ≤ x) (h3 : x < 256) : bits .or .u64 (N * 256) x = N * 256 + x := by
  rw [u64_or _ _ (by omega) (by omega) h2 (by omega)]
  have := Nat.two_pow_add_eq_or_of_lt (i := 8) (b := x.toNat) (by omega) N.toNat
  have e : (N * 256).toNat = 2 ^ 8 * N.toNat := by omega
  rw [e, ← this]
  omega

/-- A Reader: block R holds its two fields. -/
def IsR (T R : Nat) (p : Value) (rest : List Int) (bad : Bool) (w : World) : Prop :=
  w.heap[R]? = some (.cells #[p, .bool bad] T (0, 0)) ∧ Src w p 1 rest.length (rest.map (Value.int .u8)) ∧ Byt rest

theorem cell_two0 {w : World} {b : Nat} {u v : Value} {t : TypeId} (h : w.heap[b]? = some (.cells #[u, v] t (0, 0))) : w.cell? ⟨b, 0, none⟩ = some u := by simp [World.cell?, h]
theorem cell_two1 {w : World} {b : Nat} {u v : Value} {t : TypeId} (h : w.heap[b]? = some (.cells #[u, v] t (0, 0))) : w.cell? ⟨b, 1, none⟩ = some v := by simp [World.cell?, h]
theorem free_two {w : World} {b : Nat} {u v : Value} {t : TypeId} (h : w.heap[b]? = some (.cells #[u, v] t (0, 0))) (i : Nat) : w.frozen? ⟨b, i, none⟩ = false := by simp [World.frozen?, h]
theorem set_two0 {w : World} {b : Nat} {u v x : Value} {t : TypeId} (h : w.heap[b]? = some (.cells #[u, v] t (0, 0))) : (w.setCell ⟨b, 0, none⟩ x).heap[b]? = some (.cells #[x, v] t (0, 0)) := by
  have hlt := lt_of_block h
  have h' : w.heap[b] = .cells #[u, v] t (0, 0) := by simpa [Array.getElem?_eq_getElem hlt] using h
  show (w.heap.modify b _)[b]? = _
  rw [Array.getElem?_eq_getElem (by simpa using hlt), Array.getElem_modify_self, h']
  rfl
theorem set_two1 {w : World} {b : Nat} {u v x : Value} {t : TypeId} (h : w.heap[b]? = some (.cells #[u, v] t (0, 0))) : (w.setCell ⟨b, 1, none⟩ x).heap[b]? = some (.cells #[u, x] t (0, 0)) := by
  have hlt := lt_of_block h
  have h' : w.heap[b] = .cells #[u, v] t (0, 0) := by simpa [Array.getElem?_eq_getElem hlt] using h
  show (w.heap.modify b _)[b]? = _
  rw [Array.getElem?_eq_getElem (by simpa using hlt), Array.getElem_modify_self, h']
  rfl

theorem Try.info5 : (Try.prog.info? 5).map (fun i => (i.zero, i.size, i.bytes)) = some (some (.int .u8 0), 1, 1) := by kernel_rfl

theorem Src.only' {w w' : World} {x : Value} {size m : Nat} {news : List Value} {L : List Nat} (h : Src w x size m news) (ho : Only w w' L) (ha : ∀ k ∈ L, ∀ i u, w.cell? ⟨k, i, none⟩ = some u → u ∉ news) : Src w' x size m news := by
  obtain ⟨ao, c, rfl, h1, h2, h3, h4, h5⟩ := h
  refine ⟨ao, c, rfl, h1, h2, h3, h4, fun b hb j u hj => ?_⟩
  have hc := h5 b hb j u hj
  have hsp := World.cell?_spot hc
  refine (World.cell?_of_block (w := w) (ho.block _ (World.block_lt_of_cell? w _ hc) ?_)).trans hc
  intro hm
  refine ha _ hm (b.add j).off u ?_ (List.mem_of_getElem? hj)
  rw [show (⟨(b.add j).block, (b.add j).off, none⟩ : Addr) = b.add j by rw [← hsp]]
  exact hc

theorem src_tail {w : World} {ao : Option Addr} {n c k : Nat} {cs : List Value} (h : Src w (.slice ao n c) 1 n cs) (hk : k ≤ n) :
    (c = k → Src w (.slice ao (n - k) 0) 1 (n - k) (cs.drop k)) ∧ Src w (.slice (ao.map (fun x => x.add k)) (n - k) (c - k)) 1 (n - k) (cs.drop k) := by
  obtain ⟨ao', c', he, h1, h2, h3, h4, h5⟩ := h
  simp only [Value.slice.injEq] at he
  obtain ⟨rfl, _, rfl⟩ := he
  constructor
  · rintro rfl
    have e : n - c = 0 := by omega
    refine ⟨ao, 0, rfl, by omega, Nat.zero_le _, by simp [h3], fun _ => ⟨e, rfl⟩, fun b hb j u hj => ?_⟩
    simp at hj
    have := List.length_drop (i := c) (l := cs)
    have hn := (List.getElem?_eq_some_iff.1 hj).1
    omega
  · refine ⟨_, c - k, rfl, by omega, by omega, by simp [h3], fun hn => ?_, fun b hb j u hj => ?_⟩
    · have := h4 (by simpa using hn); omega
    · cases ao with
      | none => simp at hb
      | some a =>
        obtain rfl : b = a.add k := by simpa using hb.symm
        rw [List.getElem?_drop] at hj
        have := h5 a rfl (k + j) u hj
        have e : (a.add k).add j = a.add (k + j) := by
          unfold Addr.add
          split <;> split <;> (try split) <;> simp_all <;> omega
        rw [e]; exact this

theorem src_take {w : World} {ao : Option Addr} {n c k : Nat} {cs : List Value} (h : Src w (.slice ao n c) 1 n cs) (hk : k ≤ n) : Src w (.slice ao k c) 1 k (cs.take k) := by
  obtain ⟨ao', c', he, h1, h2, h3, h4, h5⟩ := h
  simp only [Value.slice.injEq] at he
  obtain ⟨rfl, _, rfl⟩ := he
  refine ⟨ao, c, rfl, by omega, h2, by simp [h3]; omega, fun hn => ?_, fun b hb j u hj => ?_⟩
  · have := h4 hn; exact ⟨by omega, this.2⟩
  · rw [List.getElem?_take] at hj
    split at hj
    · exact h5 b hb j u hj
    · cases hj

theorem cells_two {w : World} {b : Nat} {u v : Value} {t : TypeId} (h : w.heap[b]? = some (.cells #[u, v] t (0, 0))) : ∀ i x, w.cell? ⟨b, i, none⟩ = some x → x = u ∨ x = v := by
  intro i x hx
  simp [World.cell?, h] at hx
  match i, hx with
  | 0, hx => left; simpa using hx.symm
  | 1, hx => right; simpa using hx.symm
  | i + 2, hx => simp at hx

/-- A Reader's slice reads as it did while the Reader's own block is written. -/
theorem isr_src {T R : Nat} {ao : Option Addr} {n c : Nat} {rest : List Int} {bad : Bool} {w w' : World} {x : Value} {m : Nat} (hR : w.heap[R]? = some (.cells #[.slice ao n c, .bool bad] T (0, 0))) (h : Src w x 1 m (rest.map (Value.int .u8))) (ho : Only w w' [R]) : Src w' x 1 m (rest.map (Value.int .u8)) := by
  refine Src.only' h ho fun k hk i u hu hm => ?_
  obtain rfl : k = R := by simpa using hk
  obtain ⟨y, _, rfl⟩ := List.mem_map.1 hm
  rcases cells_two hR i _ hu with h | h <;> simp at h

theorem isr_bad {T R : Nat} {p : Value} {l : List Int} {b : Bool} {w : World} (h : IsR T R p l b w) : IsR T R p l true (w.setCell ⟨R, 1, none⟩ (.bool true)) := by
  obtain ⟨h1, h2, h3⟩ := h
  obtain ⟨ao, c, rfl, _⟩ := id h2
  exact ⟨set_two1 h1, isr_src h1 h2 (Only.setCell _ _ _ [R] (by simp)), h3⟩

/-- What Num gives, and what it leaves: number, rest, fault. -/
def RN (k : Int) (l : List Int) (b : Bool) : Int × List Int × Bool :=
  if b = false ∧ 0 ≤ k ∧ k ≤ 8 ∧ k ≤ l.length then (ofbe (l.take k.toNat), l.drop k.toNat, false) else (0, l, true)

theorem RN_bd (k : Nat) (l : List Int) (b : Bool) (h : Byt l) : 0 ≤ (RN k l b).1 ∧ (RN k l b).1 < 256 ^ k ∧ (RN k l b).2.1.length ≤ l.length ∧ Byt (RN k l b).2.1 := by
  unfold RN
  have hp : (0 : Int) < 256 ^ k := Int.pow_pos (by decide)
  split
  · rename_i hc
    have := ofbe_bd (l.take k) (fun y hy => h y (List.mem_of_mem_take hy))
    rw [List.length_take, Nat.min_eq_left (by omega)] at this
    exact ⟨by simpa using this.1, by simpa using this.2, by simp, fun y hy => h y (List.mem_of_mem_drop hy)⟩
  · exact ⟨Int.le_refl _, hp, Nat.le_refl _, h⟩

/-- Flag's answer; a fault behind Flag or Count; Count's answer. -/
def FV (n : Int) : Bool := n == 1
def FB (b : Bool) (m n : Int) : Bool := b || decide (m < n)
def CV (m n : Int) : Int := if m < n then 0 else n
theorem FB_yes {b : Bool} {m n : Int} (h : m < n) : FB b m n = true := by simp [FB, h]
theorem FB_no {b : Bool} {m n : Int} (h : ¬ m < n) : FB b m n = b := by simp [FB, h]

/-- A Reader whose slice has moved on by k. -/
theorem isr_adv {T R : Nat} {ao : Option Addr} {c k : Nat} {l : List Int} {b : Bool} {w1 w2 : World} {v' : Value} (hr : IsR T R (.slice ao l.length c) l b w1) (h12 : Only w1 w2 []) (hk : k ≤ l.length)
    (hv : (c = k ∧ v' = .slice ao (l.length - k) 0) ∨ v' = .slice (ao.map (fun x => x.add k)) (l.length - k) (c - k)) :
    v'.ownBlock = (Value.slice ao l.length c).ownBlock ∧ IsR T R v' (l.drop k) b (w2.setCell ⟨R, 0, none⟩ v') ∧ Only w1 (w2.setCell ⟨R, 0, none⟩ v') [R] := by
  obtain ⟨hR, hsrc, hb⟩ := hr
  have ho : Only w1 (w2.setCell ⟨R, 0, none⟩ v') [R] := Only.trans (h12.mono (by simp)) (Only.setCell _ _ _ _ (by simp))
  have hst := src_tail hsrc hk
  have hs : Src w1 v' 1 (l.drop k).length ((l.drop k).map (Value.int .u8)) := by
    rw [List.length_drop, List.map_drop]
    rcases hv with ⟨h, rfl⟩ | rfl
    · exact hst.1 h
    · exact hst.2
  refine ⟨?_, ⟨set_two0 (h12.at hR (by simp)), isr_src hR hs ho, fun y hy => hb y (List.mem_of_mem_drop hy)⟩, ho⟩
  rcases hv with ⟨h, rfl⟩ | rfl
  · cases ao <;> rfl
  · cases ao with
    | none => rfl
    | some a => simp only [Option.map_some, Value.ownBlock, Option.some.injEq]; unfold Addr.add; split <;> rfl

/-- The fault behind Bytes, the bytes that it gives, the rest. -/
def BF (b : Bool) (most n : Int) (len : Nat) : Bool := b || decide (most < 0) || decide (most < n) || decide ((len : Int) < n)
def BV (f : Bool) (n : Int) (l : List Int) : List Int := if f then [] else l.take n.toNat
def BR (f : Bool) (n : Int) (l : List Int) : List Int := if f then l else l.drop n.toNat

end Go.Proofs.Yteljkfihmbddaaa

/- The contracts of the Writer of layer 9 (wire): Num, Flag, Bytes, Done lay the document's bytes, for writers whose row is shorter than the bounds that each names. -/
namespace Go.Proofs.Yteljkfihmbddaaa
open Go.RowKit Go.Pw
set_option linter.unusedVariables false

/-- The big-endian bytes of n, k of them. -/
def be (n : Int) : Nat → List Int
  | 0 => []
  | k + 1 => (n / 256 ^ k) % 256 :: be n k

theorem be_len (n : Int) (k : Nat) : (be n k).length = k := by
  induction k with
  | zero => rfl
  | succ k ih => simp [be, ih]

theorem be_head (n : Int) (k : Nat) (hn0 : 0 ≤ n) : IntKind.u8.wrap (n / 2 ^ (8 * k)) = (n / 256 ^ k) % 256 := by
  rw [show (2 : Int) ^ (8 * k) = 256 ^ k by rw [Int.pow_mul]; rfl]
  simp [IntKind.wrap, IntKind.bits, IntKind.signed]

end Go.Proofs.Yteljkfihmbddaaa

/- Plain laws of layer 9's numbers: what is laid is read back. -/
namespace Go.Proofs.Yteljkfihmbddaaa
open Go.RowKit Go.Pw
set_option linter.unusedVariables false

theorem Byt.app {a b : List Int} (ha : Byt a) (hb : Byt b) : Byt (a ++ b) := fun x hx => by
  rcases List.mem_append.1 hx with h | h
  · exact ha x h
  · exact hb x h
theorem Byt.nil : Byt [] := fun x hx => by simp at hx

theorem be_byt (n : Int) (k : Nat) : Byt (be n k) := by
  induction k with
  | zero => exact Byt.nil
  | succ k ih =>
    intro x hx
    rcases List.mem_cons.1 hx with rfl | h
    · constructor <;> omega
    · exact ih x h

theorem foldl_lin (l : List Int) : ∀ a : Int, l.foldl (fun a b => a * 256 + b) a = a * 256 ^ l.length + ofbe l := by
  induction l with
  | nil => intro a; simp [ofbe]
  | cons x l ih =>
    intro a
    have h0 := ih (a * 256 + x)
    have h1 := ih (0 * 256 + x)
    have e : ofbe (x :: l) = (0 * 256 + x) * 256 ^ l.length + ofbe l := h1
    rw [e]
    simp only [List.foldl_cons, List.length_cons, Int.pow_succ]
    rw [h0, Int.add_mul, Int.add_mul, Int.mul_assoc, Int.mul_comm 256]
    omega

theorem ofbe_cons (x : Int) (l : List Int) : ofbe (x :: l) = x * 256 ^ l.length + ofbe l := by
  have := foldl_lin l (0 * 256 + x)
  simpa [ofbe] using this

theorem ofbe_be (n : Int) (k : Nat) (hn : 0 ≤ n) : ofbe (be n k) = n % 256 ^ k := by
  induction k with
  | zero => simp [be, ofbe]
  | succ k ih =>
    rw [be, ofbe_cons, be_len, ih, Int.pow_succ]
    have hp : (0 : Int) < 256 ^ k := Int.pow_pos (by decide)
    generalize (256 : Int) ^ k = m at *
    have h1 := Int.mul_ediv_add_emod n m
    have h2 := Int.mul_ediv_add_emod (n / m) 256
    have h3 : 0 ≤ n % m ∧ n % m < m := ⟨Int.emod_nonneg _ (by omega), Int.emod_lt_of_pos _ hp⟩
    have h4 : 0 ≤ n / m % 256 ∧ n / m % 256 < 256 := by omega
    have hd : n = (n / m / 256) * (m * 256) + (n / m % 256 * m + n % m) := by
      have e1 : n / m / 256 * (m * 256) = m * (256 * (n / m / 256)) := by
        rw [Int.mul_comm m 256, ← Int.mul_assoc, Int.mul_comm (n / m / 256) 256, Int.mul_comm m]
      have e2 : m * (n / m) = m * (256 * (n / m / 256)) + m * (n / m % 256) := by rw [← Int.mul_add]; congr 1; exact h2.symm
      rw [e1, Int.mul_comm (n / m % 256) m]
      omega
    have hlt : n / m % 256 * m + n % m < m * 256 := by
      have : n / m % 256 * m ≤ 255 * m := Int.mul_le_mul_of_nonneg_right (by omega) (by omega)
      omega
    have hge : 0 ≤ n / m % 256 * m + n % m := by
      have : 0 ≤ n / m % 256 * m := Int.mul_nonneg h4.1 (by omega)
      omega
    conv => rhs; rw [hd]
    rw [Int.add_comm (n / m / 256 * (m * 256)), Int.add_mul_emod_self_right, Int.emod_eq_of_lt hge hlt]

/-- What Num has laid is read back. -/
theorem RN_be (n : Int) (k : Nat) (l : List Int) (hn : 0 ≤ n) (hn1 : n < 256 ^ k) (hk : k ≤ 8) : RN k (be n k ++ l) false = (n, l, false) := by
  have hlen := be_len n k
  unfold RN
  rw [if_pos ⟨rfl, by omega, by omega, by simp [hlen]; omega⟩]
  simp only [Int.toNat_natCast]
  rw [List.take_append_of_le_length (by omega), List.take_of_length_le (by omega), ofbe_be n k hn, Int.emod_eq_of_lt hn hn1, List.drop_append_of_le_length (by omega), List.drop_of_length_le (by omega)]
  rfl

theorem pow4 : (256 : Int) ^ 4 = 4294967296 := by decide

/-- What Bytes has laid is read back. -/
theorem RB_be (ps l : List Int) (most : Int) (hm : (ps.length : Int) ≤ most) (hp : (ps.length : Int) < 4294967296) :
    RN 4 (be ps.length 4 ++ ps ++ l) false = ((ps.length : Int), ps ++ l, false) ∧ BF false most ps.length (ps ++ l).length = false ∧ BV false ps.length (ps ++ l) = ps ∧ BR false ps.length (ps ++ l) = l := by
  refine ⟨?_, ?_, by simp [BV], by simp [BR]⟩
  · rw [List.append_assoc]
    exact RN_be ps.length 4 (ps ++ l) (by omega) (by rw [pow4]; exact hp) (by decide)
  · simp only [BF, Bool.false_or, Bool.or_eq_false_iff, decide_eq_false_iff_not, List.length_append]
    omega

theorem RB_be0 (ps : List Int) (most : Int) (hm : (ps.length : Int) ≤ most) (hp : (ps.length : Int) < 4294967296) :
    RN 4 (be ps.length 4 ++ ps) false = ((ps.length : Int), ps, false) ∧ BF false most ps.length ps.length = false ∧ BV false ps.length ps = ps ∧ BR false ps.length ps = [] := by
  have := RB_be ps [] most hm hp
  simpa using this
end Go.Proofs.Yteljkfihmbddaaa

/- The contracts of the reference of layers 9, 11, 13 and 14 (pawlref09): each function gives the document's bytes behind those that it is handed, in new memory, for bytes shorter than the bounds that each contract names. -/
namespace Go.Proofs.Yteljkfihmbddaaa
open Go.RowKit Go.Pw
set_option linter.unusedVariables false

/-- The answer is a row of the call's own, which holds xs; nothing that was there has turned. -/
def Fresh (xs : List Int) (w : World) (e : Ending) (w' : World) : Prop :=
  ∃ v, e = .returned v ∧ w'.ownsRow 0 5 1 v xs.length (xs.map (Value.int .u8)) ∧ SoN w (.slice none 0 0) v ∧ Only w w' []

/-- A slice of bytes that is read. -/
def Rd (w : World) (v : Value) (xs : List Int) : Prop := Src w v 1 xs.length (xs.map (Value.int .u8))

theorem Rd.nil (w : World) : Rd w (.slice none 0 0) [] := ⟨none, 0, rfl, Nat.le_refl _, Nat.zero_le _, rfl, fun _ => ⟨rfl, rfl⟩, by simp⟩
theorem Rd.new {w w' : World} {v : Value} {xs : List Int} (h : Rd w v xs) (ho : Only w w' []) : Rd w' v xs := Src.off h ho (fun _ _ _ => by simp)
theorem Rd.slice {w : World} {v : Value} {xs : List Int} (h : Rd w v xs) : ∃ ao c, v = .slice ao xs.length c := by
  obtain ⟨ao, c, h, _⟩ := h
  exact ⟨ao, c, h⟩

theorem own_rd {w : World} {v : Value} {xs : List Int} (h : w.ownsRow 0 5 1 v xs.length (xs.map (Value.int .u8))) : Rd w v xs := own_src h

set_option maxHeartbeats 800000 in
theorem rfnum_any (v0 : Value) (xs : List Int) (n : Int) (k : Nat) (w : World) (h0 : Rd w v0 xs) (hl : xs.length ≤ 1000000) (hk : k ≤ 8) (hn0 : 0 ≤ n) (hn1 : n < 18446744073709551616) :
    Calls Try.prog 43 #[v0, .int .u64 n, .int .i64 k] w (Fresh (xs ++ be n k) w) := by
  obtain ⟨i0, hi, hz0, hz1, hz2⟩ := info_parts Try.info5
  obtain ⟨ao, c, rfl⟩ := h0.slice
  have h0 := Lib.hid h0
  go_enter Try.func43, Try.ntmps43
  go_wp2_with (at_builtin; refine wpList_append_src rfl _ _ 22 rfl 5 i0 (.int .u8 0) 1 1 Try.underlying22 hi hz0 hz1 hz2 rfl (by decide) (.slice none 0 0) 0 [] rfl (World.ownsRow_nil _ _ _ _) _ xs.length _ rfl h0.out (one_ints _ _) (by unfold maxLen; omega) (by omega) ?_; intro v' w2 g1 g2 g3; simp only [Nat.zero_add, List.nil_append] at g1; obtain ⟨aq, cq, rfl⟩ := own_slice g1)
  have ho2 : Only w w2 [] := Only.grown g2 (by simp [Value.ownBlock])
  clear g2
  go_loopw [7, 8] (fun vv i wr => ∃ j : Nat, i = .int .i64 ((j : Int) - 1) ∧ j ≤ k ∧ ∃ ys, wr.ownsRow 0 5 1 vv ys.length (ys.map (Value.int .u8)) ∧ SoN w (.slice none 0 0) vv ∧ Only w wr [] ∧ ys ++ be n j = xs ++ be n k ∧ ys.length ≤ 1000000 + k - j)
    (fun _ i _ => (intOf i + 1).toNat)
  case atStart => exact ⟨k, rfl, Nat.le_refl _, xs, g1, g3, ho2, rfl, by omega⟩
  case round =>
    obtain ⟨j, rfl, hj, ys, hown, hson, honly, hys, hyl⟩ := hrel
    clear g1 g3 ho2
    by_cases hj0 : j = 0
    · subst hj0
      obtain ⟨ao', cc', rfl⟩ := own_slice hown
      have Hys := Lib.hid hys
      clear hys
      go_wp2
      go_ret
      have e : ys = xs ++ be n k := by simpa [be] using Hys.out
      subst e
      exact ⟨_, rfl, hown, hson, honly⟩
    · obtain ⟨j', rfl⟩ : ∃ j', j = j' + 1 := ⟨j - 1, by omega⟩
      obtain ⟨ao', cc', rfl⟩ := own_slice hown
      have p1 : 0 ≤ 8 * (j' : Int) := by omega
      have m1 : (8 * (j' : Int)).toNat = 8 * j' := by omega
      have Hys := Lib.hid hys
      clear hys
      go_wp2_with (at_builtin; refine wpList_append_src rfl _ _ 22 rfl 5 i0 (.int .u8 0) 1 1 Try.underlying22 hi hz0 hz1 hz2 rfl (by decide) (.slice ao' ys.length cc') ys.length _ rfl (hown.alloc _) _ 1 _ rfl (src_one wr (.int .u8 (IntKind.u8.wrap (n / 2 ^ (8 * j')))) 5) (by simp [Value.oneCell']) (by unfold maxLen; omega) (by omega) ?_; intro v' w2 q1 q2 q3)
      go_roundw
      case rel =>
        refine ⟨j', rfl, by omega, ys ++ [IntKind.u8.wrap (n / 2 ^ (8 * j'))], by simpa using q1, hson.trans (q3.weaken (by simp)) honly.size, ?_, ?_, by simp; omega⟩
        · refine (honly.trans (Only.alloc wr _ [])).step (Only.grown q2 (L := (Value.slice ao' ys.length cc').ownBlock.toList) (fun k hk => by simp [hk])) (fun i hi => ?_)
          rcases hson i (by simpa using hi) with h | h
          · simp [Value.ownBlock] at h
          · exact .inr h
        · rw [← Hys.out]; simp [be, be_head n j' hn0]
      case measure => simp [intOf]

set_option maxHeartbeats 800000 in
theorem rfbytes_any (v0 q : Value) (xs qs : List Int) (w : World) (h0 : Rd w v0 xs) (h1 : Rd w q qs) (hl : xs.length ≤ 900000) (hq : qs.length ≤ 1000000000) :
    Calls Try.prog 42 #[v0, q] w (Fresh (xs ++ be qs.length 4 ++ qs) w) := by
  obtain ⟨i0, hi, hz0, hz1, hz2⟩ := info_parts Try.info5
  obtain ⟨ao, c, rfl⟩ := h0.slice
  obtain ⟨aq, cq, rfl⟩ := h1.slice
  go_enter Try.func42, Try.ntmps42
  go_wp2_with fail
  refine (rfnum_any _ xs qs.length 4 _ h0 (by omega) (by decide) (by omega) (by omega)).mono ?_
  rintro e w1 ⟨v1, rfl, g1, g2, g3⟩
  have hq1 := h1.new g3
  clear h0 h1
  have hyl : (xs ++ be qs.length 4).length ≤ 900004 := by simp [be_len]; omega
  have e4 := Lib.hid (show xs ++ be qs.length 4 ++ qs = (xs ++ be qs.length 4) ++ qs from rfl)
  obtain ⟨ys, hys⟩ : ∃ ys, ys = xs ++ be qs.length 4 := ⟨_, rfl⟩
  rw [← hys] at g1 hyl
  have Hys := Lib.hid hys
  clear hys e4
  obtain ⟨a1, c1, rfl⟩ := own_slice g1
  go_wp2_with (at_builtin; refine wpList_append_src rfl _ _ 22 rfl 5 i0 (.int .u8 0) 1 1 Try.underlying22 hi hz0 hz1 hz2 rfl (by decide) (.slice a1 ys.length c1) ys.length _ rfl g1 _ qs.length _ rfl hq1 (one_ints _ _) (by unfold maxLen; omega) (by omega) ?_; intro v' w2 q1 q2 q3; obtain ⟨a2, c2, rfl⟩ := own_slice q1)
  go_ret
  rw [← Hys.out]
  refine ⟨_, rfl, by rw [List.length_append, List.map_append]; exact q1, g2.trans q3 g3.size, g3.step (Only.grown q2 (L := (Value.slice a1 ys.length c1).ownBlock.toList) (fun k hk => by simp [hk])) (fun i hi => ?_)⟩
  rcases g2 i (by simpa using hi) with h | h
  · simp [Value.ownBlock] at h
  · exact .inr h

theorem rfnum4 (v0 : Value) (xs : List Int) (n : Int) (w : World) (h0 : Rd w v0 xs) (hl : xs.length ≤ 1000000) (hn0 : 0 ≤ n) (hn1 : n < 18446744073709551616) :
    Calls Try.prog 43 #[v0, .int .u64 n, .int .i64 4] w (Fresh (xs ++ be n 4) w) := rfnum_any v0 xs n 4 w h0 hl (by decide) hn0 hn1

/-- A Fresh row, its bytes under a name, its value written out. -/
theorem Fresh.name {xs : List Int} {w : World} {e : Ending} {w' : World} (h : Fresh xs w e w') : ∃ ys ao c, Hid (ys = xs) ∧ e = .returned (.slice ao ys.length c) ∧ w'.ownsRow 0 5 1 (.slice ao ys.length c) ys.length (ys.map (Value.int .u8)) ∧ SoN w (.slice none 0 0) (.slice ao ys.length c) ∧ Only w w' [] := by
  obtain ⟨v, rfl, h1, h2, h3⟩ := h
  obtain ⟨ao, c, rfl⟩ := own_slice h1
  exact ⟨xs, ao, c, rfl, rfl, h1, h2, h3⟩

set_option maxHeartbeats 400000 in
theorem rfflag_any (v0 : Value) (xs : List Int) (b : Bool) (w : World) (h0 : Rd w v0 xs) (hl : xs.length ≤ 1000000) :
    Calls Try.prog 44 #[v0, .bool b] w (Fresh (xs ++ [if b then 1 else 0]) w) := by
  obtain ⟨ao, c, rfl⟩ := h0.slice
  cases b
  · go_enter Try.func44, Try.ntmps44
    go_wp2_with fail
    refine (rfnum_any _ xs 0 1 _ h0 hl (by decide) (by decide) (by decide)).mono fun e w1 hq => ?_
    obtain ⟨ys, a1, c1, Hys, rfl, g1, g2, g3⟩ := hq.name
    clear hq
    go_wp2
    go_ret
    exact ⟨_, rfl, (Hys.out : ys = xs ++ [0]) ▸ g1, g2, g3⟩
  · go_enter Try.func44, Try.ntmps44
    go_wp2_with fail
    refine (rfnum_any _ xs 1 1 _ h0 hl (by decide) (by decide) (by decide)).mono fun e w1 hq => ?_
    obtain ⟨ys, a1, c1, Hys, rfl, g1, g2, g3⟩ := hq.name
    clear hq
    go_wp2
    go_ret
    exact ⟨_, rfl, (Hys.out : ys = xs ++ [1]) ▸ g1, g2, g3⟩

theorem u64_u32 (u : Int) : IntKind.u64.wrap (IntKind.u32.wrap u) = IntKind.u32.wrap u := by simp [IntKind.wrap, IntKind.bits, IntKind.signed]; omega
theorem u32_lo (u : Int) : 0 ≤ IntKind.u32.wrap u := by simp [IntKind.wrap, IntKind.bits, IntKind.signed]; omega
theorem u32_hi (u : Int) : IntKind.u32.wrap u < 18446744073709551616 := by simp [IntKind.wrap, IntKind.bits, IntKind.signed]; omega

theorem fresh_end {xs ys : List Int} {w w1 w2 : World} {v : Value} (h : w2.ownsRow 0 5 1 v ys.length (ys.map (Value.int .u8))) (hs : SoN w1 (.slice none 0 0) v) (hz : w.heap.size ≤ w1.heap.size) (ho : Only w w2 []) (e : ys = xs) : Fresh xs w (.returned v) w2 := by
  subst e
  exact ⟨v, rfl, h, hs.weaken hz, ho⟩
theorem u64_in (n : Int) (h0 : 0 ≤ n) (h1 : n < 4294967296) : IntKind.u64.wrap n = n := by simp [IntKind.wrap, IntKind.bits, IntKind.signed]; omega

/-- The bytes of a device; of what is public of it. -/
def whoB (u d : Int) : List Int := be (IntKind.u32.wrap u) 4 ++ be (IntKind.u32.wrap d) 4
def identB (a s : List Int) : List Int := be a.length 4 ++ a ++ be s.length 4 ++ s

set_option maxHeartbeats 800000 in
theorem rfwho_any (v0 : Value) (xs : List Int) (u d : Int) (w : World) (h0 : Rd w v0 xs) (hl : xs.length ≤ 900000) :
    Calls Try.prog 41 #[v0, .agg #[.int .i64 u, .int .i64 d]] w (Fresh (xs ++ whoB u d) w) := by
  obtain ⟨ao, c, rfl⟩ := h0.slice
  go_enter Try.func41, Try.ntmps41
  go_wp2_with fail
  obtain ⟨W, X, hW, hX, hb, hoW, _, _⟩ := new_block w (.cells #[.int .i64 u, .int .i64 d] 30)
  rw [← hW, ← hX]
  clear hW hX
  have Sk : ∀ w', Only W w' [] → w'.cell? ⟨X, 0, none⟩ = some (.int .i64 u) ∧ w'.cell? ⟨X, 1, none⟩ = some (.int .i64 d) := fun w' ho => ⟨ho.cell_in hb (by simp) 0, ho.cell_in hb (by simp) 1⟩
  have Hb := Lib.hid hb
  have hod := Only.drew W []
  have h1 := h0.new hoW
  clear hb h0
  have e1 : IntKind.u64.wrap (IntKind.u32.wrap u) = IntKind.u32.wrap u := u64_u32 u
  have e2 : IntKind.u64.wrap (IntKind.u32.wrap d) = IntKind.u32.wrap d := u64_u32 d
  go_region_held3 (fun w' => w'.cell? ⟨X, 0, none⟩ = some (.int .i64 u) ∧ w'.cell? ⟨X, 1, none⟩ = some (.int .i64 d)) (exact Sk _ (by assumption))
    (first
      | (go_at_call 43; (with_reducible refine (rfnum4 (.slice ao xs.length c) xs (IntKind.u32.wrap u) _ (h1.new hod) (by omega) (u32_lo u) (u32_hi u)).mono fun e w1 hq => ?_); obtain ⟨ys, a1, c1, Hys, rfl, g1, g2, g3⟩ := hq.name; have g4 := hod.trans g3; have gl : ys.length ≤ 950000 := by rw [Hys.out]; simp [be_len]; omega)
      | (go_at_call 43; (with_reducible refine (rfnum4 (.slice a1 ys.length c1) ys (IntKind.u32.wrap d) _ (own_rd g1) (by omega) (u32_lo d) (u32_hi d)).mono fun e w2 hq2 => ?_); obtain ⟨zs, a2, c2, Hzs, rfl, k1, k2, k3⟩ := hq2.name; have k4 := g4.trans k3))
  go_wp2
  go_ret
  exact fresh_end k1 k2 (hoW.trans g4).size (hoW.trans k4) (by rw [Hzs.out, Hys.out, List.append_assoc]; rfl)

set_option maxHeartbeats 800000 in
theorem rfident_any (v0 va vs : Value) (xs ags sgs : List Int) (w : World) (h0 : Rd w v0 xs) (ha : Rd w va ags) (hs : Rd w vs sgs) (hl : xs.length + ags.length + sgs.length ≤ 800000) :
    Calls Try.prog 40 #[v0, .agg #[va, vs]] w (Fresh (xs ++ identB ags sgs) w) := by
  obtain ⟨ao, c, rfl⟩ := h0.slice
  obtain ⟨aa, ca, rfl⟩ := ha.slice
  obtain ⟨az, cs, rfl⟩ := hs.slice
  go_enter Try.func40, Try.ntmps40
  go_wp2_with fail
  obtain ⟨W, X, hW, hX, hb, hoW, _, _⟩ := new_block w (.cells #[.slice aa ags.length ca, .slice az sgs.length cs] 37)
  rw [← hW, ← hX]
  clear hW hX
  have Sk : ∀ w', Only W w' [] → w'.cell? ⟨X, 0, none⟩ = some (.slice aa ags.length ca) ∧ w'.cell? ⟨X, 1, none⟩ = some (.slice az sgs.length cs) := fun w' ho => ⟨ho.cell_in hb (by simp) 0, ho.cell_in hb (by simp) 1⟩
  have hod := Only.drew W []
  have h1 := h0.new (hoW.trans hod)
  have h2 := ha.new (hoW.trans hod)
  have h3 := hs.new (hoW.trans hod)
  clear hb h0 ha hs
  go_region_held3 (fun w' => w'.cell? ⟨X, 0, none⟩ = some (.slice aa ags.length ca) ∧ w'.cell? ⟨X, 1, none⟩ = some (.slice az sgs.length cs)) (exact Sk _ (by assumption))
    (first
      | (go_at_call 42; (with_reducible refine (rfbytes_any (.slice ao xs.length c) (.slice aa ags.length ca) xs ags _ h1 h2 (by omega) (by omega)).mono fun e w1 hq => ?_); obtain ⟨ys, a1, c1, Hys, rfl, g1, g2, g3⟩ := hq.name; have g4 := hod.trans g3; have gl : ys.length ≤ xs.length + ags.length + 4 := by rw [Hys.out]; simp [be_len]; omega)
      | (go_at_call 42; (with_reducible refine (rfbytes_any (.slice a1 ys.length c1) (.slice az sgs.length cs) ys sgs _ (own_rd g1) (h3.new g3) (by omega) (by omega)).mono fun e w2 hq2 => ?_); obtain ⟨zs, a2, c2, Hzs, rfl, k1, k2, k3⟩ := hq2.name; have k4 := g4.trans k3))
  go_wp2
  go_ret
  exact fresh_end k1 k2 (hoW.trans g4).size (hoW.trans k4) (by rw [Hzs.out, Hys.out]; simp [identB])

/-- The bytes of a Hello; of a head. -/
def helloB (a s key : List Int) (signed : Int) (has : Bool) (once : Int) : List Int :=
  identB a s ++ be key.length 4 ++ key ++ be signed 4 ++ [if has then 1 else 0] ++ if has then be once 4 else []
def headB (key : List Int) (prev n : Int) : List Int := be key.length 4 ++ key ++ be prev 4 ++ be n 4

/-- A number of four bytes. -/
def U32 (n : Int) : Prop := 0 ≤ n ∧ n < 4294967296

end Go.Proofs.Yteljkfihmbddaaa

