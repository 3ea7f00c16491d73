/- The contracts of fit, carry and mul of layer 5 (chacha). -/
import Derived.Test.YtemmdhfmdgpfmaaRows
import Derived.Test.YtemmdhfmdgpfmaaTagP
import Derived.Test.YtemmdhfmdgpfmaaRegT
import Derived.Test.YtemmdhfmdgpfmaaRegion
import Derived.Laws.CopyOwn
import Derived.Laws.OwnMore
import Derived.IntWalk
namespace Go.Proofs.Ytemmdhfmdgpfmaa
open Go.RowKit Go.Pw
set_option linter.unusedVariables false

theorem Try.info5 : (Try.prog.info? 5).map (fun i => (i.zero, i.size, i.bytes)) = some (some (.int .u8 0), 1, 1) := by kernel_rfl

def Fresh (xs : List Int) (w : World) (e : Ending) (w' : World) : Prop := ∃ v, e = .returned v ∧ w'.ownsRow 0 5 1 v xs.length (xs.map (Value.int .u8)) ∧ SoN w (.slice none 0 0) v ∧ Only w w' []
theorem Fresh.name {xs : List Int} {w : World} {e : Ending} {w' : World} (h : Fresh xs w e w') : ∃ ys ao c, Hid (ys = xs) ∧ e = .returned (.slice ao ys.length c) ∧ w'.ownsRow 0 5 1 (.slice ao ys.length c) ys.length (ys.map (Value.int .u8)) ∧ SoN w (.slice none 0 0) (.slice ao ys.length c) ∧ Only w w' [] := by
  obtain ⟨v, rfl, h1, h2, h3⟩ := h
  obtain ⟨ao, c, rfl⟩ := own_slice h1
  exact ⟨xs, ao, c, rfl, rfl, h1, h2, h3⟩

theorem only_of_below {w w' : World} {B : Nat} (h : Below B w w') (hB : w.heap.size ≤ B) : Only w w' [] :=
  ⟨h.os, h.tape, h.output, h.size, fun k hk _ => h.block k (by omega)⟩

/-- A row of noughts that is made. -/
theorem make_bytes (w : World) (k : Nat) (hk : k ≤ 1000000) :
    (Instr.makeSlice 22 (.int .i64 (k : Int)) (.int .i64 (k : Int))).run Try.prog w = .ok (.slice (some ⟨w.heap.size, 0, none⟩) k k) (w.alloc (.cells ((List.replicate k (Value.int .u8 0)).toArray) 5)) := by
  obtain ⟨i0, hi, hz0, hz1, hz2⟩ := info_parts Try.info5
  have h := run_make (P := Try.prog) w 22 5 i0 (.int .u8 0) Try.underlying22 hi hz0 .i64 .i64 k k (by omega) (Int.le_refl _) (by rw [hz2]; omega) (by omega)
  rw [hz1, Int.toNat_natCast, Nat.mul_one] at h
  rw [h]
  have : madeCells (Value.int .u8 0).cells k = (List.replicate k (Value.int .u8 0)).toArray := by
    apply Array.toList_inj.1
    rw [show (Value.int .u8 0).cells = #[Value.int .u8 0] from rfl, toList_madeCells_one]
  rw [this]

/-- Just so many bytes. -/
def fitL (xs : List Int) (n : Nat) : List Int := xs.take n ++ List.replicate (n - xs.length) 0
theorem fitL_len (xs : List Int) (n : Nat) : (fitL xs n).length = n := by simp [fitL]; omega
theorem fitL_byt {xs : List Int} (h : ∀ x ∈ xs, 0 ≤ x ∧ x < 256) (n : Nat) : ∀ x ∈ fitL xs n, 0 ≤ x ∧ x < 256 := by
  intro x hx
  rcases List.mem_append.1 hx with hx | hx
  · exact h x (List.mem_of_mem_take hx)
  · rw [List.eq_of_mem_replicate hx]; decide
theorem fitL_same {xs : List Int} {n : Nat} (h : n ≤ xs.length) : fitL xs n = xs.take n := by
  simp [fitL, Nat.sub_eq_zero_of_le h]

set_option maxHeartbeats 800000 in
theorem fit_any (p : Value) (xs : List Int) (n : Nat) (w : World) (hp : Src w p 1 xs.length (xs.map (Value.int .u8))) (hn : n ≤ 1000000) :
    Calls Try.prog 18 #[p, .int .i64 n] w (Fresh (fitL xs n) w) := by
  obtain ⟨ao, c, rfl, h1, h2, h3, h4, h5⟩ := id hp
  have hmk := make_bytes w n hn
  have hg := heap_alloc_new w (.cells ((List.replicate n (Value.int .u8 0)).toArray) 5)
  have hoW : Only w (w.alloc (.cells ((List.replicate n (Value.int .u8 0)).toArray) 5)) [] := Only.alloc _ _ _
  have hpW := hp.off hoW (fun _ _ _ => by simp)
  generalize hV : w.alloc (.cells ((List.replicate n (Value.int .u8 0)).toArray) 5) = V at *
  have hcs : ((xs.take n).map (Value.int .u8)).length = Nat.min xs.length n := by simp; exact Nat.min_comm _ _
  have hfit : 0 + ((xs.take n).map (Value.int .u8)).length ≤ (List.replicate n (Value.int .u8 0)).length := by simp; omega
  have hpos : 0 < ((xs.take n).map (Value.int .u8)).length → (some (⟨w.heap.size, 0, none⟩ : Addr) = some ⟨w.heap.size, 0, none⟩ ∧ ∃ ad, ao = some ad ∧ ∀ j v, ((xs.take n).map (Value.int .u8))[j]? = some v → V.cell? (ad.add j) = some v) := fun hl => by
    refine ⟨rfl, ?_⟩
    obtain ⟨_, _, he, _, _, _, k4, k5⟩ := hpW
    simp only [Value.slice.injEq] at he
    obtain ⟨rfl, _, rfl⟩ := he
    cases ao with
    | none =>
      have := (k4 rfl).1
      simp at hl
      omega
    | some ad =>
      refine ⟨ad, rfl, fun j v hj => k5 ad rfl j v ?_⟩
      rw [List.map_take, List.getElem?_take] at hj
      split at hj
      · exact hj
      · cases hj
  have hzs : (w.heap.size : Nat) < V.heap.size := (Array.getElem?_eq_some_iff.1 hg).1
  have HV := Lib.hid hV
  clear hV h3 h4 h5
  have hfin : Hid (splice (List.replicate n (Value.int .u8 0)) 0 ((xs.take n).map (Value.int .u8)) = (fitL xs n).map (Value.int .u8)) := by
    show splice _ _ _ = _
    simp only [splice, List.take_zero, List.nil_append, Nat.zero_add, List.drop_replicate, List.length_map, List.length_take, fitL, List.map_append, List.map_replicate]
    congr 2
    omega
  go_enter Try.func18, Try.ntmps18
  go_wp2_with (refine wpList_copy_splice rfl _ _ 22 22 rfl 5 Try.underlying22 (by kernel_rfl) (some ⟨w.heap.size, 0, none⟩) ao n n xs.length c rfl rfl w.heap.size 0 (List.replicate n (Value.int .u8 0)) 5 hg ((xs.take n).map (Value.int .u8)) hcs hpos hfit (one_ints _ _) w.heap.size V (Below.refl _ _) (Nat.le_refl _) ?_; intro w4 hg4 hb4)
  go_ret
  have hg5 := hg4.out
  rw [hfin.out] at hg5
  refine ⟨_, rfl, ⟨by simp,   .inr ⟨w.heap.size, n, _, by rw [fitL_len]; rfl, Nat.zero_le _, hg5, by rw [fitL_len]; exact Nat.le_refl _, by unfold maxLen; omega, by simp [fitL_len], ?_⟩⟩, fun k hk => .inr (by simp [Value.ownBlock] at hk; omega), ?_⟩
  · rw [List.take_of_length_le (by simp)]
  · have ho : Only V w4 [w.heap.size] := ⟨hb4.os, hb4.tape, hb4.output, hb4.size, fun k hk hn => hb4.block k (by have := HV.out; rw [← this] at hk; simp at hk hn; omega)⟩
    exact hoW.new ho (by simp)

/-- An array of five, as a value; in a block. -/
def v5 (l : List Int) : Value := .agg ((l.map (Value.int .u64)).toArray)
def A5 (R : Nat) (l : List Int) (w : World) : Prop := w.heap[R]? = some (.cells ((l.map (Value.int .u64)).toArray) 39 (0, 0)) ∧ l.length = 5
theorem A5.cell {R : Nat} {l : List Int} {w : World} (h : A5 R l w) (i : Nat) (hi : i < 5) : w.cell? ⟨R, i, none⟩ = some (.int .u64 (gtI l i)) := by
  rw [cell_in h.1, List.getElem?_toArray, List.getElem?_map, gtI_get (by rw [h.2]; exact hi), List.getElem?_eq_getElem (by rw [h.2]; exact hi)]
  rfl
theorem A5.free {R : Nat} {l : List Int} {w : World} (h : A5 R l w) (i : Nat) : w.frozen? ⟨R, i, none⟩ = false := free_in h.1 i
theorem A5.set {R : Nat} {l : List Int} {w : World} (h : A5 R l w) (i : Nat) (x : Int) : A5 R (l.set i x) (w.setCell ⟨R, i, none⟩ (.int .u64 x)) := by
  refine ⟨?_, by simpa using h.2⟩
  rw [set_at h.1]
  simp [List.map_set]
theorem A5.only {R : Nat} {l : List Int} {w w' : World} {L : List Nat} (h : A5 R l w) (ho : Only w w' L) (hn : R ∉ L) : A5 R l w' := ⟨ho.at h.1 hn, h.2⟩
theorem list5 {α : Type} : ∀ (l : List α), l.length = 5 → ∃ a b c d e, l = [a, b, c, d, e]
  | [a, b, c, d, e], _ => ⟨a, b, c, d, e, rfl⟩
  | [], h => by simp at h
  | [_], h => by simp at h
  | [_, _], h => by simp at h
  | [_, _, _], h => by simp at h
  | [_, _, _, _], h => by simp at h
  | _ :: _ :: _ :: _ :: _ :: _ :: _, h => by simp at h

/-- The base of the parts; the modulus. -/
abbrev B26 : Int := 67108864
def P130 : Int := 1361129467683753853853498429727072845819
theorem p130 : B26 ^ 5 = P130 + 5 := by decide

/-- One step of a carry. -/
theorem carry_step {a l : List Int} {k : Nat} {c : Int} (hk : k < 5) (ha : a.length = 5) (hl : l.length = 5) (h1 : lv B26 (l.take k) + B26 ^ k * c = lv B26 (a.take k)) (h2 : l.drop k = a.drop k) :
    gtI l k = gtI a k ∧ lv B26 ((l.set k ((gtI a k + c) % B26)).take (k + 1)) + B26 ^ (k + 1) * ((gtI a k + c) / B26) = lv B26 (a.take (k + 1)) ∧ (l.set k ((gtI a k + c) % B26)).drop (k + 1) = a.drop (k + 1) := by
  have e0 : gtI l k = gtI a k := by
    have := congrArg (fun x => x[0]?) h2
    simp only [List.getElem?_drop, Nat.add_zero] at this
    rw [gtI_get (by omega), gtI_get (by omega)]
    rw [List.getElem?_eq_getElem (by omega), List.getElem?_eq_getElem (by omega)] at this
    exact Option.some.inj this
  refine ⟨e0, ?_, ?_⟩
  · rw [lv_take_succ B26 (by simp; omega), lv_take_succ B26 (by omega), gtI_set_same (by omega), List.take_set_of_le (Nat.le_refl _), ← h1, Int.pow_succ]
    have := Int.mul_ediv_add_emod (gtI a k + c) B26
    generalize (gtI a k + c) / B26 = q at *
    generalize (gtI a k + c) % B26 = r at *
    rw [Int.mul_assoc, Int.add_assoc, Int.add_assoc, ← Int.mul_add, ← Int.mul_add]
    congr 2
    omega
  · rw [List.drop_set_of_lt (by omega)]
    have := congrArg (List.drop 1) h2
    simpa [List.drop_drop] using this

/-- What carry leaves: c is what went around. -/
def Carried (a : List Int) (w : World) (e : Ending) (w' : World) : Prop :=
  Only w w' [] ∧ ∃ b0 b1 b2 b3 b4 c : Int, e = .returned (.agg #[.int .u64 b0, .int .u64 b1, .int .u64 b2, .int .u64 b3, .int .u64 b4]) ∧ 0 ≤ c ∧ lv B26 [b0, b1, b2, b3, b4] + P130 * c = lv B26 a ∧ 5 * c ≤ b0 ∧ b0 < 5 * c + 67108864 ∧ 0 ≤ b1 ∧ b1 < 67108864 ∧ 0 ≤ b2 ∧ b2 < 67108864 ∧ 0 ≤ b3 ∧ b3 < 67108864 ∧ 0 ≤ b4 ∧ b4 < 67108864

set_option maxRecDepth 100000 in
set_option maxHeartbeats 1600000 in
theorem carry_any (a0 a1 a2 a3 a4 : Int) (w : World) (h0 : 0 ≤ a0 ∧ a0 < 9223372036854775808) (h1 : 0 ≤ a1 ∧ a1 < 9223372036854775808) (h2 : 0 ≤ a2 ∧ a2 < 9223372036854775808) (h3 : 0 ≤ a3 ∧ a3 < 9223372036854775808) (h4 : 0 ≤ a4 ∧ a4 < 9223372036854775808) :
    Calls Try.prog 33 #[.agg #[.int .u64 a0, .int .u64 a1, .int .u64 a2, .int .u64 a3, .int .u64 a4]] w (Carried [a0, a1, a2, a3, a4] w) := by
  have hab : ∀ k, k < 5 → 0 ≤ gtI [a0, a1, a2, a3, a4] k ∧ gtI [a0, a1, a2, a3, a4] k < 9223372036854775808 := by
    intro k hk
    rcases (by omega : k = 0 ∨ k = 1 ∨ k = 2 ∨ k = 3 ∨ k = 4) with rfl | rfl | rfl | rfl | rfl <;> simpa [gtI]
  go_enter Try.func33, Try.ntmps33
  go_wp2_with fail
  have s0 := ((Sep.nil w).box [.int .u64 a0, .int .u64 a1, .int .u64 a2, .int .u64 a3, .int .u64 a4] 39).box [.int .u64 0, .int .u64 0, .int .u64 0, .int .u64 0, .int .u64 0] 39
  simp only [World.size_alloc] at s0
  have s0 := s0.up 1 (by simp)
  generalize hX : w.heap.size = X at *
  generalize hY : X + 1 = Y at *
  have HX := Lib.hid hX
  clear hX hY
  go_loopw [3, 5] (fun u3 u5 wr => ∃ (k : Nat) (l : List Int) (c : Int), u3 = .int .u64 c ∧ u5 = .int .i64 k ∧ k ≤ 5 ∧ l.length = 5 ∧ 0 ≤ c ∧ c ≤ 1099511627776 ∧ lv B26 (l.take k) + B26 ^ k * c = lv B26 ([a0, a1, a2, a3, a4].take k) ∧ l.drop k = [a0, a1, a2, a3, a4].drop k ∧ (∀ j, j < k → 0 ≤ gtI l j ∧ gtI l j < B26) ∧ Sep w wr [blk X (l.map (.int .u64)) 39, blk Y [.int .u64 0, .int .u64 0, .int .u64 0, .int .u64 0, .int .u64 0] 39]) (fun _ u5 _ => 5 - (intOf u5).toNat)
  case atStart => exact ⟨0, [a0, a1, a2, a3, a4], 0, rfl, rfl, by omega, rfl, by omega, by omega, rfl, rfl, fun j hj => by omega, s0⟩
  case round =>
    clear s0
    obtain ⟨k, l, c, rfl, rfl, hk, hl0, hc0, hc1, hv0, hd0, hb0, hs⟩ := hrel
    by_cases hk5 : k < 5
    · obtain ⟨q0, q1, q2⟩ := carry_step hk5 rfl hl0 hv0 hd0
      have hA : A5 X l wr := ⟨hs.head, hl0⟩
      have hcx := hA.cell k hk5
      have hfx := hA.free k
      have hbx := hab k hk5
      rw [q0] at hcx
      have hl := Lib.hid hl0
      have hb := Lib.hid hb0
      generalize gtI [a0, a1, a2, a3, a4] k = x at *
      have hset := (hs.put k (.int .u64 (x + c))).put k (.int .u64 ((x + c) % B26))
      rw [List.set_set, ← List.map_set] at hset
      have Q1 := Lib.hid q1
      have Q2 := Lib.hid q2
      clear q0 q1 q2 hl0 hb0 hv0 hd0 hA h0 h1 h2 h3 h4
      have hmask : bits .and .u64 (x + c) 67108863 = (x + c) % 67108864 := msk64 (x + c) 26 (by omega) (by omega) (by decide)
      have hb2 : Hid (∀ j, j < k + 1 → 0 ≤ gtI (l.set k ((x + c) % B26)) j ∧ gtI (l.set k ((x + c) % B26)) j < B26) := by
        intro j hj
        by_cases hjk : j = k
        · subst hjk
          rw [gtI_set_same (by rw [hl.out]; exact hk5)]
          show 0 ≤ (x + c) % 67108864 ∧ (x + c) % 67108864 < 67108864
          omega
        · rw [gtI_set_ne (by omega)]
          exact hb.out j (by omega)
      go_wp2_with fail
      refine ⟨⟨k + 1, l.set k ((x + c) % B26), (x + c) / B26, rfl, by simp, by omega, by rw [List.length_set]; exact hl.out, ?_, ?_, Q1.out, Q2.out, hb2.out, hset⟩, by simp [intOf]; omega⟩
      · show 0 ≤ (x + c) / 67108864
        omega
      · show (x + c) / 67108864 ≤ _
        omega
    · obtain rfl : k = 5 := by omega
      obtain ⟨m0, m1, m2, m3, m4, rfl⟩ := list5 l hl0
      have e0 := hb0 0 (by omega)
      have e1 := hb0 1 (by omega)
      have e2 := hb0 2 (by omega)
      have e3 := hb0 3 (by omega)
      have e4 := hb0 4 (by omega)
      simp only [gtI, List.getD_cons_zero, List.getD_cons_succ] at e0 e1 e2 e3 e4
      have hX1 : wr.heap[X]? = some (.cells #[.int .u64 m0, .int .u64 m1, .int .u64 m2, .int .u64 m3, .int .u64 m4] 39 (0, 0)) := hs.head
      have c0 := cell_in hX1 0
      have c1 := cell_in hX1 1
      have c2 := cell_in hX1 2
      have c3 := cell_in hX1 3
      have c4 := cell_in hX1 4
      have f0 := free_in hX1 0
      have hY1 : wr.heap[Y]? = some (.cells #[.int .u64 0, .int .u64 0, .int .u64 0, .int .u64 0, .int .u64 0] 39 (0, 0)) := hs.tail.head
      have y0 := cell_in hY1 0
      have y1 := cell_in hY1 1
      have y2 := cell_in hY1 2
      have y3 := cell_in hY1 3
      have y4 := cell_in hY1 4
      have g0 := free_in hY1 0
      have g1 := free_in hY1 1
      have g2 := free_in hY1 2
      have g3 := free_in hY1 3
      have g4 := free_in hY1 4
      obtain ⟨_, e0'⟩ := e0
      have e0' : m0 < 67108864 := e0'
      have s2 := (((((((hs.put 0 (.int .u64 (m0 + 5 * c))).up 1 (by simp)).put 0 (.int .u64 (m0 + 5 * c))).put 1 (.int .u64 m1)).put 2 (.int .u64 m2)).put 3 (.int .u64 m3)).put 4 (.int .u64 m4))
      have hv := Lib.hid hv0
      have hXY : ¬ X = Y := fun e => by
        have hp := (List.pairwise_cons.1 hs.apart).1 _ (List.mem_cons_self ..) X (by simp [blk])
        exact hp (by simp [blk, e])
      have hYX : ¬ Y = X := fun e => hXY e.symm
      clear hv0 hd0 hb0 hs hX1 hY1
      go_wp2_with fail
      generalize hV : World.setCell (World.setCell (World.setCell (World.setCell (World.setCell (World.setCell wr _ _) _ _) _ _) _ _) _ _) _ _ = V at *
      clear hV c0 c1 c2 c3 c4 f0 y0 y1 y2 y3 y4 g0 g1 g2 g3 g4
      have hY2 : V.heap[Y]? = some (.cells #[.int .u64 (m0 + 5 * c), .int .u64 m1, .int .u64 m2, .int .u64 m3, .int .u64 m4] 39 (0, 0)) := s2.head
      have z0 := cell_in hY2 0
      have z1 := cell_in hY2 1
      have z2 := cell_in hY2 2
      have z3 := cell_in hY2 3
      have z4 := cell_in hY2 4
      refine bodyPost_ret (v := .agg #[.int .u64 (m0 + 5 * c), .int .u64 m1, .int .u64 m2, .int .u64 m3, .int .u64 m4]) (by simp [results, Try.results33, go_sem, z0, z1, z2, z3, z4]) rfl ⟨s2.only, _, _, _, _, _, c, rfl, hc0, ?_, by omega, by omega, e1.1, e1.2, e2.1, e2.2, e3.1, e3.2, e4.1, e4.2⟩
      have h := hv.out
      simp only [List.take_succ_cons, List.take_zero] at h
      rw [p130] at h
      rw [← h]
      simp only [lv]
      rw [Int.add_mul]
      omega
end Go.Proofs.Ytemmdhfmdgpfmaa
