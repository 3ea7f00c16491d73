/- Layer 5 (chacha), the reference: the contract of Fit. -/
import Derived.Test.YtemmdhfmdgpfmaaTag5
namespace Go.Proofs.Ytemmdhfmdgpfmaa
open Go.RowKit Go.Pw
set_option linter.unusedVariables false

theorem fillZ_fit {xs : List Int} {n i : Nat} (hi : i ≤ n) (hx : i ≤ xs.length) (h : i = n ∨ i = xs.length) : fillZ (xs.take i) n = (fitL xs n).map (.int .u8) := by
  unfold fillZ fitL
  rcases h with rfl | rfl
  · simp [Nat.sub_eq_zero_of_le hx, Nat.min_eq_left hx]
  · simp [List.take_of_length_le hi]
/-- A block of bytes, whole, is fresh. -/
theorem fresh_blk {w wr : World} {Z : Nat} {ys : List Int} {rs : List Res} (hs : Sep w wr (blk Z (ys.map (.int .u8)) 5 :: rs)) (hl : ys.length ≤ maxLen) : Fresh ys w (.returned (.slice (some ⟨Z, 0, none⟩) ys.length ys.length)) wr := by
  have hnew := hs.new _ (List.mem_cons_self ..) Z (by simp [blk])
  have hb : wr.heap[Z]? = some (.cells (ys.map (.int .u8)).toArray 5 (0, 0)) := hs.head
  exact ⟨_, rfl, ⟨by simp, .inr ⟨Z, ys.length, _, rfl, Nat.zero_le _, hb, Nat.le_refl _, hl, by simp, by rw [List.take_of_length_le (by simp)]⟩⟩, fun k hk => .inr (by simp [Value.ownBlock] at hk; omega), hs.only⟩

set_option maxHeartbeats 800000 in
theorem rfit_any (p : Value) (xs : List Int) (n : Nat) (w : World) (hp : Src w p 1 xs.length (xs.map (Value.int .u8))) (hxb : ∀ x ∈ xs, 0 ≤ x ∧ x < 256) (hn : n ≤ 1000000) (hn0 : 0 < n) :
    Calls Try.prog 22 #[p, .int .i64 n] w (Fresh (fitL xs n) w) := by
  obtain ⟨ap, cp, rfl, _⟩ := id hp
  have hmk := make_bytes w n hn
  go_enter Try.func22, Try.ntmps22
  have s0 : Sep w _ [blk w.heap.size (fillZ [] n) 5] := (Sep.nil w).box (List.replicate n (Value.int .u8 0)) 5
  go_wp2_with fail
  generalize hZ : w.heap.size = Z at *
  clear hmk
  go_loopw [6] (fun u6 wr => ∃ i : Nat, u6 = .int .i64 i ∧ i ≤ n ∧ i ≤ xs.length ∧ Sep w wr [blk Z (fillZ (xs.take i) n) 5]) (fun u6 _ => n - (intOf u6).toNat)
  case atStart => exact ⟨0, rfl, by omega, by omega, s0⟩
  case round =>
    clear s0
    obtain ⟨i, rfl, hi, hix, hs⟩ := hrel
    by_cases hin : i < n
    · by_cases hxi : i < xs.length
      · obtain ⟨b, of, rfl, hcell⟩ := src_at (hs.src hp) hxi
        have hc := hcell i (.int .u8 (gtI xs i)) (by rw [List.getElem?_map, List.getElem?_eq_getElem hxi, gtI_get hxi]; rfl)
        have hZ1 : wr.heap[Z]? = some (.cells (fillZ (xs.take i) n).toArray 5 (0, 0)) := hs.head
        have fz := free_in hZ1 i
        have hti : (xs.take i).length = i := by simp; omega
        have cz : wr.cell? ⟨Z, i, none⟩ = some (.int .u8 0) := by
          rw [cell_in hZ1 i, List.getElem?_toArray]
          have := fillZ_at (ys := xs.take i) (n := n) (by omega)
          rwa [hti] at this
        have hput := hs.put (xs.take i).length (.int .u8 (gtI xs i))
        rw [fillZ_set (by omega), ← take_succ_gt hxi, hti] at hput
        clear hcell hZ1 hs
        generalize gtI xs i = x at *
        go_wp2_with fail
        exact ⟨⟨i + 1, by simp, by omega, by omega, hput⟩, by simp [intOf]; omega⟩
      · have hfz := fillZ_fit hi hix (by omega)
        rw [hfz] at hs
        have hfr := fresh_blk hs (by rw [fitL_len]; unfold maxLen; omega)
        rw [fitL_len] at hfr
        have hfr := Lib.hid hfr
        clear hfz hs
        go_wp2_with fail
        go_ret
        exact hfr.out
    · have hfz := fillZ_fit hi hix (by omega)
      rw [hfz] at hs
      have hfr := fresh_blk hs (by rw [fitL_len]; unfold maxLen; omega)
      rw [fitL_len] at hfr
      have hfr := Lib.hid hfr
      clear hfz hs
      go_wp2_with fail
      go_ret
      exact hfr.out
end Go.Proofs.Ytemmdhfmdgpfmaa
