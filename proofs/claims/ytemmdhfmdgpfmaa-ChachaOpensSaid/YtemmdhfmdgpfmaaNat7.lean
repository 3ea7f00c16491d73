/- Numbers of words of 32 bits (layer 2's reference): Bytes; a piece of a slice; layer 5's reference: the key's bits. -/
import Derived.Test.YtemmdhfmdgpfmaaNat6
namespace Go.Proofs.Ytemmdhfmdgpfmaa
open Go.RowKit Go.Pw
set_option linter.unusedVariables false

theorem fillZ_dg {V : Int} {n i : Nat} (hi : i ≤ n) (h : i = n ∨ ∀ j, i ≤ j → V / 256 ^ j % 256 = 0) : fillZ ((dg 256 V n).take i) n = (dg 256 V n).map (.int .u8) := by
  rcases h with rfl | h
  · rw [List.take_of_length_le (by rw [dg_len]; exact Nat.le_refl _)]
    simp [fillZ, dg_len]
  · have e : dg 256 V n = (dg 256 V n).take i ++ List.replicate (n - i) 0 := by
      refine gtI_ext (by simp [dg_len]; omega) fun j hj => ?_
      rw [dg_len] at hj
      by_cases hji : j < i
      · simp only [gtI, List.getD_eq_getElem?_getD]
        rw [List.getElem?_append_left (by simp [dg_len]; omega), List.getElem?_take, if_pos hji]
      · rw [dg_at _ _ hj, h j (by omega)]
        simp only [gtI, List.getD_eq_getElem?_getD]
        rw [List.getElem?_append_right (by simp [dg_len]; omega), List.getElem?_replicate]
        split <;> rfl
    conv => rhs; rw [e]
    unfold fillZ
    rw [show ((dg 256 V n).take i).length = i by simp [dg_len]; omega]
    simp

set_option maxRecDepth 100000 in
set_option maxHeartbeats 1600000 in
theorem nbytes_any (ao : Option Addr) (c : Nat) (ys : List Int) (n : Nat) (w : World) (h : Src w (.slice ao ys.length c) 1 ys.length (ys.map (.int .u32))) (hu : U32s ys) (hl : ys.length ≤ 100000) (hn : n ≤ 100000) :
    Calls Try.prog 27 #[.slice ao ys.length c, .int .i64 n] w (Fresh (dg 256 (lv B32 ys) n) w) := by
  have hmk := make_bytes w n (by omega)
  have hVb := Lib.hid (lv_bd hu)
  have hdi : Hid (∀ j s, s < 4 → lv B32 ys / 256 ^ (4 * j + s) % 256 = gtI ys j / 256 ^ s % 256) := fun j s hs => digit_in (B := B32) (by decide) (by decide) hs hu j
  obtain ⟨V, hV⟩ : ∃ V, V = lv B32 ys := ⟨_, rfl⟩
  rw [← hV] at hVb hdi ⊢
  clear hV
  go_enter Try.func27, Try.ntmps27
  have s0 : Sep w _ [blk w.heap.size (fillZ [] n) 5] := (Sep.nil w).box (List.replicate n (Value.int .u8 0)) 5
  go_wp2_with fail
  generalize hZ : w.heap.size = Z at *
  clear hmk hZ
  go_loopw [6] (fun u6 wr => ∃ i : Nat, u6 = .int .i64 i ∧ i ≤ n ∧ Sep w wr [blk Z (fillZ ((dg 256 V n).take i) n) 5]) (fun u6 _ => n - (intOf u6).toNat)
  case atStart => exact ⟨0, rfl, by omega, s0⟩
  case round =>
    clear s0
    obtain ⟨i, rfl, hi, hs⟩ := hrel
    obtain ⟨j, hj⟩ : ∃ j, j = i / 4 := ⟨_, rfl⟩
    obtain ⟨s, hs4⟩ : ∃ s, s = i % 4 := ⟨_, rfl⟩
    have t1 : (i : Int).tdiv 4 = (j : Int) := by rw [Int.tdiv_eq_ediv_of_nonneg (by omega)]; omega
    have t2 : (i : Int) / 4 = (j : Int) := by omega
    have t3 : (i : Int).tmod 4 = (s : Int) := by rw [Int.tmod_eq_emod_of_nonneg (by omega)]; omega
    have t4 : (i : Int) % 4 = (s : Int) := by omega
    have t12 : IntKind.i64.wrap (j : Int) = (j : Int) := IntWalk.i64_in _ (by omega)
    have hs44 : s < 4 := by omega
    by_cases hin : i < n ∧ j < ys.length
    · obtain ⟨hin, hjl⟩ := hin
      have d0 : decide ((i : Int) < (n : Int)) = true := by simp; omega
      have d1 : decide ((j : Int) < (ys.length : Int)) = true := by simp; omega
      obtain ⟨b, of, rfl, hcell⟩ := src_at (hs.src h) hjl
      have q1 := src_word (n := ys.length) (c := c) hcell hjl
      have hx := u32s_at hu j
      have hZ1 : wr.heap[Z]? = some (.cells (fillZ ((dg 256 V n).take i) n).toArray 5 (0, 0)) := hs.head
      have fz := free_in hZ1 i
      have hti : ((dg 256 V n).take i).length = i := by simp [dg_len]; omega
      have cz : wr.cell? ⟨Z, i, none⟩ = some (.int .u8 0) := by
        rw [cell_in hZ1 i, List.getElem?_toArray]
        have := fillZ_at (ys := (dg 256 V n).take i) (n := n) (by omega)
        rwa [hti] at this
      have hput := hs.put ((dg 256 V n).take i).length (.int .u8 (gtI ys j / 2 ^ (8 * s) % 256))
      have hdig : gtI (dg 256 V n) i = gtI ys j / 2 ^ (8 * s) % 256 := by
        rw [dg_at _ _ hin, show i = 4 * j + s by omega, hdi.out j s hs44, pow8]
      rw [fillZ_set (by omega), ← hdig, ← take_succ_gt (by rw [dg_len]; exact hin), hti, hdig] at hput
      have t5 : (8 * (s : Int)).toNat = 8 * s := by omega
      have t6 : 0 ≤ 8 * (s : Int) := by omega
      have t7 : IntKind.i64.wrap (8 * (s : Int)) = 8 * (s : Int) := IntWalk.i64_in _ (by omega)
      have t8 : (j : Int) < ys.length := by omega
      have t9 : (0 : Int) ≤ (j : Int) := by omega
      clear hcell hZ1 hs hdig hti hj hs4
      generalize gtI ys j = x at *
      have n1 : IntKind.u8.wrap (x / 2 ^ (8 * s)) = x / 2 ^ (8 * s) % 256 := by simp [IntKind.wrap, IntKind.bits, IntKind.signed]
      go_wp2_with fail
      exact ⟨⟨i + 1, by simp, by omega, hput⟩, by simp [intOf]; omega⟩
    · have hfz : fillZ ((dg 256 V n).take i) n = (dg 256 V n).map (.int .u8) := by
        refine fillZ_dg hi ?_
        by_cases h1 : i = n
        · exact .inl h1
        · refine .inr fun j' hj' => ?_
          have h2 : ys.length ≤ i / 4 := by omega
          have h3 : V < 256 ^ j' := by
            have h4 := hVb.out.2
            rw [show B32 = 256 ^ 4 by decide, ← Int.pow_mul] at h4
            have h5 := pow_mono (B := 256) (by decide) (show 4 * ys.length ≤ j' by omega)
            omega
          rw [Int.ediv_eq_zero_of_lt hVb.out.1 h3, Int.zero_emod]
      rw [hfz] at hs
      have hfr := fresh_blk hs (by rw [dg_len]; unfold maxLen; omega)
      rw [dg_len] at hfr
      have hfr := Lib.hid hfr
      clear hfz hs
      by_cases h1 : i < n
      · have d0 : decide ((i : Int) < (n : Int)) = true := by simp; omega
        have d1 : decide ((j : Int) < (ys.length : Int)) = false := by simp; omega
        clear hj hs4
        go_wp2_with fail
        go_ret
        exact hfr.out
      · obtain rfl : i = n := by omega
        have d0 : decide ((i : Int) < (i : Int)) = false := by simp
        clear t1 t2 t3 t4 t12 hj hs4 h1 hin
        go_wp2_with fail
        go_ret
        exact hfr.out

/-- A piece of a slice. -/
theorem slice_mid (ao : Option Addr) (n c l m : Nat) (hm : l + m ≤ n) (hc : n ≤ c) : ∃ ao' c', (∀ w, (Instr.sliceAt 22 (.slice ao n c) (some (.int .i64 (l : Int))) (some (.int .i64 ((l + m : Nat) : Int))) none).run Try.prog w = .ok (.slice ao' m c') w) ∧ ∀ w cs, Src w (.slice ao n c) 1 n cs → Src w (.slice ao' m c') 1 m ((cs.drop l).take m) := by
  obtain ⟨i0, hi, hz0, hz1, hz2⟩ := info_parts Try.info5
  refine ⟨if c = l then ao else ao.map (·.add (l * 1)), c - l, fun w => ?_, fun w cs h => ?_⟩
  · have hu : Try.prog.underlying 22 = some (.slice (Try.prog.elem 22)) := by kernel_rfl
    have he : Try.prog.elem 22 = 5 := by kernel_rfl
    rw [run_sliceAt_slice (h := hu), run_slice_lh (ht := hu) (kl := .i64) (kh := .i64) (l := (l : Int)) (h := ((l + m : Nat) : Int)) (h0 := by omega) (h1 := by omega) (h2 := by omega), he]
    have hs : (sizeOf 5).run Try.prog w = .ok 1 w := by simp [sizeOf, typeInfo, hi, hz1]
    rw [hs]
    simp only [Result.andThen, sliced, Int.toNat_natCast]
    rw [show l + m - l = m by omega]
  · obtain ⟨ao', c', he, h1, h2, h3, h4, h5⟩ := h
    simp only [Value.slice.injEq] at he
    obtain ⟨rfl, _, rfl⟩ := he
    refine ⟨_, _, rfl, by omega, by omega, by simp [h3]; omega, fun hn => ?_, fun b hb j u hj => ?_⟩
    · cases ao with
      | none => have := h4 rfl; omega
      | some a => split at hn <;> simp at hn
    · rw [List.getElem?_take] at hj
      split at hj
      · rename_i hjm
        cases ao with
        | none => have := h4 rfl; omega
        | some a =>
          rw [List.getElem?_drop] at hj
          rw [if_neg (by omega)] at hb
          simp only [Option.map_some, Option.some.injEq, Nat.mul_one] at hb
          subst hb
          have := h5 a rfl (l + j) u hj
          have e : (a.add l).add j = a.add (l + j) := by
            unfold Addr.add
            split <;> split <;> split <;> simp_all <;> omega
          rwa [e]
      · simp at hj

/-- The reference strikes the same bits. -/
def clM (l : List Int) : Nat → List Int
  | 0 => l
  | i + 1 => if i % 4 = 3 then (clM l i).set i (gtI (clM l i) i % 16) else if i % 4 = 0 ∧ 0 < i then (clM l i).set i (gtI (clM l i) i - gtI (clM l i) i % 4) else clM l i
theorem clM_len (l : List Int) (i : Nat) : (clM l i).length = l.length := by
  induction i with
  | zero => rfl
  | succ i ih => unfold clM; split; · simpa using ih
                 split <;> simpa using ih
theorem clM_byt {l : List Int} (h : ∀ x ∈ l, 0 ≤ x ∧ x < 256) (i : Nat) (hi : i ≤ l.length) : ∀ x ∈ clM l i, 0 ≤ x ∧ x < 256 := by
  induction i with
  | zero => exact h
  | succ i ih =>
    have ih := ih (by omega)
    have hg := ih _ (gtI_mem (l := clM l i) (k := i) (by rw [clM_len]; omega))
    intro x hx
    unfold clM at hx
    split at hx
    · rcases List.mem_or_eq_of_mem_set hx with hx | hx
      · exact ih x hx
      · omega
    · split at hx
      · rcases List.mem_or_eq_of_mem_set hx with hx | hx
        · exact ih x hx
        · omega
      · exact ih x hx
theorem clM_eq : ∀ (l : List Int), l.length = 16 → clM l 16 = clB (clA l 4) 3
  | [a0, a1, a2, a3, a4, a5, a6, a7, a8, a9, a10, a11, a12, a13, a14, a15], _ => rfl
  | _ :: _ :: _ :: _ :: _ :: _ :: _ :: _ :: _ :: _ :: _ :: _ :: _ :: _ :: _ :: _ :: _ :: _, h => by simp at h
  | [], h => by simp at h
  | [_], h => by simp at h
  | [_, _], h => by simp at h
  | [_, _, _], h => by simp at h
  | [_, _, _, _], h => by simp at h
  | [_, _, _, _, _], h => by simp at h
  | [_, _, _, _, _, _], h => by simp at h
  | [_, _, _, _, _, _, _], h => by simp at h
  | [_, _, _, _, _, _, _, _], h => by simp at h
  | [_, _, _, _, _, _, _, _, _], h => by simp at h
  | [_, _, _, _, _, _, _, _, _, _], h => by simp at h
  | [_, _, _, _, _, _, _, _, _, _, _], h => by simp at h
  | [_, _, _, _, _, _, _, _, _, _, _, _], h => by simp at h
  | [_, _, _, _, _, _, _, _, _, _, _, _, _], h => by simp at h
  | [_, _, _, _, _, _, _, _, _, _, _, _, _, _], h => by simp at h
  | [_, _, _, _, _, _, _, _, _, _, _, _, _, _, _], h => by simp at h
end Go.Proofs.Ytemmdhfmdgpfmaa
