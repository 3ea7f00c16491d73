/- Numbers of words of 32 bits (layer 2's reference): Plus, Less, Times, Cmp. -/
import Derived.Test.YtemmdhfmdgpfmaaNat2
namespace Go.Proofs.Ytemmdhfmdgpfmaa
open Go.RowKit Go.Pw
set_option linter.unusedVariables false

theorem src_word {w : World} {b o n c : Nat} {ys : List Int} (hcell : ∀ j u, (ys.map (Value.int .u32))[j]? = some u → w.cell? ⟨b, o + j, none⟩ = some u) {k : Nat} (hk : k < ys.length) : w.cell? ⟨b, o + k, none⟩ = some (.int .u32 (gtI ys k)) :=
  hcell k _ (by rw [List.getElem?_map, List.getElem?_eq_getElem hk, gtI_get hk]; rfl)
theorem u32s_snoc {ys : List Int} (h : U32s ys) {x : Int} (hx : 0 ≤ x ∧ x < 4294967296) : U32s (ys ++ [x]) := fun y hy => by
  rcases List.mem_append.1 hy with hy | hy
  · exact h y hy
  · obtain rfl : y = x := by simpa using hy
    exact hx
/-- One word more of a sum. -/
theorem plus_step {a b o : List Int} {c : Int} (hv : lv B32 o + B32 ^ o.length * c = lv B32 (a.take o.length) + lv B32 (b.take o.length)) :
    lv B32 (o ++ [(c + gtI a o.length + gtI b o.length) % 4294967296]) + B32 ^ (o.length + 1) * ((c + gtI a o.length + gtI b o.length) / 4294967296) = lv B32 (a.take (o.length + 1)) + lv B32 (b.take (o.length + 1)) := by
  rw [lv_snoc, lv_take_any, lv_take_any, Int.pow_succ, Int.mul_assoc, Int.add_assoc, ← Int.mul_add]
  have e := Int.mul_ediv_add_emod (c + gtI a o.length + gtI b o.length) 4294967296
  have e1 : (c + gtI a o.length + gtI b o.length) % 4294967296 + B32 * ((c + gtI a o.length + gtI b o.length) / 4294967296) = c + gtI a o.length + gtI b o.length := by
    show _ + 4294967296 * _ = _
    omega
  rw [e1, Int.mul_add, Int.mul_add]
  omega
theorem less_step {a b o : List Int} {c x c2 : Int} (hv : lv B32 o - B32 ^ o.length * c = lv B32 (a.take o.length) - lv B32 (b.take o.length)) (hx : x - 4294967296 * c2 = gtI a o.length - c - gtI b o.length) :
    lv B32 (o ++ [x]) - B32 ^ (o.length + 1) * c2 = lv B32 (a.take (o.length + 1)) - lv B32 (b.take (o.length + 1)) := by
  rw [lv_snoc, lv_take_any, lv_take_any, Int.pow_succ, Int.mul_assoc]
  have e : B32 ^ o.length * x - B32 ^ o.length * (B32 * c2) = B32 ^ o.length * (gtI a o.length - c - gtI b o.length) := by
    rw [← Int.mul_sub]
    congr 1
  rw [Int.mul_sub, Int.mul_sub] at e
  omega

set_option maxRecDepth 100000 in
set_option maxHeartbeats 3200000 in
theorem plus_any (a1 a2 : Option Addr) (c1 c2 : Nat) (xs ys : List Int) (w : World) (h1 : Src w (.slice a1 xs.length c1) 1 xs.length (xs.map (.int .u32))) (h2 : Src w (.slice a2 ys.length c2) 1 ys.length (ys.map (.int .u32))) (hu1 : U32s xs) (hu2 : U32s ys) (hl1 : xs.length ≤ 100000) (hl2 : ys.length ≤ 100000) :
    Calls Try.prog 25 #[.slice a1 xs.length c1, .slice a2 ys.length c2] w fun e w' => Only w w' [] ∧ ∃ v, e = .returned v ∧ Nm w' v (lv B32 xs + lv B32 ys) := by
  obtain ⟨inf, hi1, hy0, hy1, hy2⟩ := info26
  go_enter Try.func25, Try.ntmps25
  have s0 := Sep.rown (Sep.nil w) 26 1
  go_wp2_with fail
  go_loopw [5, 6, 7] (fun u5 u6 u7 wr => ∃ (av : Option Addr) (cv : Nat) (c : Int) (o : List Int), u5 = .slice av o.length cv ∧ u6 = .int .u64 c ∧ u7 = .int .i64 (o.length : Int) ∧ (o.length ≤ xs.length ∨ o.length ≤ ys.length) ∧ 0 ≤ c ∧ c ≤ 1 ∧ U32s o ∧ lv B32 o + B32 ^ o.length * c = lv B32 (xs.take o.length) + lv B32 (ys.take o.length) ∧ Sep w wr [row 26 1 (.slice av o.length cv) o.length (o.map (.int .u32))]) (fun _ _ u7 _ => (xs.length + ys.length) - (intOf u7).toNat)
  case atStart => exact ⟨none, 0, 0, [], rfl, rfl, rfl, by simp, by omega, by omega, by simp [U32s], by simp [lv], s0⟩
  case round =>
    clear s0
    obtain ⟨av, cv, c, o, rfl, rfl, rfl, hle, hc0, hc1, hou, hv, hs⟩ := hrel
    by_cases hin : o.length < xs.length ∨ o.length < ys.length
    · have hst := Lib.hid (plus_step hv)
      have hb1 := u32s_at hu1 o.length
      have hb2 := u32s_at hu2 o.length
      have hol : o.length ≤ 100000 := by omega
      have hou := Lib.hid hou
      obtain ⟨sm, hsm⟩ : ∃ z, z = c + gtI xs o.length + gtI ys o.length := ⟨_, rfl⟩
      have hsb : 0 ≤ sm ∧ sm ≤ 8589934591 := by omega
      rw [← hsm] at hst
      have u1 := hs.quiet (Only.alloc wr (.cells #[.int .u32 (sm % 4294967296)] 26) [])
      have hs6 := src_one wr (.int .u32 (sm % 4294967296)) 26
      have hown : (wr.alloc (.cells #[.int .u32 (sm % 4294967296)] 26)).ownsRow 0 26 1 (.slice av o.length cv) o.length (o.map (.int .u32)) := u1.head
      have hnew : Hid (U32s (o ++ [sm % 4294967296])) := u32s_snoc hou.out ⟨by omega, by omega⟩
      have hz : IntKind.u32.wrap sm = sm % 4294967296 := by simp [IntKind.wrap, IntKind.bits, IntKind.signed]
      have h1w := hs.src h1
      have h2w := hs.src h2
      have HV := Lib.hid hv
      clear hv
      have hl1 : Hid ((o ++ [sm % 4294967296]).length = o.length + 1) := by show _ = _; simp
      by_cases ha : o.length < xs.length
      · by_cases hb : o.length < ys.length
        · obtain ⟨b1, f1, rfl, hcell1⟩ := src_at h1w ha
          have q1 := src_word (n := xs.length) (c := c1) hcell1 ha
          have d1 : decide ((o.length : Int) < xs.length) = true := by simp; omega
          obtain ⟨b2, f2, rfl, hcell2⟩ := src_at h2w hb
          have q2 := src_word (n := ys.length) (c := c2) hcell2 hb
          have d2 : decide ((o.length : Int) < ys.length) = true := by simp; omega
          clear hcell1 hcell2 h1w h2w
          generalize gtI xs o.length = x at *
          generalize gtI ys o.length = y at *
          have i0 : (0 : Int) ≤ (o.length : Int) := by omega
          have i1 : (o.length : Int) < xs.length := by omega
          have i2 : (o.length : Int) < ys.length := by omega
          have n1 : IntKind.u64.wrap (c + x) = c + x := by simp [IntKind.wrap, IntKind.bits, IntKind.signed]; omega
          have n2 : IntKind.u64.wrap (c + x + y) = sm := by rw [← hsm]; simp [IntKind.wrap, IntKind.bits, IntKind.signed]; omega
          clear hsm
          go_wp2_with (at_builtin; refine wpList_append_src rfl _ _ 44 rfl 26 inf (.int .u32 0) 1 4 Try.underlying44 hi1 hy0 hy1 hy2 rfl (by decide) (.slice av o.length cv) o.length (o.map (.int .u32)) rfl hown _ 1 _ rfl hs6 (by simp [Value.oneCell']) (by unfold maxLen; omega) (by omega) ?_; intro v7 w7 g1 g2 g3; obtain ⟨a7, c7, rfl⟩ := own_slice g1)
          have u2 := u1.app g1 g2 g3
          clear g1 g2 g3 u1 hs6 hown
          go_wp2_with fail
          exact ⟨⟨a7, c7, sm / 4294967296, o ++ [sm % 4294967296], by rw [hl1.out], rfl, by rw [hl1.out]; simp, by rw [hl1.out]; omega, by omega, by omega, hnew.out, by rw [hl1.out]; exact hst.out, by rw [hl1.out, List.map_append]; exact u2⟩, by simp [intOf]; omega⟩
        · obtain ⟨b1, f1, rfl, hcell1⟩ := src_at h1w ha
          have q1 := src_word (n := xs.length) (c := c1) hcell1 ha
          have d1 : decide ((o.length : Int) < xs.length) = true := by simp; omega
          have d2 : decide ((o.length : Int) < ys.length) = false := by simp; omega
          have e2 := gtI_out (ys := ys) (k := o.length) (by omega)
          clear hcell1 h1w h2w
          generalize gtI xs o.length = x at *
          generalize gtI ys o.length = y at *
          have i0 : (0 : Int) ≤ (o.length : Int) := by omega
          have i1 : (o.length : Int) < xs.length := by omega
          have n2 : IntKind.u64.wrap (c + x) = sm := by simp [IntKind.wrap, IntKind.bits, IntKind.signed]; omega
          clear hsm e2
          go_wp2_with (at_builtin; refine wpList_append_src rfl _ _ 44 rfl 26 inf (.int .u32 0) 1 4 Try.underlying44 hi1 hy0 hy1 hy2 rfl (by decide) (.slice av o.length cv) o.length (o.map (.int .u32)) rfl hown _ 1 _ rfl hs6 (by simp [Value.oneCell']) (by unfold maxLen; omega) (by omega) ?_; intro v7 w7 g1 g2 g3; obtain ⟨a7, c7, rfl⟩ := own_slice g1)
          have u2 := u1.app g1 g2 g3
          clear g1 g2 g3 u1 hs6 hown
          go_wp2_with fail
          exact ⟨⟨a7, c7, sm / 4294967296, o ++ [sm % 4294967296], by rw [hl1.out], rfl, by rw [hl1.out]; simp, by rw [hl1.out]; omega, by omega, by omega, hnew.out, by rw [hl1.out]; exact hst.out, by rw [hl1.out, List.map_append]; exact u2⟩, by simp [intOf]; omega⟩
      · have hb : o.length < ys.length := by omega
        have d1 : decide ((o.length : Int) < xs.length) = false := by simp; omega
        have e1 := gtI_out (ys := xs) (k := o.length) (by omega)
        obtain ⟨b2, f2, rfl, hcell2⟩ := src_at h2w hb
        have q2 := src_word (n := ys.length) (c := c2) hcell2 hb
        have d2 : decide ((o.length : Int) < ys.length) = true := by simp; omega
        clear hcell2 h1w h2w
        generalize gtI xs o.length = x at *
        generalize gtI ys o.length = y at *
        have i0 : (0 : Int) ≤ (o.length : Int) := by omega
        have i2 : (o.length : Int) < ys.length := by omega
        have n2 : IntKind.u64.wrap (c + y) = sm := by simp [IntKind.wrap, IntKind.bits, IntKind.signed]; omega
        clear hsm e1
        go_wp2_with (at_builtin; refine wpList_append_src rfl _ _ 44 rfl 26 inf (.int .u32 0) 1 4 Try.underlying44 hi1 hy0 hy1 hy2 rfl (by decide) (.slice av o.length cv) o.length (o.map (.int .u32)) rfl hown _ 1 _ rfl hs6 (by simp [Value.oneCell']) (by unfold maxLen; omega) (by omega) ?_; intro v7 w7 g1 g2 g3; obtain ⟨a7, c7, rfl⟩ := own_slice g1)
        have u2 := u1.app g1 g2 g3
        clear g1 g2 g3 u1 hs6 hown
        go_wp2_with fail
        exact ⟨⟨a7, c7, sm / 4294967296, o ++ [sm % 4294967296], by rw [hl1.out], rfl, by rw [hl1.out]; simp, by rw [hl1.out]; omega, by omega, by omega, hnew.out, by rw [hl1.out]; exact hst.out, by rw [hl1.out, List.map_append]; exact u2⟩, by simp [intOf]; omega⟩
    · have d1 : decide ((o.length : Int) < xs.length) = false := by simp; omega
      have d2 : decide ((o.length : Int) < ys.length) = false := by simp; omega
      rw [List.take_of_length_le (by omega), List.take_of_length_le (by omega)] at hv
      have u1 := hs.quiet (Only.alloc wr (.cells #[.int .u32 c] 26) [])
      have hs6 := src_one wr (.int .u32 c) 26
      have hown : (wr.alloc (.cells #[.int .u32 c] 26)).ownsRow 0 26 1 (.slice av o.length cv) o.length (o.map (.int .u32)) := u1.head
      have n1 : IntKind.u32.wrap c = c := by simp [IntKind.wrap, IntKind.bits, IntKind.signed]; omega
      have hol : o.length ≤ 100000 := by omega
      have hfv : Hid (lv B32 (o ++ [c]) = lv B32 xs + lv B32 ys) := by show _ = _; rw [lv_snoc]; exact hv
      have hfu : Hid (U32s (o ++ [c])) := u32s_snoc hou ⟨by omega, by omega⟩
      have hcl : Hid ((o ++ [c]).length = o.length + 1) := by show _ = _; simp
      clear hv hou
      go_wp2_with (at_builtin; refine wpList_append_src rfl _ _ 44 rfl 26 inf (.int .u32 0) 1 4 Try.underlying44 hi1 hy0 hy1 hy2 rfl (by decide) (.slice av o.length cv) o.length (o.map (.int .u32)) rfl hown _ 1 _ rfl hs6 (by simp [Value.oneCell']) (by unfold maxLen; omega) (by omega) ?_; intro v7 w7 g1 g2 g3; obtain ⟨a7, c7, rfl⟩ := own_slice g1)
      have u2 := u1.app g1 g2 g3
      have hsr : Src w7 (.slice a7 (o ++ [c]).length c7) 1 (o ++ [c]).length ((o ++ [c]).map (.int .u32)) := by rw [hcl.out, List.map_append]; exact own_src u2.head
      have hsr := Lib.hid hsr
      have ho := Lib.hid u2.only
      clear g1 g2 g3 u1 hs6 hown u2
      rw [← hcl.out]
      go_wp2_with fail
      refine (trim_any _ _ (o ++ [c]) w7 hsr.out hfu.out (by rw [hcl.out]; omega)).mono ?_
      rintro e w8 ⟨rfl, v, rfl, hN⟩
      rw [hfv.out] at hN
      have hN := Lib.hid hN
      go_wp2_with fail
      go_ret
      exact ⟨ho.out, v, rfl, hN.out⟩
end Go.Proofs.Ytemmdhfmdgpfmaa
