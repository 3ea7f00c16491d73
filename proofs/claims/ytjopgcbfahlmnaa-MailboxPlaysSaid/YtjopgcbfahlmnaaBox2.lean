/- The contract of From of layer 18 (mailbox). -/
import Derived.Test.YtjopgcbfahlmnaaBox
namespace Go.Proofs.Ytjopgcbfahlmnaa
open Go.RowKit Go.Pw
set_option linter.unusedVariables false

/-- Those behind a number, so many at most, behind some. -/
def fromF (n most : Int) : List (Int × List Int) → List (Int × List Int) → List (Int × List Int)
  | acc, [] => acc
  | acc, x :: r => fromF n most (if n < x.1 ∧ (acc.length : Int) < most then acc ++ [x] else acc) r

/-- An item where it lies. -/
theorem item_at {w : World} {g c : Nat} {l : List It} (h : w.ownsRow 0 36 2 (.slice (some ⟨g, 0, none⟩) l.length c) l.length (flat l)) {k : Nat} (hk : k < l.length) :
    w.cell? ⟨g, k * 2, none⟩ = some (.int .u64 l[k].n) ∧ w.cell? ⟨g, k * 2 + 1, none⟩ = some (ev l[k]) := by
  have h1 := h.cellAt (k * 2) (by omega)
  have h2 := h.cellAt (k * 2 + 1) (by omega)
  have := flat_at hk
  rw [Nat.mul_comm] at this
  exact ⟨h1.trans this.1, h2.trans this.2⟩

theorem items_facts {w0 w : World} {rs : List Res} {v : Value} {l : List It} (h : Sep w0 w (itemsR v l :: rs)) :
    w.ownsRow 0 36 2 v l.length (flat l) ∧ ∀ x ∈ l, w.ownsRow 0 5 1 (ev x) x.bs.length (x.bs.map (Value.int .u8)) := by
  have h0 : (itemsR v l).ok w := h.head
  exact ⟨h0.1, fun x hx => h0.2.1.1 (env x) (List.mem_map.2 ⟨x, hx, rfl⟩)⟩

/-- What From leaves. -/
def Froms (w0 : World) (rs : List Res) (l : List It) (n most : Int) (e : Ending) (w' : World) : Prop :=
  ∃ v' l', e = .returned v' ∧ l'.map ct = fromF n most [] (l.map ct) ∧ Sep w0 w' (itemsR v' l' :: rs)

set_option maxHeartbeats 400000 in
theorem from_nil (n most : Int) (w : World) : Calls Try.prog 9 #[.pointer none, .int .u64 n, .int .i64 most] w fun e w' => e = .returned (.slice none 0 0) ∧ w = w' := by
  go_enter Try.func9, Try.ntmps9
  go_wp2
  go_ret
  exact ⟨rfl, rfl⟩

set_option maxRecDepth 100000 in
set_option maxHeartbeats 3200000 in
theorem from_any {w0 : World} {rs : List Res} (B : Nat) (v : Value) (l : List It) (last n most : Int) (w : World) (h : Sep w0 w (box B v l last :: rs)) (hl : l.length ≤ 1000000) (hb : ∀ x ∈ l, x.bs.length ≤ 100000000 ∧ 0 ≤ x.n ∧ x.n < 18446744073709551616) (hn : 0 ≤ n ∧ n < 18446744073709551616) (hm : -9223372036854775808 ≤ most ∧ most ≤ 9223372036854775807) :
    Calls Try.prog 9 #[.pointer (some ⟨B, 0, none⟩), .int .u64 n, .int .i64 most] w (Froms w0 (box B v l last :: rs) l n most) := by
  obtain ⟨i0, hi, hz0, hz1, hz2⟩ := info_parts Try.info36
  obtain ⟨hB, hr, _, _⟩ := box_facts h
  obtain ⟨ao, c, rfl⟩ := box_slice hr
  have h0 := cell_two0 hB
  go_enter Try.func9, Try.ntmps9
  go_wp2_with fail
  clear h0 hB hr
  go_loopw [7, 18] (fun u i wr => ∃ (k : Nat) (v' : Value) (l' : List It), i = .int .i64 k ∧ k ≤ l.length ∧ u = v' ∧ l'.length ≤ k ∧ fromF n most (l'.map ct) ((l.drop k).map ct) = fromF n most [] (l.map ct) ∧ Sep w0 wr (itemsR v' l' :: box B (.slice ao l.length c) l last :: rs)) (fun _ i _ => l.length - (intOf i).toNat)
  case atStart => exact ⟨0, _, [], rfl, Nat.zero_le _, rfl, Nat.le_refl _, rfl, by
    have s1 := (h.rown 36 2).perm (List.Perm.refl _)
    exact (s1.many_nil.up 1 (by simp)).join⟩
  case round =>
    clear h
    obtain ⟨k, v', l', rfl, hk, rfl, hl', hf, hs⟩ := hrel
    have hf := Lib.hid hf
    by_cases hkl : k < l.length
    · obtain ⟨_, hr, henv, _⟩ := box_facts hs.tail
      obtain ⟨g, rfl, _⟩ := own_some hr (by omega)
      obtain ⟨hrow, _⟩ := items_facts hs
      have hit := item_at hr hkl
      have hbx := hb l[k] (List.getElem_mem _)
      have hev := henv l[k] (List.getElem_mem _)
      have hfk : Hid ((l.drop k).map ct = ct l[k] :: (l.drop (k + 1)).map ct) := by
        show (l.drop k).map ct = _
        rw [List.drop_eq_getElem_cons hkl]; rfl
      generalize l[k] = x at *
      obtain ⟨xn, ao, cp, bs⟩ := x
      simp only [ev, ct] at hit hev hfk hbx
      obtain ⟨hc0, hc1⟩ := hit
      have hc0a : ∀ o, (wr.alloc o).cell? ⟨g, k * 2, none⟩ = some (.int .u64 xn) := cell_al hc0
      have hc1a : ∀ o, (wr.alloc o).cell? ⟨g, k * 2 + 1, none⟩ = some (.slice ao bs.length cp) := cell_al hc1
      obtain ⟨a', c', rfl⟩ := own_slice hrow
      by_cases h1 : n < xn
      · have d1 : decide (n < xn) = true := by simpa using h1
        by_cases h2 : (l'.length : Int) < most
        · have d2 : decide ((l'.length : Int) < most) = true := by simpa using h2
          go_wp2_with fail
          obtain ⟨V, X, hV, hX0, hX, hoV, hX1, hX2⟩ := new_block wr (.cells #[.int .u64 xn, .slice ao bs.length cp] 36)
          rw [← hV, ← hX0]
          have hs2 := hs.quiet hoV
          have hneX : X ∉ (Value.slice a' l'.length c').ownBlock.toList := fun hm => by
            have := (hrow.lt X (by simpa using hm)).2
            omega
          have hsrc := (own_src hev).off (hoV.trans (Only.drew V [])) (fun _ _ _ => by simp)
          have hrow := own_new hrow hoV (by simp)
          clear hV hX0 hc0 hc1 hc0a hc1a hev hs hr henv
          generalize hv' : Value.slice a' l'.length c' = v' at *
          refine wp_region_held_drew (S := fun w' => Only V.drew w' v'.ownBlock.toList) (by kernel_rfl) (Only.refl _ _) (fun hHeld => ?_)
          refine' wpAnyH_take (i := 0) (v := _) (op_at rfl) (by kernel_rfl) (by kernel_rfl) (by kernel_rfl) (fun _ _ _ h => h) (Or.inl ⟨by rfl, ?hy1⟩) (by assumption) ?rest1
          case hy1 =>
            intro w' hS
            go_simp
            try with_reducible rfl
          try simp only [Act.put, List.setIfInBounds_toArray, List.set_cons_zero, List.set_cons_succ]
          refine' wpAnyH_take (i := 1) (v := _) (op_at rfl) (by kernel_rfl) (by kernel_rfl) (by kernel_rfl) (fun _ _ _ h => h) (Or.inl ⟨by rfl, ?hy2⟩) (by assumption) ?rest2
          case hy2 =>
            intro w' hS
            go_simp
            try with_reducible rfl
          try simp only [Act.put, List.setIfInBounds_toArray, List.set_cons_zero, List.set_cons_succ]
          refine' wpAnyH_take (i := 2) (v := _) (op_at rfl) (by kernel_rfl) (by kernel_rfl) (by kernel_rfl) (fun _ _ _ h => h) (Or.inl ⟨by rfl, ?hy3⟩) (by assumption) ?rest3
          case hy3 =>
            intro w' hS
            have hX2 := hS.at (show V.drew.heap[X]? = _ from hX) hneX
            have c0 := cell_two0 hX2
            have c1 := cell_two1 hX2
            go_simp
            try with_reducible rfl
          try simp only [Act.put, List.setIfInBounds_toArray, List.set_cons_zero, List.set_cons_succ]
          refine' wpAnyH_take (i := 3) (v := _) (op_at rfl) (by kernel_rfl) (by kernel_rfl) (by kernel_rfl) (fun _ _ _ h => h) (Or.inl ⟨by rfl, ?hy4⟩) (by assumption) ?rest4
          case hy4 =>
            intro w' hS
            go_simp
            try with_reducible rfl
          try simp only [Act.put, List.setIfInBounds_toArray, List.set_cons_zero, List.set_cons_succ]
          refine' wpAnyH_take (i := 4) (v := _) (op_at rfl) (by kernel_rfl) (by kernel_rfl) (by kernel_rfl) (fun _ _ _ h => h) (Or.inl ⟨by rfl, ?hy5⟩) (by assumption) ?rest5
          case hy5 =>
            intro w' hS
            have hX2 := hS.at (show V.drew.heap[X]? = _ from hX) hneX
            have c0 := cell_two0 hX2
            have c1 := cell_two1 hX2
            go_simp
            try with_reducible rfl
          try simp only [Act.put, List.setIfInBounds_toArray, List.set_cons_zero, List.set_cons_succ]
          refine wpAnyH_ready (rs := [5]) (by kernel_rfl) (by simp) (AllReadyH.cons (op_at rfl) (fun K hK => ?_) AllReadyH.nil)
          go_simp
          refine (clone_any (.slice ao bs.length cp) bs V.drew hsrc (by omega)).mono ?_
          rintro e w5 ⟨v5, rfl, g1, g2, g3⟩
          obtain ⟨a5, c5, rfl⟩ := own_slice g1
          go_wp2_with fail
          refine hK.out _ _ (g3.mono (by simp)) (fun hHeld => ?_)
          clear hK K
          try simp only [Act.put, List.setIfInBounds_toArray, List.set_cons_zero, List.set_cons_succ]
          refine' wpAnyH_take (i := 6) (v := _) (op_at rfl) (by kernel_rfl) (by kernel_rfl) (by kernel_rfl) (fun _ _ _ h => h) (Or.inl ⟨by rfl, ?hy6⟩) (by assumption) ?rest6
          case hy6 =>
            intro w' hS
            go_simp
            try with_reducible rfl
          try simp only [Act.put, List.setIfInBounds_toArray, List.set_cons_zero, List.set_cons_succ]
          refine wpAnyH_ready (rs := [7]) (by kernel_rfl) (by simp) (AllReadyH.cons (op_at rfl) (fun K hK => ?_) AllReadyH.nil)
          go_simp
          go_wp2_with fail
          refine hK.out _ _ ((g3.mono (by simp)).trans (Only.alloc w5 _ _)) (fun hHeld => ?_)
          clear hK K
          try simp only [Act.put, List.setIfInBounds_toArray, List.set_cons_zero, List.set_cons_succ]
          refine wpAnyH_ready (rs := [8]) (by kernel_rfl) (by simp) (AllReadyH.cons (op_at rfl) (fun K hK => ?_) AllReadyH.nil)
          have hr6 : (w5.alloc (.cells #[.int .u64 xn, .slice a5 bs.length c5] 36)).ownsRow 0 36 2 v' l'.length (flat l') := own_new hrow (((Only.drew V []).trans g3).trans (Only.alloc w5 _ [])) (by simp)
          have hs6 : Src (w5.alloc (.cells #[.int .u64 xn, .slice a5 bs.length c5] 36)) (.slice (some ⟨w5.heap.size, 0, none⟩) 1 1) 2 1 [.int .u64 xn, .slice a5 bs.length c5] := src_lit w5 _ _ _ _ rfl
          refine step_append_src (by rfl) (.tmp 32) (.tmp 39) 28 (by rfl) 36 i0 (.agg #[.int .u64 0, .slice none 0 0]) 2 32 Try.underlying28 hi hz0 hz1 hz2 rfl (by decide) v' l'.length (flat l') (by rfl) hr6 _ 1 [.int .u64 xn, .slice a5 bs.length c5] (by rfl) hs6 (by simp [Value.oneCell']) (by unfold maxLen; omega) (by omega) (fun v7 w7 q1 q2 q3 => ?_)
          have hS7 : Only V.drew w7 v'.ownBlock.toList := ((g3.mono (by simp)).trans (Only.alloc w5 _ _)).trans (Only.grown q2 (fun k hk => by simp [hk]))
          obtain ⟨a7, c7, rfl⟩ := own_slice q1
          go_wp2_with fail
          refine hK.out _ _ (hS7) (fun hHeld => ?_)
          clear hK K
          try simp only [Act.put, List.setIfInBounds_toArray, List.set_cons_zero, List.set_cons_succ]
          refine' wpAnyH_take (i := 9) (v := _) (op_at rfl) (by kernel_rfl) (by kernel_rfl) (by kernel_rfl) (fun _ _ _ h => h) (Or.inl ⟨by rfl, ?hy7⟩) (by assumption) ?rest7
          case hy7 =>
            intro w' hS
            go_simp
            try with_reducible rfl
          try simp only [Act.put, List.setIfInBounds_toArray, List.set_cons_zero, List.set_cons_succ]
          refine wpAnyH_done (by kernel_rfl) ?_ _
          have t1 := items_app ⟨xn, a5, c5, bs⟩ hs2 g1 g2 ((Only.drew V []).trans g3) (Only.alloc w5 _ []) q1 q2 q3
          go_wp2_with fail
          refine ⟨⟨k + 1, _, l' ++ [⟨xn, a5, c5, bs⟩], by simp, by omega, rfl, by simp; omega, ?_, t1⟩, by simp [intOf]; omega⟩
          rw [← hf.out, hfk.out, List.map_append]
          simp only [fromF, List.map_cons, List.map_nil, ct]
          rw [if_pos ⟨h1, by rw [List.length_map]; exact h2⟩]
        · have d2 : decide ((l'.length : Int) < most) = false := by simpa using h2
          go_wp2_with fail
          refine ⟨⟨k + 1, _, l', by simp, by omega, rfl, by omega, ?_, hs.quiet (Only.alloc _ _ _)⟩, by simp [intOf]; omega⟩
          rw [← hf.out, hfk.out]
          simp only [fromF]
          rw [if_neg (fun hh => h2 (by have := hh.2; rwa [List.length_map] at this))]
      · have d1 : decide (n < xn) = false := by simpa using h1
        go_wp2_with fail
        refine ⟨⟨k + 1, _, l', by simp, by omega, rfl, by omega, ?_, hs.quiet (Only.alloc _ _ _)⟩, by simp [intOf]; omega⟩
        rw [← hf.out, hfk.out]
        simp only [fromF]
        rw [if_neg (fun hh => h1 hh.1)]
    · obtain rfl : k = l.length := by omega
      have d1 : decide ((l.length : Int) < l.length) = false := by simp
      obtain ⟨hrow, _⟩ := items_facts hs
      obtain ⟨a', c', rfl⟩ := own_slice hrow
      go_wp2_with fail
      go_ret
      exact ⟨_, l', rfl, by have := hf.out; simpa [fromF] using this, hs⟩

end Go.Proofs.Ytjopgcbfahlmnaa
