/- slices.Insert of one element. Printed by gen_ins.py. -/
import Derived.Test.YtdlbkdnpbcpjfaaPk
import Derived.Test.YtdlbkdnpbcpjfaaProg
set_option linter.unusedSimpArgs false
set_option linter.unusedVariables false
namespace Go.Proofs.Ytdlbkdnpbcpjfaa
open Go.RowKit Go.Pw
set_option linter.unusedVariables false

theorem ins_info : (Try.prog.info? 36).map (fun i => (i.zero, i.size, i.bytes)) = some (some (.agg #[.int .i64 0, .int .i64 0, .slice none 0 0, .slice none 0 0, .pointer none, .bool false, .float .f64 0]), 7, 88) := by kernel_rfl
theorem ins_size : (Try.prog.info? 36).map (·.size) = some 7 := by
  obtain ⟨i0, hi, hz0, hz1, hz2⟩ := info_parts ins_info
  rw [hi]; simp [hz1]

set_option maxHeartbeats 4000000 in
set_option maxRecDepth 100000 in
/-- At the end: an append. -/
theorem ins_end {w0 : World} {rs : List Res} (v : Value) (n : Nat) (xs vs : List Value) (vb : Nat) (w : World) (h : Sep w0 w (row 36 7 v n xs :: rs)) (hn : n ≤ 1000000)
    (hvl : vs.length = 7) (hvs : ∀ j u, vs[j]? = some u → w.cell? ⟨vb, j, none⟩ = some u) (h1v : ∀ u ∈ vs, u.oneCell' = true) :
    Calls Try.prog 28 #[v, .int .i64 n, .slice (some ⟨vb, 0, none⟩) 1 1] w fun e w' => ∃ v', e = .returned v' ∧ Only w w' (Value.ownBlock v).toList ∧ Sep w0 w' (row 36 7 v' (n + 1) (xs ++ vs) :: rs) := by
  obtain ⟨i0, hi, hz0, hz1, hz2⟩ := info_parts ins_info
  have hsrc : Pw.Src w (.slice (some ⟨vb, 0, none⟩) 1 1) 7 1 vs := ⟨_, _, rfl, Nat.le_refl _, by decide, by rw [hvl], by simp, fun b hb j u hj => by
    obtain rfl : b = ⟨vb, 0, none⟩ := by simpa using hb.symm
    rw [Addr.add_lit, Nat.zero_add]; exact hvs j u hj⟩
  obtain ⟨ao, c, rfl⟩ := own_slice (show w.ownsRow 0 _ 7 v n xs from h.head)
  have hr := run_append_src w 46 46 36 i0 _ 7 88 Try.underlying46 hi hz0 hz1 hz2 rfl (by decide) _ n xs h.head _ 1 vs hsrc h1v (by unfold maxLen; omega) (by omega)
  obtain ⟨v', w', hrun, g1, g2, g3⟩ := hr
  have s2 := h.app g1 g2 g3
  have oE : Only w w' (Value.ownBlock (.slice ao n c)).toList := Only.grown g2 (fun k hk => by simp [hk])
  rcases (show w.ownsRow 0 _ 7 (.slice ao n c) n xs from h.head).2 with ⟨he, hx⟩ | ⟨g, cap, cur, he, hb, hg, hnc, hcm, hcs, htake⟩
  · simp only [Value.slice.injEq] at he
    obtain ⟨rfl, rfl, rfl⟩ := he
    clear h g1 g2 g3 hsrc
    go_enter Try.func28, Try.ntmps28
    go_wp2_with (at_builtin; refine wpList_append_run rfl _ _ _ rfl _ _ rfl rfl hrun ?_)
    go_ret
    exact ⟨_, rfl, oE, s2⟩
  · simp only [Value.slice.injEq, true_and] at he
    obtain ⟨rfl, rfl⟩ := he
    clear h g1 g2 g3 hsrc
    go_enter Try.func28, Try.ntmps28
    go_wp2_with (at_builtin; refine wpList_append_run rfl _ _ _ rfl _ _ rfl rfl hrun ?_)
    all_goals (go_ret; exact ⟨_, rfl, oE, s2⟩)

set_option maxHeartbeats 4000000 in
set_option maxRecDepth 100000 in
/-- There is room. -/
theorem ins_shift {w0 : World} {rs : List Res} (g c n i : Nat) (xs vs : List Value) (vb : Nat) (w : World) (h : Sep w0 w (row 36 7 (.slice (some ⟨g, 0, none⟩) n c) n xs :: rs)) (hn : n ≤ 1000000) (hi : i < n) (hroom : n + 1 ≤ c)
    (hvl : vs.length = 7) (hvb : w.heap[vb]? = some (.cells vs.toArray 36 (0, 0))) (hne : vb ≠ g) (h1c : ∀ u ∈ xs, u.oneCell' = true) (h1v : ∀ u ∈ vs, u.oneCell' = true) :
    Calls Try.prog 28 #[.slice (some ⟨g, 0, none⟩) n c, .int .i64 i, .slice (some ⟨vb, 0, none⟩) 1 1] w fun e w' => ∃ v', e = .returned v' ∧ Only w w' (Value.ownBlock (.slice (some ⟨g, 0, none⟩) n c)).toList ∧ Sep w0 w' (row 36 7 v' (n + 1) (xs.take (i * 7) ++ vs ++ xs.drop (i * 7)) :: rs) := by
  have hown : w.ownsRow 0 36 7 (.slice (some ⟨g, 0, none⟩) n c) n xs := h.head
  have hc63 : c ≤ 9223372036854775807 := by have := (row_cap hown).2; unfold maxLen at this; omega
  obtain ⟨tB, kB, hsb, hkB⟩ := row_shape hown (by omega) (by decide)
  have hsa := cells_shape hvb
  have hxl : xs.length = n * 7 := hown.1
  obtain ⟨junk, hjl, hmore⟩ := row_more hown 1 hroom
  have hov : ∀ lb cb, (callFunc 58 #[.slice (some ⟨vb, 0, none⟩) 1 1, .slice (some ⟨g, (i + 1) * 7, none⟩) lb cb]).run Try.prog w = .ok (.value (.bool false)) w := fun lb cb => by
    rw [run_callFunc_extern Try.func58 (by kernel_rfl) (by kernel_rfl) (by kernel_rfl) (e := Extern.SlicesOverlaps.overlaps #[46, 46] #[4]) (by kernel_rfl),
      Lib.run_overlaps_apart w 46 4 36 Try.underlying46 7 (by intro w; simp [go_sem]) ⟨vb, 0, none⟩ ⟨g, (i + 1) * 7, none⟩ 1 1 lb cb hne _ _ _ _ hsa hsb hkB (by simp [World.frozen?, hvb]) (by simp [World.frozen?, hvb])]
    rfl
  have hdl : (xs.drop (i * 7)).length = (n - i) * 7 := by rw [List.length_drop, hxl, ← Nat.sub_mul]
  have hw1 : IntKind.i64.wrap ((i : Int) + (1 : Int)) = (i : Int) + (1 : Int) := by rw [IntKind.wrap_i64]; omega
  have hmd : w.drew.ownsRow 0 36 7 (.slice (some ⟨g, 0, none⟩) (n + 1) c) (n + 1) (xs ++ junk) := hmore
  have hcp1 : ∀ ty dc sc, (Builtin.copy_ #[46, 46] ty #[.slice (some ⟨g, (i + 1) * 7, none⟩) (n - i) dc, .slice (some ⟨g, i * 7, none⟩) (n + 1 - i) sc]).run Try.prog w.drew = .ok (goInt (n - i : Nat)) (w.drew.setCells g ((i + 1) * 7) (xs.drop (i * 7))) := fun ty dc sc =>
    run_copy_k w.drew _ _ ty 36 7 g _ _ dc _ _ sc (xs.drop (i * 7)) (n - i) Try.underlying46 ins_size (by simp only [Nat.min_def]; split <;> omega) hdl
      (fun j u hj => by
        rw [List.getElem?_drop] at hj
        have hlt := (List.getElem?_eq_some_iff.1 hj).1
        rw [Addr.add_lit, hmd.cellAt _ (by omega), List.getElem?_append_left hlt]; exact hj)
      (fun j hj => (row_there hmd _ ((n - i) * 7) (by rw [← Nat.add_mul]; exact Nat.mul_le_mul_right _ (by omega)) j (by omega)).1)
      (fun j hj => hmd.frozenAt _) (fun u hu => h1c u (List.mem_of_mem_drop hu))
  obtain ⟨W1, hW1⟩ : ∃ W1, W1 = w.drew.setCells g ((i + 1) * 7) (xs.drop (i * 7)) := ⟨_, rfl⟩
  have hr1 := row_setCells (w := w) (xs.drop (i * 7)) ((i + 1) * 7) _ _ hmd
  rw [← hW1] at hr1
  have o1 : Only w.drew W1 [g] := by rw [hW1]; exact only_setCells _ _ _
  have hcp2 : ∀ ty dc, (Builtin.copy_ #[46, 46] ty #[.slice (some ⟨g, i * 7, none⟩) (n + 1 - i) dc, .slice (some ⟨vb, 0, none⟩) 1 1]).run Try.prog W1 = .ok (goInt (1 : Nat)) (W1.setCells g (i * 7) vs) := fun ty dc =>
    run_copy_k W1 _ _ ty 36 7 g _ _ dc _ _ _ vs 1 Try.underlying46 ins_size (by simp only [Nat.min_def]; split <;> omega) hvl
      (fun j u hj => by
        have hb := o1.at (show w.drew.heap[vb]? = _ from hvb) (by simpa using hne)
        rw [Addr.add_lit, Nat.zero_add, cell_in hb]; simpa using hj)
      (fun j hj => (row_there hr1 _ 7 (by omega) j (by omega)).1)
      (fun j hj => hr1.frozenAt _) h1v
  have hr2 := row_setCells (w := w) vs (i * 7) _ _ hr1
  have hAl : (xs.take (i * 7)).length = i * 7 := by rw [List.length_take, hxl, Nat.min_eq_left (by omega)]
  have hset := (setL_ins (xs ++ junk) (xs.take (i * 7)) (xs.drop (i * 7)) vs i 7 hvl hAl (by rw [List.length_append, hxl, hjl, hdl]; omega) (by rw [List.take_append_of_le_length (by omega)])).2
  rw [hset] at hr2
  have sF : Sep w0 (W1.setCells g (i * 7) vs) (row 36 7 (.slice (some ⟨g, 0, none⟩) (n + 1) c) (n + 1) (xs.take (i * 7) ++ vs ++ xs.drop (i * 7)) :: rs) :=
    h.step (L := [g]) ((((Only.drew w [g]).trans o1)).trans (only_setCells _ _ _)) (fun k hk => .inl (by simpa [row, Value.ownBlock] using hk)) hr2 (fun k hk => .inl (by simpa [row, Value.ownBlock] using hk))
  have oE : Only w (W1.setCells g (i * 7) vs) (Value.ownBlock (.slice (some ⟨g, 0, none⟩) n c)).toList := by
    show Only w _ [g]
    exact ((Only.drew w [g]).trans o1).trans (only_setCells _ _ _)
  rw [← hW1] at hcp1
  have hz2 : ¬ ((i : Int) = (n : Int)) := by omega
  have hb1 : (0 : Int) ≤ (i : Int) + (1 : Int) := by omega
  have hin : i ≤ n := by omega
  have htn : ((i : Int) + (1 : Int)).toNat = i + 1 := by omega
  have hb2 : ¬ (c = i + 1) := by omega
  have hb3 : (i : Int) ≤ (n : Int) + (1 : Int) := by omega
  have hb4 : ¬ (c = i) := by omega
  clear h hown hmore hmd hr1 hr2 hset o1 hW1 hsb hsa
  go_enter Try.func28, Try.ntmps28
  go_wp2_with (simp only [hov])
  go_region_law (refine step_copy_k rfl _ _ 46 46 rfl _ _ (by simp [Act.eval, Act.put]) (by simp [Act.eval, Act.put]) (hcp1 _ _ _) ?_)
  go_wp2_with (at_builtin; refine wpList_copy_k _ rfl _ _ 46 46 rfl _ _ rfl rfl (hcp2 _ _) ?_)
  go_ret
  exact ⟨_, rfl, oE, sF⟩
set_option maxHeartbeats 4000000 in
set_option maxRecDepth 100000 in
/-- There is none: a new row. -/
theorem ins_grow {w0 : World} {rs : List Res} (g n i : Nat) (xs vs : List Value) (vb : Nat) (w : World) (h : Sep w0 w (row 36 7 (.slice (some ⟨g, 0, none⟩) n n) n xs :: rs)) (hn : n ≤ 1000000) (hi : i < n)
    (hvl : vs.length = 7) (hvb : w.heap[vb]? = some (.cells vs.toArray 36 (0, 0))) (h1c : ∀ u ∈ xs, u.oneCell' = true) (h1v : ∀ u ∈ vs, u.oneCell' = true) :
    Calls Try.prog 28 #[.slice (some ⟨g, 0, none⟩) n n, .int .i64 i, .slice (some ⟨vb, 0, none⟩) 1 1] w fun e w' => ∃ v', e = .returned v' ∧ Only w w' (Value.ownBlock (.slice (some ⟨g, 0, none⟩) n n)).toList ∧ Sep w0 w' (row 36 7 v' (n + 1) (xs.take (i * 7) ++ vs ++ xs.drop (i * 7)) :: rs) := by
  obtain ⟨i0, hi0, hz0, hzs, hzb⟩ := info_parts ins_info
  have hown : w.ownsRow 0 36 7 (.slice (some ⟨g, 0, none⟩) n n) n xs := h.head
  have hxl : xs.length = n * 7 := hown.1
  have hAl : (xs.take (i * 7)).length = i * 7 := by rw [List.length_take, hxl, Nat.min_eq_left (by omega)]
  have hdl : (xs.drop (i * 7)).length = (n - i) * 7 := by rw [List.length_drop, hxl, ← Nat.sub_mul]
  have hold : (Builtin.firstCells i0.size i (.slice (some ⟨g, 0, none⟩) i n)).run Try.prog w.drew = .ok (xs.take (i * 7)).toArray w.drew := by
    rw [hzs]
    exact run_firstCells_some w.drew 7 i ⟨g, 0, none⟩ i n (xs.take (i * 7)) hAl (fun j v hj => by
      rw [Addr.add_lit, Nat.zero_add]
      rw [List.getElem?_take] at hj
      split at hj
      · exact (hown.cellAt j (by omega)).trans hj
      · cases hj)
  have hik : i + (n + 1 - i) = n + 1 := by omega
  obtain ⟨zz, hzz⟩ : ∃ zz : Value, zz = .agg #[.int .i64 0, .int .i64 0, .slice none 0 0, .slice none 0 0, .pointer none, .bool false, .float .f64 0] := ⟨_, rfl⟩
  have hzc : zz.cells.size = 7 := by rw [hzz]; rfl
  rw [← hzz] at hz0
  clear hzz
  obtain ⟨G, hG⟩ : ∃ G, G = grownCap w (n + 1) n 36 := ⟨_, rfl⟩
  have hrz : ∀ ty, (Builtin.append_ #[46, 3] ty #[.slice (some ⟨g, 0, none⟩) i n, .int .i64 ((n : Int) + 1 - (i : Int))]).run Try.prog w =
      .ok (.slice (some ⟨w.heap.size, 0, none⟩) (n + 1) G) (w.drew.alloc (.cells ((xs.take (i * 7)).toArray ++ Builtin.zeroCells zz.cells (n + 1 - i) ++ Builtin.zeroCells zz.cells (G - (n + 1))) 36)) := fun ty => by
    have h := Lib.run_append_grow_zeros w 46 3 ty 36 i0 _ .i64 .i64 Try.underlying46 Try.underlying3 hi0 hz0 (some ⟨g, 0, none⟩) i n (xs.take (i * 7)) hold (n + 1 - i) (by omega) (by omega) (by omega) (by omega) (by rw [hzb]; omega) (by rw [hzb, hik]; exact growslice_fits (by omega) (by omega))
    rw [hik, ← hG] at h
    rw [show (n : Int) + 1 - (i : Int) = ((n + 1 - i : Nat) : Int) by omega]
    exact h
  have hge : n + 1 ≤ G := by rw [hG]; exact grownCap_ge w _ _ _
  have hcm : G ≤ maxLen := by rw [hG]; exact grownCap_le_maxLen w _ _ _ (by unfold maxLen; omega)
  have hG63 : G ≤ 9223372036854775807 := by unfold maxLen at hcm; omega
  obtain ⟨zs, hzl, hz⟩ : ∃ zs : List Value, zs.length = (n + 1 - i) * 7 ∧ Builtin.zeroCells zz.cells (n + 1 - i) = zs.toArray := ⟨(Builtin.zeroCells zz.cells (n + 1 - i)).toList, by rw [Array.length_toList, size_zeroCells, hzc], by simp⟩
  obtain ⟨ys, hyl, hy⟩ : ∃ ys : List Value, ys.length = (G - (n + 1)) * 7 ∧ Builtin.zeroCells zz.cells (G - (n + 1)) = ys.toArray := ⟨(Builtin.zeroCells zz.cells (G - (n + 1))).toList, by rw [Array.length_toList, size_zeroCells, hzc], by simp⟩
  rw [hz, hy] at hrz
  clear hz hy hold hG hi0 hz0 hzs hzb
  obtain ⟨W1, hW1⟩ : ∃ W1, W1 = w.drew.alloc (.cells ((xs.take (i * 7)).toArray ++ zs.toArray ++ ys.toArray) 36) := ⟨_, rfl⟩
  rw [← hW1] at hrz
  have hl1 : (xs.take (i * 7) ++ zs).length = (n + 1) * 7 := by rw [List.length_append, hAl, hzl, ← Nat.add_mul, hik]
  have hr1 : W1.ownsRow 0 36 7 (.slice (some ⟨w.heap.size, 0, none⟩) (n + 1) G) (n + 1) (xs.take (i * 7) ++ zs) := by
    refine ⟨hl1, .inr ⟨w.heap.size, G, _, rfl, Nat.zero_le _, (by rw [hW1]; exact heap_alloc_new w.drew _), hge, hcm, ?_, ?_⟩⟩
    · simp only [Array.size_append, List.size_toArray]
      rw [hAl, hzl, hyl, ← Nat.add_mul, ← Nat.add_mul]
      congr 1
      omega
    · simp only [Array.toList_append]
      rw [← hl1]
      exact List.take_left
  have oA : Only w W1 [] := by rw [hW1]; exact (Only.drew w []).trans (Only.alloc w.drew _ [])
  clear hW1
  obtain ⟨N, hN⟩ : ∃ N, N = w.heap.size := ⟨_, rfl⟩
  rw [← hN] at hrz hr1
  have hvN : vb ≠ N := by have := (Array.getElem?_eq_some_iff.1 hvb).1; omega
  have hcpA : ∀ ty dc, (Builtin.copy_ #[46, 46] ty #[.slice (some ⟨N, i * 7, none⟩) (n + 1 - i) dc, .slice (some ⟨vb, 0, none⟩) 1 1]).run Try.prog W1 = .ok (goInt (1 : Nat)) (W1.setCells N (i * 7) vs) := fun ty dc =>
    run_copy_k W1 _ _ ty 36 7 N _ _ dc _ _ _ vs 1 Try.underlying46 ins_size (by simp only [Nat.min_def]; split <;> omega) hvl
      (fun j u hj => by
        have hb := oA.at hvb (by simp)
        rw [Addr.add_lit, Nat.zero_add, cell_in hb]; simpa using hj)
      (fun j hj => (row_there hr1 _ 7 (by omega) j (by omega)).1)
      (fun j hj => hr1.frozenAt _) h1v
  have hr2 := row_setCells (w := w) vs (i * 7) _ _ hr1
  obtain ⟨W2, hW2⟩ : ∃ W2, W2 = W1.setCells N (i * 7) vs := ⟨_, rfl⟩
  have o2 : Only w W2 [] := by rw [hW2]; exact oA.new (only_setCells _ _ _ : Only W1 _ [N]) (fun k hk => by simp only [List.mem_singleton] at hk; omega)
  rw [← hW2] at hcpA hr2
  clear hW2
  have hr2d : W2.drew.ownsRow 0 36 7 (.slice (some ⟨N, 0, none⟩) (n + 1) G) (n + 1) (setL (xs.take (i * 7) ++ zs) (i * 7) vs) := hr2
  have hownd : W2.drew.ownsRow 0 36 7 (.slice (some ⟨g, 0, none⟩) n n) n xs := (h.quiet (o2.trans (Only.drew W2 []))).head
  have hcpB : ∀ ty dc sc, (Builtin.copy_ #[46, 46] ty #[.slice (some ⟨N, (i + 1) * 7, none⟩) (n - i) dc, .slice (some ⟨g, i * 7, none⟩) (n - i) sc]).run Try.prog W2.drew = .ok (goInt (n - i : Nat)) (W2.drew.setCells N ((i + 1) * 7) (xs.drop (i * 7))) := fun ty dc sc =>
    run_copy_k W2.drew _ _ ty 36 7 N _ _ dc _ _ sc (xs.drop (i * 7)) (n - i) Try.underlying46 ins_size (by simp) hdl
      (fun j u hj => by
        rw [List.getElem?_drop] at hj
        have hlt := (List.getElem?_eq_some_iff.1 hj).1
        rw [Addr.add_lit, hownd.cellAt _ (by omega)]; exact hj)
      (fun j hj => (row_there hr2d _ ((n - i) * 7) (by rw [← Nat.add_mul]; exact Nat.mul_le_mul_right _ (by omega)) j (by omega)).1)
      (fun j hj => hr2d.frozenAt _) (fun u hu => h1c u (List.mem_of_mem_drop hu))
  have hr3 := row_setCells (w := w) (xs.drop (i * 7)) ((i + 1) * 7) _ _ hr2d
  have hset := (setL_ins (xs.take (i * 7) ++ zs) (xs.take (i * 7)) (xs.drop (i * 7)) vs i 7 hvl hAl (by rw [hl1, hdl, ← Nat.succ_mul, ← Nat.add_mul]; congr 1; omega) (by rw [List.take_append_of_le_length (by omega), List.take_take, Nat.min_self])).1
  rw [hset] at hr3
  have o3 : Only w (W2.drew.setCells N ((i + 1) * 7) (xs.drop (i * 7))) [] := (o2.trans (Only.drew W2 [])).new (only_setCells _ _ _ : Only W2.drew _ [N]) (fun k hk => by simp only [List.mem_singleton] at hk; omega)
  have sF : Sep w0 (W2.drew.setCells N ((i + 1) * 7) (xs.drop (i * 7))) (row 36 7 (.slice (some ⟨N, 0, none⟩) (n + 1) G) (n + 1) (xs.take (i * 7) ++ vs ++ xs.drop (i * 7)) :: rs) :=
    h.step (L := []) o3 (fun k hk => by simp at hk) hr3 (fun k hk => .inr (by simp [row, Value.ownBlock] at hk; omega))
  have oE : Only w (W2.drew.setCells N ((i + 1) * 7) (xs.drop (i * 7))) (Value.ownBlock (.slice (some ⟨g, 0, none⟩) n n)).toList := o3.mono (by simp)
  have hz2 : ¬ ((i : Int) = (n : Int)) := by omega
  have hz3 : (n : Int) < (n : Int) + (1 : Int) := by omega
  have hw1 : IntKind.i64.wrap ((i : Int) + (1 : Int)) = (i : Int) + (1 : Int) := by rw [IntKind.wrap_i64]; omega
  have hb1 : (0 : Int) ≤ (i : Int) + (1 : Int) := by omega
  have hin : i ≤ n := by omega
  have htn : ((i : Int) + (1 : Int)).toNat = i + 1 := by omega
  have hb3 : (i : Int) ≤ (n : Int) := by omega
  have hGi : ¬ (G = i) := by omega
  have hGim : ¬ (G = i + 1) := by omega
  have hci : ¬ (n = i) := by omega
  clear h hown hr1 hr2 hr2d hownd hr3 hset o2 o3 oA hvb hik hzl hyl hl1 hcm hN hvN
  go_enter Try.func28, Try.ntmps28
  go_wp2_with (first
    | (at_builtin; refine wpList_append_run2 rfl _ _ _ _ rfl _ _ rfl rfl (hrz _) ?_)
    | (at_builtin; refine wpList_copy_k _ rfl _ _ 46 46 rfl _ _ rfl rfl (hcpA _ _) ?_))
  go_region_law (refine step_copy_k rfl _ _ 46 46 rfl _ _ (by simp [Act.eval, Act.put]) (by simp [Act.eval, Act.put]) (hcpB _ _ _) ?_)
  go_wp2
  go_ret
  exact ⟨_, rfl, oE, sF⟩

/-- slices.Insert of one element. -/
theorem ins_any {w0 : World} {rs : List Res} (v : Value) (n i : Nat) (xs vs : List Value) (vb : Nat) (w : World) (h : Sep w0 w (row 36 7 v n xs :: rs)) (hn : n ≤ 1000000) (hi : i ≤ n)
    (hvl : vs.length = 7) (hvb : w.heap[vb]? = some (.cells vs.toArray 36 (0, 0))) (hne : v.ownBlock ≠ some vb) (h1c : ∀ u ∈ xs, u.oneCell' = true) (h1v : ∀ u ∈ vs, u.oneCell' = true) :
    Calls Try.prog 28 #[v, .int .i64 i, .slice (some ⟨vb, 0, none⟩) 1 1] w fun e w' => ∃ v', e = .returned v' ∧ Only w w' (Value.ownBlock v).toList ∧ Sep w0 w' (row 36 7 v' (n + 1) (xs.take (i * 7) ++ vs ++ xs.drop (i * 7)) :: rs) := by
  have hxl : xs.length = n * 7 := (show w.ownsRow 0 36 7 v n xs from h.head).1
  by_cases he : i = n
  · subst he
    rw [List.take_of_length_le (by omega), List.drop_of_length_le (by omega), List.append_nil]
    exact ins_end v i xs vs vb w h hn hvl (fun j u hj => by rw [cell_in hvb]; simpa using hj) h1v
  · obtain ⟨ao, c, rfl⟩ := own_slice (show w.ownsRow 0 _ 7 v n xs from h.head)
    obtain ⟨g, rfl, _⟩ := own_some (show w.ownsRow 0 _ 7 (.slice ao n c) n xs from h.head) (by omega)
    have hc := row_cap (show w.ownsRow 0 _ 7 (.slice (some ⟨g, 0, none⟩) n c) n xs from h.head)
    by_cases hr : n + 1 ≤ c
    · exact ins_shift g c n i xs vs vb w h hn (by omega) hr hvl hvb (fun e => hne (by simp [Value.ownBlock, e])) h1c h1v
    · obtain rfl : c = n := by omega
      exact ins_grow g c i xs vs vb w h hn (by omega) hvl hvb h1c h1v
end Go.Proofs.Ytdlbkdnpbcpjfaa
