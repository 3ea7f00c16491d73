/- slices.Insert of one line into a row of two, between them: whatever lies ahead of the row in its block. -/
import Derived.Test.YtadbbdnjcpaooaaGreatDoorXInsF
set_option linter.all false
namespace Go.Pw
end Go.Pw
namespace Go.Proofs.YtadbbdnjcpaooaaGreatDoor
open Go.RowKit Go.Pw
set_option linter.unusedVariables false
set_option linter.unusedSimpArgs false

theorem insm_info : (Tryz.prog.info? 173).map (fun i => (i.zero, i.size, i.bytes)) = some (some (.agg #[.int .i64 0, .int .i64 0, .bool false, .int .i64 0, .int .i64 0, .slice none 0 0, .slice none 0 0, .int .u32 0, .slice none 0 0, .slice none 0 0, .bool false, .int .u32 0, .slice none 0 0, .slice none 0 0]), 14, 200) := by kernel_rfl
theorem insm_size : (Tryz.prog.info? 173).map (·.size) = some 14 := by
  obtain ⟨i0, hi, hz0, hz1, hz2⟩ := info_parts insm_info
  rw [hi]; simp [hz1]

set_option maxHeartbeats 4000000 in
set_option maxRecDepth 100000 in
/-- There is room. -/
theorem insm_shift (g o c vb ov cv : Nat) (cs ds : Array Value) (Tv : TypeId) (frv : Nat × Nat) (xs vs : List Value) (w : World)
    (hg : w.heap[g]? = some (.cells cs 173 (0, 0))) (hcs : cs.size = o + c * 14) (hc : 3 ≤ c) (hc63 : c ≤ 9223372036854775807) (hxl : xs.length = 14) (hx : ∀ j u, xs[j]? = some u → cs[o + 14 + j]? = some u)
    (hv : w.heap[vb]? = some (.cells ds Tv frv)) (hvl : vs.length = 14) (hvs : ∀ j u, vs[j]? = some u → ds[ov + j]? = some u) (hne : vb ≠ g) (h1c : ∀ u ∈ xs, u.oneCell' = true) (h1v : ∀ u ∈ vs, u.oneCell' = true) :
    Calls Tryz.prog 128 #[.slice (some ⟨g, o, none⟩) 2 c, .int .i64 1, .slice (some ⟨vb, ov, none⟩) 1 cv] w fun e w' => e = .returned (.slice (some ⟨g, o, none⟩) 3 c) ∧ w' = (w.drew.setCells g (o + 28) xs).setCells g (o + 14) vs := by
  have hsb : w.shape? g = some (173, cs.size) := by simp [World.shape?, hg]
  have hsa : w.shape? vb = some (Tv, ds.size) := by simp [World.shape?, hv]
  have hds : ds.size ≠ 0 := by
    have h0 : vs[0]? = some vs[0] := List.getElem?_eq_getElem (by omega)
    have := (Array.getElem?_eq_some_iff.1 (hvs 0 _ h0)).1
    omega
  have hov : ∀ lb cb, (callFunc 201 #[.slice (some ⟨vb, ov, none⟩) 1 cv, .slice (some ⟨g, o + 28, none⟩) lb cb]).run Tryz.prog w = .ok (.value (.bool false)) w := fun lb cb => by
    rw [run_callFunc_extern Tryz.func201 (by kernel_rfl) (by kernel_rfl) (by kernel_rfl) (e := Extern.SlicesOverlaps.overlaps #[169, 169] #[4]) (by kernel_rfl),
      run_overlaps_apart2 w 169 4 173 Tryz.underlying169 14 (by intro w; simp [go_sem]) ⟨vb, ov, none⟩ ⟨g, o + 28, none⟩ 1 cv lb cb hne _ _ _ _ hsa hsb hds (by simp [World.frozen?, hg]) (by simp [World.frozen?, hg])]
    rfl
  have hcp1 : ∀ ty dc sc, (Builtin.copy_ #[169, 169] ty #[.slice (some ⟨g, o + 28, none⟩) 1 dc, .slice (some ⟨g, o + 14, none⟩) 2 sc]).run Tryz.prog w.drew = .ok (goInt (1 : Nat)) (w.drew.setCells g (o + 28) xs) := fun ty dc sc =>
    run_copy_k w.drew _ _ ty 173 14 g _ _ dc _ _ sc xs 1 Tryz.underlying169 insm_size (by decide) (by omega)
      (fun j u hj => by
        rw [Addr.add_lit]
        show w.cell? _ = _
        simp only [World.cell?, hg]
        exact hx j u hj)
      (fun j hj => by
        show (w.cell? _).isSome = true
        simp only [World.cell?, hg]
        simp
        omega)
      (fun j hj => by show w.frozen? _ = _; simp [World.frozen?, hg]) h1c
  obtain ⟨W1, hW1⟩ : ∃ W1, W1 = w.drew.setCells g (o + 28) xs := ⟨_, rfl⟩
  have o1 : Only w.drew W1 [g] := by rw [hW1]; exact only_setCells _ _ _
  obtain ⟨cs', hg', hcs'⟩ : ∃ cs' : Array Value, W1.heap[g]? = some (.cells cs' 173 (0, 0)) ∧ cs'.size = cs.size := ⟨_, by rw [hW1]; exact Sx.setCells_heap xs (show w.drew.heap[g]? = _ from hg), Sx.setR_size _ _ _⟩
  have hcp2 : ∀ ty dc, (Builtin.copy_ #[169, 169] ty #[.slice (some ⟨g, o + 14, none⟩) 2 dc, .slice (some ⟨vb, ov, none⟩) 1 cv]).run Tryz.prog W1 = .ok (goInt (1 : Nat)) (W1.setCells g (o + 14) vs) := fun ty dc =>
    run_copy_k W1 _ _ ty 173 14 g _ _ dc _ _ _ vs 1 Tryz.underlying169 insm_size (by decide) (by omega)
      (fun j u hj => by
        have hb := o1.at (show w.drew.heap[vb]? = _ from hv) (by simpa using hne)
        rw [Addr.add_lit, cell_in hb]
        exact hvs j u hj)
      (fun j hj => by
        rw [cell_in hg']
        simp
        omega)
      (fun j hj => by simp [World.frozen?, hg']) h1v
  rw [← hW1] at hcp1 ⊢
  have hw1 : IntKind.i64.wrap (1 : Int) = 1 := by decide
  have ht1 : (1 : Int).toNat = 1 := rfl
  have hw2 : IntKind.i64.wrap (2 : Int) = 2 := by decide
  have ht2 : (2 : Int).toNat = 2 := rfl
  have hw3 : IntKind.i64.wrap (3 : Int) = 3 := by decide
  have ht3 : (3 : Int).toNat = 3 := rfl
  have hb2 : ¬ (c = 1) := by omega
  have hb3 : ¬ (c = 2) := by omega
  have hb4 : ¬ (c = 0) := by omega
  clear hsb hsa hW1 hg' o1
  go_enter Tryz.func128, Tryz.ntmps128
  go_wp2_with (simp only [hov])
  go_region_law (refine step_copy_k rfl _ _ 169 169 rfl _ _ (by simp [Act.eval, Act.put]) (by simp [Act.eval, Act.put]) (hcp1 _ _ _) ?_)
  go_wp2_with (at_builtin; refine wpList_copy_k _ rfl _ _ 169 169 rfl _ _ rfl rfl (hcp2 _ _) ?_)
  go_ret
  exact ⟨rfl, rfl⟩

set_option maxHeartbeats 4000000 in
set_option maxRecDepth 100000 in
/-- There is none: a new row. -/
theorem insm_grow (g o vb ov cv : Nat) (cs ds : Array Value) (Tv : TypeId) (frv : Nat × Nat) (ps xs vs : List Value) (w : World)
    (hg : w.heap[g]? = some (.cells cs 173 (0, 0))) (hpl : ps.length = 14) (hp : ∀ j u, ps[j]? = some u → cs[o + j]? = some u) (hxl : xs.length = 14) (hx : ∀ j u, xs[j]? = some u → cs[o + 14 + j]? = some u)
    (hv : w.heap[vb]? = some (.cells ds Tv frv)) (hvl : vs.length = 14) (hvs : ∀ j u, vs[j]? = some u → ds[ov + j]? = some u) (h1p : ∀ u ∈ ps, u.oneCell' = true) (h1c : ∀ u ∈ xs, u.oneCell' = true) (h1v : ∀ u ∈ vs, u.oneCell' = true) :
    Calls Tryz.prog 128 #[.slice (some ⟨g, o, none⟩) 2 2, .int .i64 1, .slice (some ⟨vb, ov, none⟩) 1 cv] w fun e w' => ∃ (G : Nat) (zs : Array Value), 3 ≤ G ∧ G ≤ 9223372036854775807 ∧ zs.size = G * 14 ∧ (∀ (j : Nat) (u : Value), ps[j]? = some u → zs[j]? = some u) ∧
      e = .returned (.slice (some ⟨w.heap.size, 0, none⟩) 3 G) ∧ w' = ((w.drew.alloc (.cells zs 173)).setCells w.heap.size 14 vs).drew.setCells w.heap.size 28 xs := by
  obtain ⟨i0, hi0, hz0, hzs, hzb⟩ := info_parts insm_info
  have hgl := (Array.getElem?_eq_some_iff.1 hg).1
  have hvlt := (Array.getElem?_eq_some_iff.1 hv).1
  have hold : (Builtin.firstCells i0.size 1 (.slice (some ⟨g, o, none⟩) 1 2)).run Tryz.prog w.drew = .ok ps.toArray w.drew := by
    rw [hzs]
    exact run_firstCells_some w.drew 14 1 ⟨g, o, none⟩ 1 2 ps (by rw [hpl]) (fun j v hj => by rw [Addr.add_lit]; show w.cell? _ = _; simp only [World.cell?, hg]; exact hp j v hj)
  obtain ⟨zz, hzz⟩ : ∃ zz : Value, zz = .agg #[.int .i64 0, .int .i64 0, .bool false, .int .i64 0, .int .i64 0, .slice none 0 0, .slice none 0 0, .int .u32 0, .slice none 0 0, .slice none 0 0, .bool false, .int .u32 0, .slice none 0 0, .slice none 0 0] := ⟨_, rfl⟩
  have hzc : zz.cells.size = 14 := by rw [hzz]; rfl
  rw [← hzz] at hz0
  clear hzz
  obtain ⟨G, hG⟩ : ∃ G, G = grownCap w 3 2 173 := ⟨_, rfl⟩
  have hrz : ∀ ty, (Builtin.append_ #[169, 3] ty #[.slice (some ⟨g, o, none⟩) 1 2, .int .i64 2]).run Tryz.prog w =
      .ok (.slice (some ⟨w.heap.size, 0, none⟩) 3 G) (w.drew.alloc (.cells (ps.toArray ++ Builtin.zeroCells zz.cells 2 ++ Builtin.zeroCells zz.cells (G - 3)) 173)) := fun ty => by
    have h := Lib.run_append_grow_zeros w 169 3 ty 173 i0 _ .i64 .i64 Tryz.underlying169 Tryz.underlying3 hi0 hz0 (some ⟨g, o, none⟩) 1 2 ps hold 2 (by omega) (by omega) (by omega) (by omega) (by rw [hzb]; omega) (by rw [hzb]; exact growslice_fits (by omega) (by omega))
    rw [show 1 + 2 = 3 from rfl, ← hG] at h
    exact h
  have hge : 3 ≤ G := by rw [hG]; exact grownCap_ge w _ _ _
  have hcm : G ≤ maxLen := by rw [hG]; exact grownCap_le_maxLen w _ _ _ (by unfold maxLen; omega)
  have hG63 : G ≤ 9223372036854775807 := by unfold maxLen at hcm; omega
  obtain ⟨zs, hzs'⟩ : ∃ zs, zs = ps.toArray ++ Builtin.zeroCells zz.cells 2 ++ Builtin.zeroCells zz.cells (G - 3) := ⟨_, rfl⟩
  have hzl : zs.size = G * 14 := by
    rw [hzs']
    simp only [Array.size_append, size_zeroCells, hzc, List.size_toArray, hpl]
    have : G * 14 = (1 + 2 + (G - 3)) * 14 := by congr 1; omega
    omega
  have hzp : ∀ (j : Nat) (u : Value), ps[j]? = some u → zs[j]? = some u := fun j u hj => by
    have hlt := (List.getElem?_eq_some_iff.1 hj).1
    rw [hzs', Array.append_assoc, Array.getElem?_append_left (by simpa using hlt)]
    simpa using hj
  rw [← hzs'] at hrz
  clear hzs' hold hG hi0 hz0 hzs hzb
  obtain ⟨W1, hW1⟩ : ∃ W1, W1 = w.drew.alloc (.cells zs 173) := ⟨_, rfl⟩
  refine Calls.mono (R := fun e w' => e = .returned (.slice (some ⟨w.heap.size, 0, none⟩) 3 G) ∧ w' = (W1.setCells w.heap.size 14 vs).drew.setCells w.heap.size 28 xs) ?_ (fun e w' h => ⟨G, zs, hge, hG63, hzl, hzp, h.1, by rw [← hW1]; exact h.2⟩)
  rw [← hW1] at hrz
  have hN1 : W1.heap[w.heap.size]? = some (.cells zs 173 (0, 0)) := by rw [hW1]; exact heap_alloc_new w.drew _
  have oA : Only w W1 [] := by rw [hW1]; exact (Only.drew w []).trans (Only.alloc w.drew _ [])
  clear hW1
  obtain ⟨N, hN⟩ : ∃ N, N = w.heap.size := ⟨_, rfl⟩
  rw [← hN] at hrz hN1 ⊢
  have hcpA : ∀ ty dc, (Builtin.copy_ #[169, 169] ty #[.slice (some ⟨N, 14, none⟩) 2 dc, .slice (some ⟨vb, ov, none⟩) 1 cv]).run Tryz.prog W1 = .ok (goInt (1 : Nat)) (W1.setCells N 14 vs) := fun ty dc =>
    run_copy_k W1 _ _ ty 173 14 N _ _ dc _ _ _ vs 1 Tryz.underlying169 insm_size (by decide) (by omega)
      (fun j u hj => by
        have hb := oA.at hv (by simp)
        rw [Addr.add_lit, cell_in hb]; exact hvs j u hj)
      (fun j hj => by
        rw [cell_in hN1]
        simp
        omega)
      (fun j hj => by simp [World.frozen?, hN1]) h1v
  obtain ⟨W2, hW2⟩ : ∃ W2, W2 = W1.setCells N 14 vs := ⟨_, rfl⟩
  have o2 : Only w W2 [] := by rw [hW2]; exact oA.new (only_setCells _ _ _ : Only W1 _ [N]) (fun k hk => by simp only [List.mem_singleton] at hk; omega)
  have hN2 : W2.heap[N]? = some (.cells (Sx.setR zs 14 vs) 173 (0, 0)) := by rw [hW2]; exact Sx.setCells_heap vs hN1
  have hz2l := Sx.setR_size vs 14 zs
  rw [← hW2] at hcpA ⊢
  clear hW2
  have hcpB : ∀ ty dc sc, (Builtin.copy_ #[169, 169] ty #[.slice (some ⟨N, 28, none⟩) 1 dc, .slice (some ⟨g, o + 14, none⟩) 1 sc]).run Tryz.prog W2.drew = .ok (goInt (1 : Nat)) (W2.drew.setCells N 28 xs) := fun ty dc sc =>
    run_copy_k W2.drew _ _ ty 173 14 N _ _ dc _ _ sc xs 1 Tryz.underlying169 insm_size (by decide) (by omega)
      (fun j u hj => by
        have hb := o2.at hg (by simp)
        rw [Addr.add_lit]
        show W2.cell? _ = _
        rw [cell_in hb]; exact hx j u hj)
      (fun j hj => by
        show (W2.cell? _).isSome = true
        rw [cell_in hN2]
        simp
        omega)
      (fun j hj => by show W2.frozen? _ = _; simp [World.frozen?, hN2]) h1c
  have hw1 : IntKind.i64.wrap (1 : Int) = 1 := by decide
  have ht1 : (1 : Int).toNat = 1 := rfl
  have hw2 : IntKind.i64.wrap (2 : Int) = 2 := by decide
  have ht2 : (2 : Int).toNat = 2 := rfl
  have hw3 : IntKind.i64.wrap (3 : Int) = 3 := by decide
  have ht3 : (3 : Int).toNat = 3 := rfl
  have hGi : ¬ (G = 0) := by omega
  have hGim : ¬ (G = 1) := by omega
  have hGim2 : ¬ (G = 2) := by omega
  clear hg hv hN1 hN2 o2 oA hN hgl hvlt hcm
  go_enter Tryz.func128, Tryz.ntmps128
  go_wp2_with (first
    | (at_builtin; refine wpList_append_run2 rfl _ _ _ _ rfl _ _ rfl rfl (hrz _) ?_)
    | (at_builtin; refine wpList_copy_k _ rfl _ _ 169 169 rfl _ _ rfl rfl (hcpA _ _) ?_))
  go_region_law (refine step_copy_k rfl _ _ 169 169 rfl _ _ (by simp [Act.eval, Act.put]) (by simp [Act.eval, Act.put]) (hcpB _ _ _) ?_)
  go_wp2
  go_ret
  exact ⟨rfl, rfl⟩
end Go.Proofs.YtadbbdnjcpaooaaGreatDoor
