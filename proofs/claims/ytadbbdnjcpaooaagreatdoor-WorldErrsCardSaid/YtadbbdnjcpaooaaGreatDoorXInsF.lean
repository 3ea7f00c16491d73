/- slices.Insert of one session at the front of a row of one: whatever lies ahead of the row in its block. -/
import Derived.Test.YtadbbdnjcpaooaaGreatDoorCpy
import Derived.Test.YtadbbdnjcpaooaaGreatDoorProg
import Derived.Test.YtadbbdnjcpaooaaGreatDoorXSc
set_option linter.all false
namespace Go.Pw
open Go.RowKit
set_option linter.unusedVariables false
set_option linter.unusedSimpArgs false

/-- slices.overlaps: the second block is plain. -/
theorem run_overlaps_apart2 {P : Program} (w : World) (tS tR e : TypeId) (ht : P.underlying tS = some (.slice e)) (size : Nat) (hz : ∀ w, (Go.sizeOf e).run P w = .ok size w)
    (a b : Addr) (la ca lb cb : Nat) (hne : a.block ≠ b.block) (tA tB : TypeId) (kA kB : Nat)
    (hsa : w.shape? a.block = some (tA, kA)) (hsb : w.shape? b.block = some (tB, kB)) (hkA : kA ≠ 0)
    (hfb : w.frozen? b = false) (hfe : w.frozen? { block := b.block, off := kB } = false) :
    (Extern.SlicesOverlaps.overlaps #[tS, tS] #[tR] #[.slice (some a) la ca, .slice (some b) lb cb]).run P w = .ok (.bool false) w := by
  have hnb : (a.block != b.block) = true := by simpa using hne
  have hnb' : (a.block == b.block) = false := by simpa using hne
  change Sem.run P (α := Value) (do
    let some t := (#[tS, tS] : Array TypeId)[0]? | stuck "slices.overlaps: no parameter types"
    let .slice elem ← underlying t | stuck "slices.overlaps: slice type expected"
    let size ← sizeOf elem
    match (some a : Option Addr), (some b : Option Addr) with
    | some a, some b =>
      if la = 0 ∨ lb = 0 ∨ size = 0 then pure (Value.bool false)
      else if a.block != b.block && (← frozen a) && (← frozen b) then unsupported .addressObserved
      else do
        if a.block != b.block then do
          noView a; noView b
          if ← mayBeOne a b then return Value.bool ((← choose (.extern "sameAddr.stringBytes" 2)) == 1)
        pure (Value.bool (a.block == b.block && a.off < b.off + lb * size && b.off < a.off + la * size))
    | _, _ => pure (Value.bool false)) w = _
  by_cases h0 : la = 0 ∨ lb = 0 ∨ size = 0
  · simp [run_underlying ht, hz, h0]
  · cases kA with
    | zero => exact absurd rfl hkA
    | succ kA =>
      cases hfa : w.frozen? a <;> cases hfk : w.frozen? { block := a.block, off := kA + 1 } <;>
      simp [run_underlying ht, hz, h0, hnb, hnb', frozen, noView, viewAt, mayBeOne, stringish, shape, Sem.run, hsa, hsb, hfb, hfe, hfa, hfk]
end Go.Pw
namespace Go.Proofs.YtadbbdnjcpaooaaGreatDoor
open Go.RowKit Go.Pw
set_option linter.unusedVariables false
set_option linter.unusedSimpArgs false

theorem insf_info : (Tryz.prog.info? 151).map (fun i => (i.zero, i.size, i.bytes)) = some (some (.agg #[.slice none 0 0, .slice none 0 0, .slice none 0 0, .slice none 0 0, .slice none 0 0, .int .u32 0, .bool false, .int .u32 0, .bool false, .slice none 0 0, .slice none 0 0, .slice none 0 0, .slice none 0 0, .int .u32 0, .slice none 0 0, .int .u32 0, .int .u32 0, .pointer none]), 18, 296) := by kernel_rfl
theorem insf_size : (Tryz.prog.info? 151).map (·.size) = some 18 := by
  obtain ⟨i0, hi, hz0, hz1, hz2⟩ := info_parts insf_info
  rw [hi]; simp [hz1]

set_option maxHeartbeats 4000000 in
set_option maxRecDepth 100000 in
/-- There is room. -/
theorem insf_shift (g o c vb ov cv : Nat) (cs ds : Array Value) (Tv : TypeId) (frv : Nat × Nat) (xs vs : List Value) (w : World)
    (hg : w.heap[g]? = some (.cells cs 151 (0, 0))) (hcs : cs.size = o + c * 18) (hc : 2 ≤ c) (hc63 : c ≤ 9223372036854775807) (hxl : xs.length = 18) (hx : ∀ j u, xs[j]? = some u → cs[o + j]? = some u)
    (hv : w.heap[vb]? = some (.cells ds Tv frv)) (hvl : vs.length = 18) (hvs : ∀ j u, vs[j]? = some u → ds[ov + j]? = some u) (hne : vb ≠ g) (h1c : ∀ u ∈ xs, u.oneCell' = true) (h1v : ∀ u ∈ vs, u.oneCell' = true) :
    Calls Tryz.prog 233 #[.slice (some ⟨g, o, none⟩) 1 c, .int .i64 0, .slice (some ⟨vb, ov, none⟩) 1 cv] w fun e w' => e = .returned (.slice (some ⟨g, o, none⟩) 2 c) ∧ w' = (w.drew.setCells g (o + 18) xs).setCells g o vs := by
  have hsb : w.shape? g = some (151, cs.size) := by simp [World.shape?, hg]
  have hsa : w.shape? vb = some (Tv, ds.size) := by simp [World.shape?, hv]
  have hds : ds.size ≠ 0 := by
    have h0 : vs[0]? = some vs[0] := List.getElem?_eq_getElem (by omega)
    have := (Array.getElem?_eq_some_iff.1 (hvs 0 _ h0)).1
    omega
  have hov : ∀ lb cb, (callFunc 302 #[.slice (some ⟨vb, ov, none⟩) 1 cv, .slice (some ⟨g, o + 18, none⟩) lb cb]).run Tryz.prog w = .ok (.value (.bool false)) w := fun lb cb => by
    rw [run_callFunc_extern Tryz.func302 (by kernel_rfl) (by kernel_rfl) (by kernel_rfl) (e := Extern.SlicesOverlaps.overlaps #[141, 141] #[4]) (by kernel_rfl),
      run_overlaps_apart2 w 141 4 151 Tryz.underlying141 18 (by intro w; simp [go_sem]) ⟨vb, ov, none⟩ ⟨g, o + 18, none⟩ 1 cv lb cb hne _ _ _ _ hsa hsb hds (by simp [World.frozen?, hg]) (by simp [World.frozen?, hg])]
    rfl
  have hcp1 : ∀ ty dc sc, (Builtin.copy_ #[141, 141] ty #[.slice (some ⟨g, o + 18, none⟩) 1 dc, .slice (some ⟨g, o, none⟩) 2 sc]).run Tryz.prog w.drew = .ok (goInt (1 : Nat)) (w.drew.setCells g (o + 18) xs) := fun ty dc sc =>
    run_copy_k w.drew _ _ ty 151 18 g _ _ dc _ _ sc xs 1 Tryz.underlying141 insf_size (by decide) (by omega)
      (fun j u hj => by
        rw [Addr.add_lit]
        show w.cell? _ = _
        simp only [World.cell?, hg]
        exact hx j u hj)
      (fun j hj => by
        show (w.cell? _).isSome = true
        simp only [World.cell?, hg]
        simp
        omega)
      (fun j hj => by show w.frozen? _ = _; simp [World.frozen?, hg]) h1c
  obtain ⟨W1, hW1⟩ : ∃ W1, W1 = w.drew.setCells g (o + 18) xs := ⟨_, rfl⟩
  have o1 : Only w.drew W1 [g] := by rw [hW1]; exact only_setCells _ _ _
  obtain ⟨cs', hg', hcs'⟩ : ∃ cs' : Array Value, W1.heap[g]? = some (.cells cs' 151 (0, 0)) ∧ cs'.size = cs.size := ⟨_, by rw [hW1]; exact Sx.setCells_heap xs (show w.drew.heap[g]? = _ from hg), Sx.setR_size _ _ _⟩
  have hcp2 : ∀ ty dc, (Builtin.copy_ #[141, 141] ty #[.slice (some ⟨g, o, none⟩) 2 dc, .slice (some ⟨vb, ov, none⟩) 1 cv]).run Tryz.prog W1 = .ok (goInt (1 : Nat)) (W1.setCells g o vs) := fun ty dc =>
    run_copy_k W1 _ _ ty 151 18 g _ _ dc _ _ _ vs 1 Tryz.underlying141 insf_size (by decide) (by omega)
      (fun j u hj => by
        have hb := o1.at (show w.drew.heap[vb]? = _ from hv) (by simpa using hne)
        rw [Addr.add_lit, cell_in hb]
        exact hvs j u hj)
      (fun j hj => by
        rw [cell_in hg']
        simp
        omega)
      (fun j hj => by simp [World.frozen?, hg']) h1v
  rw [← hW1] at hcp1 ⊢
  have hw1 : IntKind.i64.wrap (1 : Int) = 1 := by decide
  have ht1 : (1 : Int).toNat = 1 := rfl
  have hb2 : ¬ (c = 1) := by omega
  have hb4 : ¬ (c = 0) := by omega
  clear hsb hsa hW1 hg' o1
  go_enter Tryz.func233, Tryz.ntmps233
  go_wp2_with (simp only [hov])
  go_region_law (refine step_copy_k rfl _ _ 141 141 rfl _ _ (by simp [Act.eval, Act.put]) (by simp [Act.eval, Act.put]) (hcp1 _ _ _) ?_)
  go_wp2_with (at_builtin; refine wpList_copy_k _ rfl _ _ 141 141 rfl _ _ rfl rfl (hcp2 _ _) ?_)
  go_ret
  exact ⟨rfl, rfl⟩

set_option maxHeartbeats 4000000 in
set_option maxRecDepth 100000 in
/-- There is none: a new row. -/
theorem insf_grow (g o vb ov cv : Nat) (cs ds : Array Value) (Tv : TypeId) (frv : Nat × Nat) (xs vs : List Value) (w : World)
    (hg : w.heap[g]? = some (.cells cs 151 (0, 0))) (hxl : xs.length = 18) (hx : ∀ j u, xs[j]? = some u → cs[o + j]? = some u)
    (hv : w.heap[vb]? = some (.cells ds Tv frv)) (hvl : vs.length = 18) (hvs : ∀ j u, vs[j]? = some u → ds[ov + j]? = some u) (h1c : ∀ u ∈ xs, u.oneCell' = true) (h1v : ∀ u ∈ vs, u.oneCell' = true) :
    Calls Tryz.prog 233 #[.slice (some ⟨g, o, none⟩) 1 1, .int .i64 0, .slice (some ⟨vb, ov, none⟩) 1 cv] w fun e w' => ∃ G zs, 2 ≤ G ∧ G ≤ 9223372036854775807 ∧ zs.size = G * 18 ∧
      e = .returned (.slice (some ⟨w.heap.size, 0, none⟩) 2 G) ∧ w' = ((w.drew.alloc (.cells zs 151)).setCells w.heap.size 0 vs).drew.setCells w.heap.size 18 xs := by
  obtain ⟨i0, hi0, hz0, hzs, hzb⟩ := info_parts insf_info
  have hgl := (Array.getElem?_eq_some_iff.1 hg).1
  have hvlt := (Array.getElem?_eq_some_iff.1 hv).1
  have hold : (Builtin.firstCells i0.size 0 (.slice (some ⟨g, o, none⟩) 0 1)).run Tryz.prog w.drew = .ok (([] : List Value)).toArray w.drew := by
    rw [hzs]
    exact run_firstCells_some w.drew 18 0 ⟨g, o, none⟩ 0 1 [] rfl (fun j v hj => by simp at hj)
  obtain ⟨zz, hzz⟩ : ∃ zz : Value, zz = .agg #[.slice none 0 0, .slice none 0 0, .slice none 0 0, .slice none 0 0, .slice none 0 0, .int .u32 0, .bool false, .int .u32 0, .bool false, .slice none 0 0, .slice none 0 0, .slice none 0 0, .slice none 0 0, .int .u32 0, .slice none 0 0, .int .u32 0, .int .u32 0, .pointer none] := ⟨_, rfl⟩
  have hzc : zz.cells.size = 18 := by rw [hzz]; rfl
  rw [← hzz] at hz0
  clear hzz
  obtain ⟨G, hG⟩ : ∃ G, G = grownCap w 2 1 151 := ⟨_, rfl⟩
  have hrz : ∀ ty, (Builtin.append_ #[141, 3] ty #[.slice (some ⟨g, o, none⟩) 0 1, .int .i64 2]).run Tryz.prog w =
      .ok (.slice (some ⟨w.heap.size, 0, none⟩) 2 G) (w.drew.alloc (.cells (([] : List Value).toArray ++ Builtin.zeroCells zz.cells 2 ++ Builtin.zeroCells zz.cells (G - 2)) 151)) := fun ty => by
    have h := Lib.run_append_grow_zeros w 141 3 ty 151 i0 _ .i64 .i64 Tryz.underlying141 Tryz.underlying3 hi0 hz0 (some ⟨g, o, none⟩) 0 1 ([] : List Value) hold 2 (by omega) (by omega) (by omega) (by omega) (by rw [hzb]; omega) (by rw [hzb]; exact growslice_fits (by omega) (by omega))
    rw [show 0 + 2 = 2 from rfl, ← hG] at h
    exact h
  have hge : 2 ≤ G := by rw [hG]; exact grownCap_ge w _ _ _
  have hcm : G ≤ maxLen := by rw [hG]; exact grownCap_le_maxLen w _ _ _ (by unfold maxLen; omega)
  have hG63 : G ≤ 9223372036854775807 := by unfold maxLen at hcm; omega
  obtain ⟨zs, hzs'⟩ : ∃ zs, zs = ([] : List Value).toArray ++ Builtin.zeroCells zz.cells 2 ++ Builtin.zeroCells zz.cells (G - 2) := ⟨_, rfl⟩
  have hzl : zs.size = G * 18 := by
    rw [hzs']
    simp only [Array.size_append, size_zeroCells, hzc, List.size_toArray, List.length_nil]
    rw [Nat.zero_add, ← Nat.add_mul]
    congr 1
    omega
  rw [← hzs'] at hrz
  clear hzs' hold hG hi0 hz0 hzs hzb
  obtain ⟨W1, hW1⟩ : ∃ W1, W1 = w.drew.alloc (.cells zs 151) := ⟨_, rfl⟩
  refine Calls.mono (R := fun e w' => e = .returned (.slice (some ⟨w.heap.size, 0, none⟩) 2 G) ∧ w' = (W1.setCells w.heap.size 0 vs).drew.setCells w.heap.size 18 xs) ?_ (fun e w' h => ⟨G, zs, hge, hG63, hzl, h.1, by rw [← hW1]; exact h.2⟩)
  rw [← hW1] at hrz
  have hN1 : W1.heap[w.heap.size]? = some (.cells zs 151 (0, 0)) := by rw [hW1]; exact heap_alloc_new w.drew _
  have oA : Only w W1 [] := by rw [hW1]; exact (Only.drew w []).trans (Only.alloc w.drew _ [])
  clear hW1
  obtain ⟨N, hN⟩ : ∃ N, N = w.heap.size := ⟨_, rfl⟩
  rw [← hN] at hrz hN1 ⊢
  have hcpA : ∀ ty dc, (Builtin.copy_ #[141, 141] ty #[.slice (some ⟨N, 0, none⟩) 2 dc, .slice (some ⟨vb, ov, none⟩) 1 cv]).run Tryz.prog W1 = .ok (goInt (1 : Nat)) (W1.setCells N 0 vs) := fun ty dc =>
    run_copy_k W1 _ _ ty 151 18 N _ _ dc _ _ _ vs 1 Tryz.underlying141 insf_size (by decide) (by omega)
      (fun j u hj => by
        have hb := oA.at hv (by simp)
        rw [Addr.add_lit, cell_in hb]; exact hvs j u hj)
      (fun j hj => by
        rw [cell_in hN1]
        simp
        omega)
      (fun j hj => by simp [World.frozen?, hN1]) h1v
  obtain ⟨W2, hW2⟩ : ∃ W2, W2 = W1.setCells N 0 vs := ⟨_, rfl⟩
  have o2 : Only w W2 [] := by rw [hW2]; exact oA.new (only_setCells _ _ _ : Only W1 _ [N]) (fun k hk => by simp only [List.mem_singleton] at hk; omega)
  have hN2 : W2.heap[N]? = some (.cells (Sx.setR zs 0 vs) 151 (0, 0)) := by rw [hW2]; exact Sx.setCells_heap vs hN1
  have hz2l := Sx.setR_size vs 0 zs
  rw [← hW2] at hcpA ⊢
  clear hW2
  have hcpB : ∀ ty dc sc, (Builtin.copy_ #[141, 141] ty #[.slice (some ⟨N, 18, none⟩) 1 dc, .slice (some ⟨g, o, none⟩) 1 sc]).run Tryz.prog W2.drew = .ok (goInt (1 : Nat)) (W2.drew.setCells N 18 xs) := fun ty dc sc =>
    run_copy_k W2.drew _ _ ty 151 18 N _ _ dc _ _ sc xs 1 Tryz.underlying141 insf_size (by decide) (by omega)
      (fun j u hj => by
        have hb := o2.at hg (by simp)
        rw [Addr.add_lit]
        show W2.cell? _ = _
        rw [cell_in hb]; exact hx j u hj)
      (fun j hj => by
        show (W2.cell? _).isSome = true
        rw [cell_in hN2]
        simp
        omega)
      (fun j hj => by show W2.frozen? _ = _; simp [World.frozen?, hN2]) h1c
  have hw1 : IntKind.i64.wrap (1 : Int) = 1 := by decide
  have ht1 : (1 : Int).toNat = 1 := rfl
  have hGi : ¬ (G = 0) := by omega
  have hGim : ¬ (G = 1) := by omega
  clear hg hv hN1 hN2 o2 oA hN hgl hvlt hcm
  go_enter Tryz.func233, Tryz.ntmps233
  go_wp2_with (first
    | (at_builtin; refine wpList_append_run2 rfl _ _ _ _ rfl _ _ rfl rfl (hrz _) ?_)
    | (at_builtin; refine wpList_copy_k _ rfl _ _ 141 141 rfl _ _ rfl rfl (hcpA _ _) ?_))
  go_region_law (refine step_copy_k rfl _ _ 141 141 rfl _ _ (by simp [Act.eval, Act.put]) (by simp [Act.eval, Act.put]) (hcpB _ _ _) ?_)
  go_wp2
  go_ret
  exact ⟨rfl, rfl⟩
end Go.Proofs.YtadbbdnjcpaooaaGreatDoor
