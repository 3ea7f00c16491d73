/- Layer 5's reference: a quarter of a round, on a slice of words. -/
import Derived.Test.YtemmdhfmdgpfmaaCha
import Derived.Test.YtemmdhfmdgpfmaaRegT
namespace Go.Proofs.Ytemmdhfmdgpfmaa
open Go.RowKit Go.Pw
set_option linter.unusedVariables false

/-- Sixteen words at the head of a block. -/
def Wds (g : Nat) (l : List Int) (w : World) : Prop := ∃ cur T, w.heap[g]? = some (.cells cur T (0, 0)) ∧ cur.toList.take 16 = l.map (Value.int .u32) ∧ l.length = 16 ∧ ∀ x ∈ l, W32 x

theorem Wds.cell {g : Nat} {l : List Int} {w : World} (h : Wds g l w) (i : Nat) (hi : i < 16) : w.cell? ⟨g, i, none⟩ = some (.int .u32 (gt l i)) := by
  obtain ⟨cur, T, h1, h2, h3, _⟩ := h
  rw [cell_in h1 i, ← Array.getElem?_toList]
  have : (cur.toList.take 16)[i]? = (l.map (Value.int .u32))[i]? := by rw [h2]
  rw [List.getElem?_take_of_lt hi] at this
  rw [this]
  simp [gt, List.getD_eq_getElem?_getD, List.getElem?_eq_getElem (show i < l.length by omega)]
theorem Wds.free {g : Nat} {l : List Int} {w : World} (h : Wds g l w) (i : Nat) : w.frozen? ⟨g, i, none⟩ = false := by
  obtain ⟨cur, T, h1, _⟩ := h
  exact free_in h1 i
theorem Wds.bd {g : Nat} {l : List Int} {w : World} (h : Wds g l w) (i : Nat) (hi : i < 16) : W32 (gt l i) := by
  obtain ⟨cur, T, h1, h2, h3, h4⟩ := h
  have : gt l i = l[i]'(by omega) := by simp [gt, List.getD_eq_getElem?_getD, List.getElem?_eq_getElem (show i < l.length by omega)]
  rw [this]
  exact h4 _ (List.getElem_mem _)
theorem Wds.set {g : Nat} {l : List Int} {w : World} (h : Wds g l w) (i : Nat) (x : Int) (hx : W32 x) : Wds g (l.set i x) (w.setCell ⟨g, i, none⟩ (.int .u32 x)) := by
  obtain ⟨cur, T, h1, h2, h3, h4⟩ := h
  refine ⟨_, T, set_at h1 _, ?_, by simpa using h3, fun y hy => ?_⟩
  · rw [Array.toList_setIfInBounds, List.take_set, h2, List.map_set]
  · rcases List.mem_or_eq_of_mem_set hy with h | h
    · exact h4 y h
    · rw [h]; exact hx
theorem Wds.only {g : Nat} {l : List Int} {w w' : World} {L : List Nat} (h : Wds g l w) (ho : Only w w' L) (hg : g ∉ L) : Wds g l w' := by
  obtain ⟨cur, T, h1, h2⟩ := h
  exact ⟨cur, T, ho.at h1 hg, h2⟩
theorem Wds.drew {g : Nat} {l : List Int} {w : World} (h : Wds g l w) : Wds g l w.drew := h

theorem only_drewN (w : World) (n : Nat) (L : List Nat) : Only w (w.drewN n) L := ⟨rfl, rfl, rfl, Nat.le_refl _, fun _ _ _ => rfl⟩
theorem left_only (x : Int) (k : Nat) (hk0 : 0 < k) (hk : k < 32) (hx : W32 x) (w : World) :
    Calls Try.prog 40 #[.int .u32 x, .int .i64 k] w fun e w' => e = .returned (.int .u32 (rol x k)) ∧ Only w w' [] :=
  (left_any x k hk0 hk hx w).mono fun e w' ⟨h1, n, h2⟩ => ⟨h1, by rw [h2]; exact only_drewN _ _ _⟩

/-- What has become of the words behind so many steps. -/
def qs (l : List Int) (a b c d : Nat) : Nat → List Int
  | 0 => l
  | 1 => xrl (addAt l a b) d a 16
  | 2 => xrl (addAt (xrl (addAt l a b) d a 16) c d) b c 12
  | 3 => xrl (addAt (xrl (addAt (xrl (addAt l a b) d a 16) c d) b c 12) a b) d a 8
  | _ => qr l a b c d

set_option maxRecDepth 100000 in
set_option maxHeartbeats 3200000 in
theorem quarter_any (g cap : Nat) (l : List Int) (a b c d : Nat) (w : World) (h : Wds g l w) (hcap : 16 ≤ cap) (ha : a < 16) (hb : b < 16) (hc : c < 16) (hd : d < 16) :
    Calls Try.prog 31 #[.slice (some ⟨g, 0, none⟩) 16 cap, .int .i64 a, .int .i64 b, .int .i64 c, .int .i64 d] w fun e w' => e = .returned (.tuple #[]) ∧ Wds g (qr l a b c d) w' ∧ Only w w' [g] := by
  have ka0 : (0 : Int) ≤ a := by omega
  have kb0 : (0 : Int) ≤ b := by omega
  have kc0 : (0 : Int) ≤ c := by omega
  have kd0 : (0 : Int) ≤ d := by omega
  have ka1 : (a : Int) < 16 := by omega
  have kb1 : (b : Int) < 16 := by omega
  have kc1 : (c : Int) < 16 := by omega
  have kd1 : (d : Int) < 16 := by omega
  have hg : g < w.heap.size := by obtain ⟨_, _, h1, _⟩ := h; exact (Array.getElem?_eq_some_iff.1 h1).1
  go_enter Try.func31, Try.ntmps31
  go_wp2_with fail
  obtain ⟨W, X, hW, hX, hbX, hoW, hX1, hX2⟩ := new_block w (.cells #[.int .i64 16, .int .i64 12, .int .i64 8, .int .i64 7] 3)
  rw [← hW, ← hX]
  clear hW hX
  have hgX : X ∉ [g] := by simp; omega
  have hW0 := h.only hoW (by simp)
  clear h
  go_loopw [11] (fun i wr => ∃ j : Nat, i = .int .i64 j ∧ j ≤ 4 ∧ Wds g (qs l a b c d j) wr ∧ Only W wr [g]) (fun i _ => 4 - (intOf i).toNat)
  case atStart => exact ⟨0, rfl, by omega, hW0, Only.refl _ _⟩
  case round =>
    obtain ⟨j, rfl, hj, hq, ho⟩ := hrel
    clear hW0
    have hj' : j = 0 ∨ j = 1 ∨ j = 2 ∨ j = 3 ∨ j = 4 := by omega
    rcases hj' with rfl | rfl | rfl | rfl | rfl
    · rw [show ((0 : Nat) : Int) = 0 from rfl]
      obtain ⟨l0, hl0⟩ : ∃ z, z = qs l a b c d 0 := ⟨_, rfl⟩
      rw [← hl0] at hq
      have Q0 := Lib.hid hl0
      clear hl0
      have hX0 := ho.at hbX hgX
      go_wp2_with fail
      have c1 := hq.drew.cell a ha
      have c2 := hq.drew.cell b hb
      have f1 := hq.drew.free a
      have e1 := (hq.bd a ha).1
      have e2 := (hq.bd a ha).2
      have e3 := (hq.bd b hb).1
      have e4 := (hq.bd b hb).2
      have g0 := hq.drew
      have og := ho.trans (Only.drew _ _)
      go_still_tail 10, (by kernel_rfl)
      change wpList _ _ _ _ _ wr.drew
      generalize wr.drew = w1 at *
      go_wp2_with fail
      have h1 : Wds g (addAt l0 a b) (w1.setCell ⟨g, a, none⟩ (.int .u32 ((gt l0 a + gt l0 b) % 4294967296))) := g0.set a _ (w32_mod _)
      have o1 : Only W (w1.setCell ⟨g, a, none⟩ (.int .u32 ((gt l0 a + gt l0 b) % 4294967296))) [g] := og.trans (Only.setCell _ _ _ _ (by simp))
      clear c1 c2 f1 e1 e2 e3 e4 g0 og hX0 hq ho
      generalize w1.setCell ⟨g, a, none⟩ (.int .u32 ((gt l0 a + gt l0 b) % 4294967296)) = w2 at *
      obtain ⟨l1, hl1⟩ : ∃ z, z = addAt l0 a b := ⟨_, rfl⟩
      rw [← hl1] at h1
      have Q1 := Lib.hid hl1
      clear hl1
      have hX1_ := (o1.at hbX hgX)
      have hxb := xor32_bd (h1.bd d hd) (h1.bd a ha)
      have od : Only W w2.drew [g] := o1.trans (Only.drew _ _)
      refine wp_region_t (S := fun w' => Only w2.drew w' []) 17 (by kernel_rfl) (by kernel_rfl) (Only.refl _ _) (fun hZ hHeld => ?_)
      refine' wpAnyT_take (i := 0) (v := _) hZ (op_at' rfl) (by rfl) (by kernel_rfl) (by kernel_rfl) (by kernel_rfl) (by kernel_rfl) (fun _ _ _ h => h) (Or.inl ⟨by rfl, ?hy1⟩) (by assumption) ?rest1
      case hy1 =>
        intro w' hS
        go_simp
        try with_reducible rfl
      try simp only [Act.put, List.setIfInBounds_toArray, List.set_cons_zero, List.set_cons_succ]
      refine' wpAnyT_take (i := 1) (v := _) hZ (op_at' rfl) (by rfl) (by kernel_rfl) (by kernel_rfl) (by kernel_rfl) (by kernel_rfl) (fun _ _ _ h => h) (Or.inl ⟨by rfl, ?hy2⟩) (by assumption) ?rest2
      case hy2 =>
        intro w' hS
        go_simp
        try with_reducible rfl
      try simp only [Act.put, List.setIfInBounds_toArray, List.set_cons_zero, List.set_cons_succ]
      refine' wpAnyT_take (i := 2) (v := _) hZ (op_at' rfl) (by rfl) (by kernel_rfl) (by kernel_rfl) (by kernel_rfl) (by kernel_rfl) (fun _ _ _ h => h) (Or.inl ⟨by rfl, ?hy3⟩) (by assumption) ?rest3
      case hy3 =>
        intro w' hS
        go_simp
        try with_reducible rfl
      try simp only [Act.put, List.setIfInBounds_toArray, List.set_cons_zero, List.set_cons_succ]
      refine' wpAnyT_take (i := 3) (v := _) hZ (op_at' rfl) (by rfl) (by kernel_rfl) (by kernel_rfl) (by kernel_rfl) (by kernel_rfl) (fun _ _ _ h => h) (Or.inl ⟨by rfl, ?hy4⟩) (by assumption) ?rest4
      case hy4 =>
        intro w' hS
        go_simp
        try with_reducible rfl
      try simp only [Act.put, List.setIfInBounds_toArray, List.set_cons_zero, List.set_cons_succ]
      refine' wpAnyT_take (i := 4) (v := _) hZ (op_at' rfl) (by rfl) (by kernel_rfl) (by kernel_rfl) (by kernel_rfl) (by kernel_rfl) (fun _ _ _ h => h) (Or.inl ⟨by rfl, ?hy5⟩) (by assumption) ?rest5
      case hy5 =>
        intro w' hS
        go_simp
        try with_reducible rfl
      try simp only [Act.put, List.setIfInBounds_toArray, List.set_cons_zero, List.set_cons_succ]
      refine' wpAnyT_take (i := 5) (v := _) hZ (op_at' rfl) (by rfl) (by kernel_rfl) (by kernel_rfl) (by kernel_rfl) (by kernel_rfl) (fun _ _ _ h => h) (Or.inl ⟨by rfl, ?hy6⟩) (by assumption) ?rest6
      case hy6 =>
        intro w' hS
        have q := (h1.drew.only hS (by simp)).cell d hd
        go_simp
        try with_reducible rfl
      try simp only [Act.put, List.setIfInBounds_toArray, List.set_cons_zero, List.set_cons_succ]
      refine' wpAnyT_take (i := 6) (v := _) hZ (op_at' rfl) (by rfl) (by kernel_rfl) (by kernel_rfl) (by kernel_rfl) (by kernel_rfl) (fun _ _ _ h => h) (Or.inl ⟨by rfl, ?hy7⟩) (by assumption) ?rest7
      case hy7 =>
        intro w' hS
        go_simp
        try with_reducible rfl
      try simp only [Act.put, List.setIfInBounds_toArray, List.set_cons_zero, List.set_cons_succ]
      refine' wpAnyT_take (i := 7) (v := _) hZ (op_at' rfl) (by rfl) (by kernel_rfl) (by kernel_rfl) (by kernel_rfl) (by kernel_rfl) (fun _ _ _ h => h) (Or.inl ⟨by rfl, ?hy8⟩) (by assumption) ?rest8
      case hy8 =>
        intro w' hS
        go_simp
        try with_reducible rfl
      try simp only [Act.put, List.setIfInBounds_toArray, List.set_cons_zero, List.set_cons_succ]
      refine' wpAnyT_take (i := 8) (v := _) hZ (op_at' rfl) (by rfl) (by kernel_rfl) (by kernel_rfl) (by kernel_rfl) (by kernel_rfl) (fun _ _ _ h => h) (Or.inl ⟨by rfl, ?hy9⟩) (by assumption) ?rest9
      case hy9 =>
        intro w' hS
        go_simp
        try with_reducible rfl
      try simp only [Act.put, List.setIfInBounds_toArray, List.set_cons_zero, List.set_cons_succ]
      refine' wpAnyT_take (i := 9) (v := _) hZ (op_at' rfl) (by rfl) (by kernel_rfl) (by kernel_rfl) (by kernel_rfl) (by kernel_rfl) (fun _ _ _ h => h) (Or.inl ⟨by rfl, ?hy10⟩) (by assumption) ?rest10
      case hy10 =>
        intro w' hS
        have q := (h1.drew.only hS (by simp)).cell a ha
        go_simp
        try with_reducible rfl
      try simp only [Act.put, List.setIfInBounds_toArray, List.set_cons_zero, List.set_cons_succ]
      refine' wpAnyT_take (i := 10) (v := _) hZ (op_at' rfl) (by rfl) (by kernel_rfl) (by kernel_rfl) (by kernel_rfl) (by kernel_rfl) (fun _ _ _ h => h) (Or.inl ⟨by rfl, ?hy11⟩) (by assumption) ?rest11
      case hy11 =>
        intro w' hS
        go_simp
        try with_reducible rfl
      try simp only [Act.put, List.setIfInBounds_toArray, List.set_cons_zero, List.set_cons_succ]
      refine' wpAnyT_take (i := 11) (v := _) hZ (op_at' rfl) (by rfl) (by kernel_rfl) (by kernel_rfl) (by kernel_rfl) (by kernel_rfl) (fun _ _ _ h => h) (Or.inl ⟨by rfl, ?hy12⟩) (by assumption) ?rest12
      case hy12 =>
        intro w' hS
        go_simp
        try with_reducible rfl
      try simp only [Act.put, List.setIfInBounds_toArray, List.set_cons_zero, List.set_cons_succ]
      refine' wpAnyT_take (i := 12) (v := _) hZ (op_at' rfl) (by rfl) (by kernel_rfl) (by kernel_rfl) (by kernel_rfl) (by kernel_rfl) (fun _ _ _ h => h) (Or.inl ⟨by rfl, ?hy13⟩) (by assumption) ?rest13
      case hy13 =>
        intro w' hS
        go_simp
        try with_reducible rfl
      try simp only [Act.put, List.setIfInBounds_toArray, List.set_cons_zero, List.set_cons_succ]
      refine' wpAnyT_take (i := 13) (v := _) hZ (op_at' rfl) (by rfl) (by kernel_rfl) (by kernel_rfl) (by kernel_rfl) (by kernel_rfl) (fun _ _ _ h => h) (Or.inl ⟨by rfl, ?hy14⟩) (by assumption) ?rest14
      case hy14 =>
        intro w' hS
        go_simp
        try with_reducible rfl
      try simp only [Act.put, List.setIfInBounds_toArray, List.set_cons_zero, List.set_cons_succ]
      refine' wpAnyT_take (i := 14) (v := _) hZ (op_at' rfl) (by rfl) (by kernel_rfl) (by kernel_rfl) (by kernel_rfl) (by kernel_rfl) (fun _ _ _ h => h) (Or.inl ⟨by rfl, ?hy15⟩) (by assumption) ?rest15
      case hy15 =>
        intro w' hS
        have q := cell_in (((Only.drew w2 []).trans hS).at hX1_ (by simp)) 0
        go_simp
        try with_reducible rfl
      try simp only [Act.put, List.setIfInBounds_toArray, List.set_cons_zero, List.set_cons_succ]
      refine wpAnyT_one (i := 15) (by kernel_rfl) (op_at' rfl) (fun K hK => ?_)
      go_simp
      refine (left_only _ 16 (by decide) (by decide) hxb _).mono ?_
      rintro e w3 ⟨rfl, o3⟩
      go_wp2_with fail
      refine hK.out _ _ (hHeld.trans o3) (fun hHeld => ?_)
      clear hK K
      try simp only [Act.put, List.setIfInBounds_toArray, List.set_cons_zero, List.set_cons_succ]
      refine' wpAnyT_take (i := 16) (v := _) hZ (op_at' rfl) (by rfl) (by kernel_rfl) (by kernel_rfl) (by kernel_rfl) (by kernel_rfl) (fun _ _ _ h => h) (Or.inl ⟨by rfl, ?hy16⟩) (by assumption) ?rest16
      case hy16 =>
        intro w' hS
        go_simp
        try with_reducible rfl
      try simp only [Act.put, List.setIfInBounds_toArray, List.set_cons_zero, List.set_cons_succ]
      have h3 := (h1.drew.only hHeld (by simp))
      have f3 := h3.free d
      have c3 := h3.cell d hd
      refine wpAnyT_last (by kernel_rfl) (op_at' rfl) (by kernel_rfl) (fun K hK => ?_)
      go_simp
      go_wp2_with fail
      refine hK.out _ _ ?_
      clear hK K
      try simp only [Act.put, List.setIfInBounds_toArray, List.set_cons_zero, List.set_cons_succ]
      have h4 : Wds g (xrl l1 d a 16) (w3.setCell ⟨g, d, none⟩ (.int .u32 (rol (xor32 (gt l1 d) (gt l1 a)) 16))) := h3.set d _ (rol_bd _ hxb)
      have o4 : Only W (w3.setCell ⟨g, d, none⟩ (.int .u32 (rol (xor32 (gt l1 d) (gt l1 a)) 16))) [g] := (od.trans (hHeld.mono (by simp))).trans (Only.setCell _ _ _ _ (by simp))
      have h5 : qs l a b c d 1 = xrl l1 d a 16 := by rw [Q1.out, Q0.out]; rfl
      rw [← h5] at h4
      clear h5 c3 h3 f3 hHeld o3 h1 o1 hX1_ hxb od
      go_wp2_with fail
      go_roundw
      case rel => exact ⟨1, rfl, by omega, h4, o4⟩
      case measure => simp [intOf]
    · rw [show ((1 : Nat) : Int) = 1 from rfl]
      obtain ⟨l0, hl0⟩ : ∃ z, z = qs l a b c d 1 := ⟨_, rfl⟩
      rw [← hl0] at hq
      have Q0 := Lib.hid hl0
      clear hl0
      have hX0 := ho.at hbX hgX
      go_wp2_with fail
      have c1 := hq.drew.cell c hc
      have c2 := hq.drew.cell d hd
      have f1 := hq.drew.free c
      have e1 := (hq.bd c hc).1
      have e2 := (hq.bd c hc).2
      have e3 := (hq.bd d hd).1
      have e4 := (hq.bd d hd).2
      have g0 := hq.drew
      have og := ho.trans (Only.drew _ _)
      go_still_tail 10, (by kernel_rfl)
      change wpList _ _ _ _ _ wr.drew
      generalize wr.drew = w1 at *
      go_wp2_with fail
      have h1 : Wds g (addAt l0 c d) (w1.setCell ⟨g, c, none⟩ (.int .u32 ((gt l0 c + gt l0 d) % 4294967296))) := g0.set c _ (w32_mod _)
      have o1 : Only W (w1.setCell ⟨g, c, none⟩ (.int .u32 ((gt l0 c + gt l0 d) % 4294967296))) [g] := og.trans (Only.setCell _ _ _ _ (by simp))
      clear c1 c2 f1 e1 e2 e3 e4 g0 og hX0 hq ho
      generalize w1.setCell ⟨g, c, none⟩ (.int .u32 ((gt l0 c + gt l0 d) % 4294967296)) = w2 at *
      obtain ⟨l1, hl1⟩ : ∃ z, z = addAt l0 c d := ⟨_, rfl⟩
      rw [← hl1] at h1
      have Q1 := Lib.hid hl1
      clear hl1
      have hX1_ := (o1.at hbX hgX)
      have hxb := xor32_bd (h1.bd b hb) (h1.bd c hc)
      have od : Only W w2.drew [g] := o1.trans (Only.drew _ _)
      refine wp_region_t (S := fun w' => Only w2.drew w' []) 17 (by kernel_rfl) (by kernel_rfl) (Only.refl _ _) (fun hZ hHeld => ?_)
      refine' wpAnyT_take (i := 0) (v := _) hZ (op_at' rfl) (by rfl) (by kernel_rfl) (by kernel_rfl) (by kernel_rfl) (by kernel_rfl) (fun _ _ _ h => h) (Or.inl ⟨by rfl, ?hy17⟩) (by assumption) ?rest17
      case hy17 =>
        intro w' hS
        go_simp
        try with_reducible rfl
      try simp only [Act.put, List.setIfInBounds_toArray, List.set_cons_zero, List.set_cons_succ]
      refine' wpAnyT_take (i := 1) (v := _) hZ (op_at' rfl) (by rfl) (by kernel_rfl) (by kernel_rfl) (by kernel_rfl) (by kernel_rfl) (fun _ _ _ h => h) (Or.inl ⟨by rfl, ?hy18⟩) (by assumption) ?rest18
      case hy18 =>
        intro w' hS
        go_simp
        try with_reducible rfl
      try simp only [Act.put, List.setIfInBounds_toArray, List.set_cons_zero, List.set_cons_succ]
      refine' wpAnyT_take (i := 2) (v := _) hZ (op_at' rfl) (by rfl) (by kernel_rfl) (by kernel_rfl) (by kernel_rfl) (by kernel_rfl) (fun _ _ _ h => h) (Or.inl ⟨by rfl, ?hy19⟩) (by assumption) ?rest19
      case hy19 =>
        intro w' hS
        go_simp
        try with_reducible rfl
      try simp only [Act.put, List.setIfInBounds_toArray, List.set_cons_zero, List.set_cons_succ]
      refine' wpAnyT_take (i := 3) (v := _) hZ (op_at' rfl) (by rfl) (by kernel_rfl) (by kernel_rfl) (by kernel_rfl) (by kernel_rfl) (fun _ _ _ h => h) (Or.inl ⟨by rfl, ?hy20⟩) (by assumption) ?rest20
      case hy20 =>
        intro w' hS
        go_simp
        try with_reducible rfl
      try simp only [Act.put, List.setIfInBounds_toArray, List.set_cons_zero, List.set_cons_succ]
      refine' wpAnyT_take (i := 4) (v := _) hZ (op_at' rfl) (by rfl) (by kernel_rfl) (by kernel_rfl) (by kernel_rfl) (by kernel_rfl) (fun _ _ _ h => h) (Or.inl ⟨by rfl, ?hy21⟩) (by assumption) ?rest21
      case hy21 =>
        intro w' hS
        go_simp
        try with_reducible rfl
      try simp only [Act.put, List.setIfInBounds_toArray, List.set_cons_zero, List.set_cons_succ]
      refine' wpAnyT_take (i := 5) (v := _) hZ (op_at' rfl) (by rfl) (by kernel_rfl) (by kernel_rfl) (by kernel_rfl) (by kernel_rfl) (fun _ _ _ h => h) (Or.inl ⟨by rfl, ?hy22⟩) (by assumption) ?rest22
      case hy22 =>
        intro w' hS
        have q := (h1.drew.only hS (by simp)).cell b hb
        go_simp
        try with_reducible rfl
      try simp only [Act.put, List.setIfInBounds_toArray, List.set_cons_zero, List.set_cons_succ]
      refine' wpAnyT_take (i := 6) (v := _) hZ (op_at' rfl) (by rfl) (by kernel_rfl) (by kernel_rfl) (by kernel_rfl) (by kernel_rfl) (fun _ _ _ h => h) (Or.inl ⟨by rfl, ?hy23⟩) (by assumption) ?rest23
      case hy23 =>
        intro w' hS
        go_simp
        try with_reducible rfl
      try simp only [Act.put, List.setIfInBounds_toArray, List.set_cons_zero, List.set_cons_succ]
      refine' wpAnyT_take (i := 7) (v := _) hZ (op_at' rfl) (by rfl) (by kernel_rfl) (by kernel_rfl) (by kernel_rfl) (by kernel_rfl) (fun _ _ _ h => h) (Or.inl ⟨by rfl, ?hy24⟩) (by assumption) ?rest24
      case hy24 =>
        intro w' hS
        go_simp
        try with_reducible rfl
      try simp only [Act.put, List.setIfInBounds_toArray, List.set_cons_zero, List.set_cons_succ]
      refine' wpAnyT_take (i := 8) (v := _) hZ (op_at' rfl) (by rfl) (by kernel_rfl) (by kernel_rfl) (by kernel_rfl) (by kernel_rfl) (fun _ _ _ h => h) (Or.inl ⟨by rfl, ?hy25⟩) (by assumption) ?rest25
      case hy25 =>
        intro w' hS
        go_simp
        try with_reducible rfl
      try simp only [Act.put, List.setIfInBounds_toArray, List.set_cons_zero, List.set_cons_succ]
      refine' wpAnyT_take (i := 9) (v := _) hZ (op_at' rfl) (by rfl) (by kernel_rfl) (by kernel_rfl) (by kernel_rfl) (by kernel_rfl) (fun _ _ _ h => h) (Or.inl ⟨by rfl, ?hy26⟩) (by assumption) ?rest26
      case hy26 =>
        intro w' hS
        have q := (h1.drew.only hS (by simp)).cell c hc
        go_simp
        try with_reducible rfl
      try simp only [Act.put, List.setIfInBounds_toArray, List.set_cons_zero, List.set_cons_succ]
      refine' wpAnyT_take (i := 10) (v := _) hZ (op_at' rfl) (by rfl) (by kernel_rfl) (by kernel_rfl) (by kernel_rfl) (by kernel_rfl) (fun _ _ _ h => h) (Or.inl ⟨by rfl, ?hy27⟩) (by assumption) ?rest27
      case hy27 =>
        intro w' hS
        go_simp
        try with_reducible rfl
      try simp only [Act.put, List.setIfInBounds_toArray, List.set_cons_zero, List.set_cons_succ]
      refine' wpAnyT_take (i := 11) (v := _) hZ (op_at' rfl) (by rfl) (by kernel_rfl) (by kernel_rfl) (by kernel_rfl) (by kernel_rfl) (fun _ _ _ h => h) (Or.inl ⟨by rfl, ?hy28⟩) (by assumption) ?rest28
      case hy28 =>
        intro w' hS
        go_simp
        try with_reducible rfl
      try simp only [Act.put, List.setIfInBounds_toArray, List.set_cons_zero, List.set_cons_succ]
      refine' wpAnyT_take (i := 12) (v := _) hZ (op_at' rfl) (by rfl) (by kernel_rfl) (by kernel_rfl) (by kernel_rfl) (by kernel_rfl) (fun _ _ _ h => h) (Or.inl ⟨by rfl, ?hy29⟩) (by assumption) ?rest29
      case hy29 =>
        intro w' hS
        go_simp
        try with_reducible rfl
      try simp only [Act.put, List.setIfInBounds_toArray, List.set_cons_zero, List.set_cons_succ]
      refine' wpAnyT_take (i := 13) (v := _) hZ (op_at' rfl) (by rfl) (by kernel_rfl) (by kernel_rfl) (by kernel_rfl) (by kernel_rfl) (fun _ _ _ h => h) (Or.inl ⟨by rfl, ?hy30⟩) (by assumption) ?rest30
      case hy30 =>
        intro w' hS
        go_simp
        try with_reducible rfl
      try simp only [Act.put, List.setIfInBounds_toArray, List.set_cons_zero, List.set_cons_succ]
      refine' wpAnyT_take (i := 14) (v := _) hZ (op_at' rfl) (by rfl) (by kernel_rfl) (by kernel_rfl) (by kernel_rfl) (by kernel_rfl) (fun _ _ _ h => h) (Or.inl ⟨by rfl, ?hy31⟩) (by assumption) ?rest31
      case hy31 =>
        intro w' hS
        have q := cell_in (((Only.drew w2 []).trans hS).at hX1_ (by simp)) 1
        go_simp
        try with_reducible rfl
      try simp only [Act.put, List.setIfInBounds_toArray, List.set_cons_zero, List.set_cons_succ]
      refine wpAnyT_one (i := 15) (by kernel_rfl) (op_at' rfl) (fun K hK => ?_)
      go_simp
      refine (left_only _ 12 (by decide) (by decide) hxb _).mono ?_
      rintro e w3 ⟨rfl, o3⟩
      go_wp2_with fail
      refine hK.out _ _ (hHeld.trans o3) (fun hHeld => ?_)
      clear hK K
      try simp only [Act.put, List.setIfInBounds_toArray, List.set_cons_zero, List.set_cons_succ]
      refine' wpAnyT_take (i := 16) (v := _) hZ (op_at' rfl) (by rfl) (by kernel_rfl) (by kernel_rfl) (by kernel_rfl) (by kernel_rfl) (fun _ _ _ h => h) (Or.inl ⟨by rfl, ?hy32⟩) (by assumption) ?rest32
      case hy32 =>
        intro w' hS
        go_simp
        try with_reducible rfl
      try simp only [Act.put, List.setIfInBounds_toArray, List.set_cons_zero, List.set_cons_succ]
      have h3 := (h1.drew.only hHeld (by simp))
      have f3 := h3.free b
      have c3 := h3.cell b hb
      refine wpAnyT_last (by kernel_rfl) (op_at' rfl) (by kernel_rfl) (fun K hK => ?_)
      go_simp
      go_wp2_with fail
      refine hK.out _ _ ?_
      clear hK K
      try simp only [Act.put, List.setIfInBounds_toArray, List.set_cons_zero, List.set_cons_succ]
      have h4 : Wds g (xrl l1 b c 12) (w3.setCell ⟨g, b, none⟩ (.int .u32 (rol (xor32 (gt l1 b) (gt l1 c)) 12))) := h3.set b _ (rol_bd _ hxb)
      have o4 : Only W (w3.setCell ⟨g, b, none⟩ (.int .u32 (rol (xor32 (gt l1 b) (gt l1 c)) 12))) [g] := (od.trans (hHeld.mono (by simp))).trans (Only.setCell _ _ _ _ (by simp))
      have h5 : qs l a b c d 2 = xrl l1 b c 12 := by rw [Q1.out, Q0.out]; rfl
      rw [← h5] at h4
      clear h5 c3 h3 f3 hHeld o3 h1 o1 hX1_ hxb od
      go_wp2_with fail
      go_roundw
      case rel => exact ⟨2, rfl, by omega, h4, o4⟩
      case measure => simp [intOf]
    · rw [show ((2 : Nat) : Int) = 2 from rfl]
      obtain ⟨l0, hl0⟩ : ∃ z, z = qs l a b c d 2 := ⟨_, rfl⟩
      rw [← hl0] at hq
      have Q0 := Lib.hid hl0
      clear hl0
      have hX0 := ho.at hbX hgX
      go_wp2_with fail
      have c1 := hq.drew.cell a ha
      have c2 := hq.drew.cell b hb
      have f1 := hq.drew.free a
      have e1 := (hq.bd a ha).1
      have e2 := (hq.bd a ha).2
      have e3 := (hq.bd b hb).1
      have e4 := (hq.bd b hb).2
      have g0 := hq.drew
      have og := ho.trans (Only.drew _ _)
      go_still_tail 10, (by kernel_rfl)
      change wpList _ _ _ _ _ wr.drew
      generalize wr.drew = w1 at *
      go_wp2_with fail
      have h1 : Wds g (addAt l0 a b) (w1.setCell ⟨g, a, none⟩ (.int .u32 ((gt l0 a + gt l0 b) % 4294967296))) := g0.set a _ (w32_mod _)
      have o1 : Only W (w1.setCell ⟨g, a, none⟩ (.int .u32 ((gt l0 a + gt l0 b) % 4294967296))) [g] := og.trans (Only.setCell _ _ _ _ (by simp))
      clear c1 c2 f1 e1 e2 e3 e4 g0 og hX0 hq ho
      generalize w1.setCell ⟨g, a, none⟩ (.int .u32 ((gt l0 a + gt l0 b) % 4294967296)) = w2 at *
      obtain ⟨l1, hl1⟩ : ∃ z, z = addAt l0 a b := ⟨_, rfl⟩
      rw [← hl1] at h1
      have Q1 := Lib.hid hl1
      clear hl1
      have hX1_ := (o1.at hbX hgX)
      have hxb := xor32_bd (h1.bd d hd) (h1.bd a ha)
      have od : Only W w2.drew [g] := o1.trans (Only.drew _ _)
      refine wp_region_t (S := fun w' => Only w2.drew w' []) 17 (by kernel_rfl) (by kernel_rfl) (Only.refl _ _) (fun hZ hHeld => ?_)
      refine' wpAnyT_take (i := 0) (v := _) hZ (op_at' rfl) (by rfl) (by kernel_rfl) (by kernel_rfl) (by kernel_rfl) (by kernel_rfl) (fun _ _ _ h => h) (Or.inl ⟨by rfl, ?hy33⟩) (by assumption) ?rest33
      case hy33 =>
        intro w' hS
        go_simp
        try with_reducible rfl
      try simp only [Act.put, List.setIfInBounds_toArray, List.set_cons_zero, List.set_cons_succ]
      refine' wpAnyT_take (i := 1) (v := _) hZ (op_at' rfl) (by rfl) (by kernel_rfl) (by kernel_rfl) (by kernel_rfl) (by kernel_rfl) (fun _ _ _ h => h) (Or.inl ⟨by rfl, ?hy34⟩) (by assumption) ?rest34
      case hy34 =>
        intro w' hS
        go_simp
        try with_reducible rfl
      try simp only [Act.put, List.setIfInBounds_toArray, List.set_cons_zero, List.set_cons_succ]
      refine' wpAnyT_take (i := 2) (v := _) hZ (op_at' rfl) (by rfl) (by kernel_rfl) (by kernel_rfl) (by kernel_rfl) (by kernel_rfl) (fun _ _ _ h => h) (Or.inl ⟨by rfl, ?hy35⟩) (by assumption) ?rest35
      case hy35 =>
        intro w' hS
        go_simp
        try with_reducible rfl
      try simp only [Act.put, List.setIfInBounds_toArray, List.set_cons_zero, List.set_cons_succ]
      refine' wpAnyT_take (i := 3) (v := _) hZ (op_at' rfl) (by rfl) (by kernel_rfl) (by kernel_rfl) (by kernel_rfl) (by kernel_rfl) (fun _ _ _ h => h) (Or.inl ⟨by rfl, ?hy36⟩) (by assumption) ?rest36
      case hy36 =>
        intro w' hS
        go_simp
        try with_reducible rfl
      try simp only [Act.put, List.setIfInBounds_toArray, List.set_cons_zero, List.set_cons_succ]
      refine' wpAnyT_take (i := 4) (v := _) hZ (op_at' rfl) (by rfl) (by kernel_rfl) (by kernel_rfl) (by kernel_rfl) (by kernel_rfl) (fun _ _ _ h => h) (Or.inl ⟨by rfl, ?hy37⟩) (by assumption) ?rest37
      case hy37 =>
        intro w' hS
        go_simp
        try with_reducible rfl
      try simp only [Act.put, List.setIfInBounds_toArray, List.set_cons_zero, List.set_cons_succ]
      refine' wpAnyT_take (i := 5) (v := _) hZ (op_at' rfl) (by rfl) (by kernel_rfl) (by kernel_rfl) (by kernel_rfl) (by kernel_rfl) (fun _ _ _ h => h) (Or.inl ⟨by rfl, ?hy38⟩) (by assumption) ?rest38
      case hy38 =>
        intro w' hS
        have q := (h1.drew.only hS (by simp)).cell d hd
        go_simp
        try with_reducible rfl
      try simp only [Act.put, List.setIfInBounds_toArray, List.set_cons_zero, List.set_cons_succ]
      refine' wpAnyT_take (i := 6) (v := _) hZ (op_at' rfl) (by rfl) (by kernel_rfl) (by kernel_rfl) (by kernel_rfl) (by kernel_rfl) (fun _ _ _ h => h) (Or.inl ⟨by rfl, ?hy39⟩) (by assumption) ?rest39
      case hy39 =>
        intro w' hS
        go_simp
        try with_reducible rfl
      try simp only [Act.put, List.setIfInBounds_toArray, List.set_cons_zero, List.set_cons_succ]
      refine' wpAnyT_take (i := 7) (v := _) hZ (op_at' rfl) (by rfl) (by kernel_rfl) (by kernel_rfl) (by kernel_rfl) (by kernel_rfl) (fun _ _ _ h => h) (Or.inl ⟨by rfl, ?hy40⟩) (by assumption) ?rest40
      case hy40 =>
        intro w' hS
        go_simp
        try with_reducible rfl
      try simp only [Act.put, List.setIfInBounds_toArray, List.set_cons_zero, List.set_cons_succ]
      refine' wpAnyT_take (i := 8) (v := _) hZ (op_at' rfl) (by rfl) (by kernel_rfl) (by kernel_rfl) (by kernel_rfl) (by kernel_rfl) (fun _ _ _ h => h) (Or.inl ⟨by rfl, ?hy41⟩) (by assumption) ?rest41
      case hy41 =>
        intro w' hS
        go_simp
        try with_reducible rfl
      try simp only [Act.put, List.setIfInBounds_toArray, List.set_cons_zero, List.set_cons_succ]
      refine' wpAnyT_take (i := 9) (v := _) hZ (op_at' rfl) (by rfl) (by kernel_rfl) (by kernel_rfl) (by kernel_rfl) (by kernel_rfl) (fun _ _ _ h => h) (Or.inl ⟨by rfl, ?hy42⟩) (by assumption) ?rest42
      case hy42 =>
        intro w' hS
        have q := (h1.drew.only hS (by simp)).cell a ha
        go_simp
        try with_reducible rfl
      try simp only [Act.put, List.setIfInBounds_toArray, List.set_cons_zero, List.set_cons_succ]
      refine' wpAnyT_take (i := 10) (v := _) hZ (op_at' rfl) (by rfl) (by kernel_rfl) (by kernel_rfl) (by kernel_rfl) (by kernel_rfl) (fun _ _ _ h => h) (Or.inl ⟨by rfl, ?hy43⟩) (by assumption) ?rest43
      case hy43 =>
        intro w' hS
        go_simp
        try with_reducible rfl
      try simp only [Act.put, List.setIfInBounds_toArray, List.set_cons_zero, List.set_cons_succ]
      refine' wpAnyT_take (i := 11) (v := _) hZ (op_at' rfl) (by rfl) (by kernel_rfl) (by kernel_rfl) (by kernel_rfl) (by kernel_rfl) (fun _ _ _ h => h) (Or.inl ⟨by rfl, ?hy44⟩) (by assumption) ?rest44
      case hy44 =>
        intro w' hS
        go_simp
        try with_reducible rfl
      try simp only [Act.put, List.setIfInBounds_toArray, List.set_cons_zero, List.set_cons_succ]
      refine' wpAnyT_take (i := 12) (v := _) hZ (op_at' rfl) (by rfl) (by kernel_rfl) (by kernel_rfl) (by kernel_rfl) (by kernel_rfl) (fun _ _ _ h => h) (Or.inl ⟨by rfl, ?hy45⟩) (by assumption) ?rest45
      case hy45 =>
        intro w' hS
        go_simp
        try with_reducible rfl
      try simp only [Act.put, List.setIfInBounds_toArray, List.set_cons_zero, List.set_cons_succ]
      refine' wpAnyT_take (i := 13) (v := _) hZ (op_at' rfl) (by rfl) (by kernel_rfl) (by kernel_rfl) (by kernel_rfl) (by kernel_rfl) (fun _ _ _ h => h) (Or.inl ⟨by rfl, ?hy46⟩) (by assumption) ?rest46
      case hy46 =>
        intro w' hS
        go_simp
        try with_reducible rfl
      try simp only [Act.put, List.setIfInBounds_toArray, List.set_cons_zero, List.set_cons_succ]
      refine' wpAnyT_take (i := 14) (v := _) hZ (op_at' rfl) (by rfl) (by kernel_rfl) (by kernel_rfl) (by kernel_rfl) (by kernel_rfl) (fun _ _ _ h => h) (Or.inl ⟨by rfl, ?hy47⟩) (by assumption) ?rest47
      case hy47 =>
        intro w' hS
        have q := cell_in (((Only.drew w2 []).trans hS).at hX1_ (by simp)) 2
        go_simp
        try with_reducible rfl
      try simp only [Act.put, List.setIfInBounds_toArray, List.set_cons_zero, List.set_cons_succ]
      refine wpAnyT_one (i := 15) (by kernel_rfl) (op_at' rfl) (fun K hK => ?_)
      go_simp
      refine (left_only _ 8 (by decide) (by decide) hxb _).mono ?_
      rintro e w3 ⟨rfl, o3⟩
      go_wp2_with fail
      refine hK.out _ _ (hHeld.trans o3) (fun hHeld => ?_)
      clear hK K
      try simp only [Act.put, List.setIfInBounds_toArray, List.set_cons_zero, List.set_cons_succ]
      refine' wpAnyT_take (i := 16) (v := _) hZ (op_at' rfl) (by rfl) (by kernel_rfl) (by kernel_rfl) (by kernel_rfl) (by kernel_rfl) (fun _ _ _ h => h) (Or.inl ⟨by rfl, ?hy48⟩) (by assumption) ?rest48
      case hy48 =>
        intro w' hS
        go_simp
        try with_reducible rfl
      try simp only [Act.put, List.setIfInBounds_toArray, List.set_cons_zero, List.set_cons_succ]
      have h3 := (h1.drew.only hHeld (by simp))
      have f3 := h3.free d
      have c3 := h3.cell d hd
      refine wpAnyT_last (by kernel_rfl) (op_at' rfl) (by kernel_rfl) (fun K hK => ?_)
      go_simp
      go_wp2_with fail
      refine hK.out _ _ ?_
      clear hK K
      try simp only [Act.put, List.setIfInBounds_toArray, List.set_cons_zero, List.set_cons_succ]
      have h4 : Wds g (xrl l1 d a 8) (w3.setCell ⟨g, d, none⟩ (.int .u32 (rol (xor32 (gt l1 d) (gt l1 a)) 8))) := h3.set d _ (rol_bd _ hxb)
      have o4 : Only W (w3.setCell ⟨g, d, none⟩ (.int .u32 (rol (xor32 (gt l1 d) (gt l1 a)) 8))) [g] := (od.trans (hHeld.mono (by simp))).trans (Only.setCell _ _ _ _ (by simp))
      have h5 : qs l a b c d 3 = xrl l1 d a 8 := by rw [Q1.out, Q0.out]; rfl
      rw [← h5] at h4
      clear h5 c3 h3 f3 hHeld o3 h1 o1 hX1_ hxb od
      go_wp2_with fail
      go_roundw
      case rel => exact ⟨3, rfl, by omega, h4, o4⟩
      case measure => simp [intOf]
    · rw [show ((3 : Nat) : Int) = 3 from rfl]
      obtain ⟨l0, hl0⟩ : ∃ z, z = qs l a b c d 3 := ⟨_, rfl⟩
      rw [← hl0] at hq
      have Q0 := Lib.hid hl0
      clear hl0
      have hX0 := ho.at hbX hgX
      go_wp2_with fail
      have c1 := hq.drew.cell c hc
      have c2 := hq.drew.cell d hd
      have f1 := hq.drew.free c
      have e1 := (hq.bd c hc).1
      have e2 := (hq.bd c hc).2
      have e3 := (hq.bd d hd).1
      have e4 := (hq.bd d hd).2
      have g0 := hq.drew
      have og := ho.trans (Only.drew _ _)
      go_still_tail 10, (by kernel_rfl)
      change wpList _ _ _ _ _ wr.drew
      generalize wr.drew = w1 at *
      go_wp2_with fail
      have h1 : Wds g (addAt l0 c d) (w1.setCell ⟨g, c, none⟩ (.int .u32 ((gt l0 c + gt l0 d) % 4294967296))) := g0.set c _ (w32_mod _)
      have o1 : Only W (w1.setCell ⟨g, c, none⟩ (.int .u32 ((gt l0 c + gt l0 d) % 4294967296))) [g] := og.trans (Only.setCell _ _ _ _ (by simp))
      clear c1 c2 f1 e1 e2 e3 e4 g0 og hX0 hq ho
      generalize w1.setCell ⟨g, c, none⟩ (.int .u32 ((gt l0 c + gt l0 d) % 4294967296)) = w2 at *
      obtain ⟨l1, hl1⟩ : ∃ z, z = addAt l0 c d := ⟨_, rfl⟩
      rw [← hl1] at h1
      have Q1 := Lib.hid hl1
      clear hl1
      have hX1_ := (o1.at hbX hgX)
      have hxb := xor32_bd (h1.bd b hb) (h1.bd c hc)
      have od : Only W w2.drew [g] := o1.trans (Only.drew _ _)
      refine wp_region_t (S := fun w' => Only w2.drew w' []) 17 (by kernel_rfl) (by kernel_rfl) (Only.refl _ _) (fun hZ hHeld => ?_)
      refine' wpAnyT_take (i := 0) (v := _) hZ (op_at' rfl) (by rfl) (by kernel_rfl) (by kernel_rfl) (by kernel_rfl) (by kernel_rfl) (fun _ _ _ h => h) (Or.inl ⟨by rfl, ?hy49⟩) (by assumption) ?rest49
      case hy49 =>
        intro w' hS
        go_simp
        try with_reducible rfl
      try simp only [Act.put, List.setIfInBounds_toArray, List.set_cons_zero, List.set_cons_succ]
      refine' wpAnyT_take (i := 1) (v := _) hZ (op_at' rfl) (by rfl) (by kernel_rfl) (by kernel_rfl) (by kernel_rfl) (by kernel_rfl) (fun _ _ _ h => h) (Or.inl ⟨by rfl, ?hy50⟩) (by assumption) ?rest50
      case hy50 =>
        intro w' hS
        go_simp
        try with_reducible rfl
      try simp only [Act.put, List.setIfInBounds_toArray, List.set_cons_zero, List.set_cons_succ]
      refine' wpAnyT_take (i := 2) (v := _) hZ (op_at' rfl) (by rfl) (by kernel_rfl) (by kernel_rfl) (by kernel_rfl) (by kernel_rfl) (fun _ _ _ h => h) (Or.inl ⟨by rfl, ?hy51⟩) (by assumption) ?rest51
      case hy51 =>
        intro w' hS
        go_simp
        try with_reducible rfl
      try simp only [Act.put, List.setIfInBounds_toArray, List.set_cons_zero, List.set_cons_succ]
      refine' wpAnyT_take (i := 3) (v := _) hZ (op_at' rfl) (by rfl) (by kernel_rfl) (by kernel_rfl) (by kernel_rfl) (by kernel_rfl) (fun _ _ _ h => h) (Or.inl ⟨by rfl, ?hy52⟩) (by assumption) ?rest52
      case hy52 =>
        intro w' hS
        go_simp
        try with_reducible rfl
      try simp only [Act.put, List.setIfInBounds_toArray, List.set_cons_zero, List.set_cons_succ]
      refine' wpAnyT_take (i := 4) (v := _) hZ (op_at' rfl) (by rfl) (by kernel_rfl) (by kernel_rfl) (by kernel_rfl) (by kernel_rfl) (fun _ _ _ h => h) (Or.inl ⟨by rfl, ?hy53⟩) (by assumption) ?rest53
      case hy53 =>
        intro w' hS
        go_simp
        try with_reducible rfl
      try simp only [Act.put, List.setIfInBounds_toArray, List.set_cons_zero, List.set_cons_succ]
      refine' wpAnyT_take (i := 5) (v := _) hZ (op_at' rfl) (by rfl) (by kernel_rfl) (by kernel_rfl) (by kernel_rfl) (by kernel_rfl) (fun _ _ _ h => h) (Or.inl ⟨by rfl, ?hy54⟩) (by assumption) ?rest54
      case hy54 =>
        intro w' hS
        have q := (h1.drew.only hS (by simp)).cell b hb
        go_simp
        try with_reducible rfl
      try simp only [Act.put, List.setIfInBounds_toArray, List.set_cons_zero, List.set_cons_succ]
      refine' wpAnyT_take (i := 6) (v := _) hZ (op_at' rfl) (by rfl) (by kernel_rfl) (by kernel_rfl) (by kernel_rfl) (by kernel_rfl) (fun _ _ _ h => h) (Or.inl ⟨by rfl, ?hy55⟩) (by assumption) ?rest55
      case hy55 =>
        intro w' hS
        go_simp
        try with_reducible rfl
      try simp only [Act.put, List.setIfInBounds_toArray, List.set_cons_zero, List.set_cons_succ]
      refine' wpAnyT_take (i := 7) (v := _) hZ (op_at' rfl) (by rfl) (by kernel_rfl) (by kernel_rfl) (by kernel_rfl) (by kernel_rfl) (fun _ _ _ h => h) (Or.inl ⟨by rfl, ?hy56⟩) (by assumption) ?rest56
      case hy56 =>
        intro w' hS
        go_simp
        try with_reducible rfl
      try simp only [Act.put, List.setIfInBounds_toArray, List.set_cons_zero, List.set_cons_succ]
      refine' wpAnyT_take (i := 8) (v := _) hZ (op_at' rfl) (by rfl) (by kernel_rfl) (by kernel_rfl) (by kernel_rfl) (by kernel_rfl) (fun _ _ _ h => h) (Or.inl ⟨by rfl, ?hy57⟩) (by assumption) ?rest57
      case hy57 =>
        intro w' hS
        go_simp
        try with_reducible rfl
      try simp only [Act.put, List.setIfInBounds_toArray, List.set_cons_zero, List.set_cons_succ]
      refine' wpAnyT_take (i := 9) (v := _) hZ (op_at' rfl) (by rfl) (by kernel_rfl) (by kernel_rfl) (by kernel_rfl) (by kernel_rfl) (fun _ _ _ h => h) (Or.inl ⟨by rfl, ?hy58⟩) (by assumption) ?rest58
      case hy58 =>
        intro w' hS
        have q := (h1.drew.only hS (by simp)).cell c hc
        go_simp
        try with_reducible rfl
      try simp only [Act.put, List.setIfInBounds_toArray, List.set_cons_zero, List.set_cons_succ]
      refine' wpAnyT_take (i := 10) (v := _) hZ (op_at' rfl) (by rfl) (by kernel_rfl) (by kernel_rfl) (by kernel_rfl) (by kernel_rfl) (fun _ _ _ h => h) (Or.inl ⟨by rfl, ?hy59⟩) (by assumption) ?rest59
      case hy59 =>
        intro w' hS
        go_simp
        try with_reducible rfl
      try simp only [Act.put, List.setIfInBounds_toArray, List.set_cons_zero, List.set_cons_succ]
      refine' wpAnyT_take (i := 11) (v := _) hZ (op_at' rfl) (by rfl) (by kernel_rfl) (by kernel_rfl) (by kernel_rfl) (by kernel_rfl) (fun _ _ _ h => h) (Or.inl ⟨by rfl, ?hy60⟩) (by assumption) ?rest60
      case hy60 =>
        intro w' hS
        go_simp
        try with_reducible rfl
      try simp only [Act.put, List.setIfInBounds_toArray, List.set_cons_zero, List.set_cons_succ]
      refine' wpAnyT_take (i := 12) (v := _) hZ (op_at' rfl) (by rfl) (by kernel_rfl) (by kernel_rfl) (by kernel_rfl) (by kernel_rfl) (fun _ _ _ h => h) (Or.inl ⟨by rfl, ?hy61⟩) (by assumption) ?rest61
      case hy61 =>
        intro w' hS
        go_simp
        try with_reducible rfl
      try simp only [Act.put, List.setIfInBounds_toArray, List.set_cons_zero, List.set_cons_succ]
      refine' wpAnyT_take (i := 13) (v := _) hZ (op_at' rfl) (by rfl) (by kernel_rfl) (by kernel_rfl) (by kernel_rfl) (by kernel_rfl) (fun _ _ _ h => h) (Or.inl ⟨by rfl, ?hy62⟩) (by assumption) ?rest62
      case hy62 =>
        intro w' hS
        go_simp
        try with_reducible rfl
      try simp only [Act.put, List.setIfInBounds_toArray, List.set_cons_zero, List.set_cons_succ]
      refine' wpAnyT_take (i := 14) (v := _) hZ (op_at' rfl) (by rfl) (by kernel_rfl) (by kernel_rfl) (by kernel_rfl) (by kernel_rfl) (fun _ _ _ h => h) (Or.inl ⟨by rfl, ?hy63⟩) (by assumption) ?rest63
      case hy63 =>
        intro w' hS
        have q := cell_in (((Only.drew w2 []).trans hS).at hX1_ (by simp)) 3
        go_simp
        try with_reducible rfl
      try simp only [Act.put, List.setIfInBounds_toArray, List.set_cons_zero, List.set_cons_succ]
      refine wpAnyT_one (i := 15) (by kernel_rfl) (op_at' rfl) (fun K hK => ?_)
      go_simp
      refine (left_only _ 7 (by decide) (by decide) hxb _).mono ?_
      rintro e w3 ⟨rfl, o3⟩
      go_wp2_with fail
      refine hK.out _ _ (hHeld.trans o3) (fun hHeld => ?_)
      clear hK K
      try simp only [Act.put, List.setIfInBounds_toArray, List.set_cons_zero, List.set_cons_succ]
      refine' wpAnyT_take (i := 16) (v := _) hZ (op_at' rfl) (by rfl) (by kernel_rfl) (by kernel_rfl) (by kernel_rfl) (by kernel_rfl) (fun _ _ _ h => h) (Or.inl ⟨by rfl, ?hy64⟩) (by assumption) ?rest64
      case hy64 =>
        intro w' hS
        go_simp
        try with_reducible rfl
      try simp only [Act.put, List.setIfInBounds_toArray, List.set_cons_zero, List.set_cons_succ]
      have h3 := (h1.drew.only hHeld (by simp))
      have f3 := h3.free b
      have c3 := h3.cell b hb
      refine wpAnyT_last (by kernel_rfl) (op_at' rfl) (by kernel_rfl) (fun K hK => ?_)
      go_simp
      go_wp2_with fail
      refine hK.out _ _ ?_
      clear hK K
      try simp only [Act.put, List.setIfInBounds_toArray, List.set_cons_zero, List.set_cons_succ]
      have h4 : Wds g (xrl l1 b c 7) (w3.setCell ⟨g, b, none⟩ (.int .u32 (rol (xor32 (gt l1 b) (gt l1 c)) 7))) := h3.set b _ (rol_bd _ hxb)
      have o4 : Only W (w3.setCell ⟨g, b, none⟩ (.int .u32 (rol (xor32 (gt l1 b) (gt l1 c)) 7))) [g] := (od.trans (hHeld.mono (by simp))).trans (Only.setCell _ _ _ _ (by simp))
      have h5 : qs l a b c d 4 = xrl l1 b c 7 := by rw [Q1.out, Q0.out]; rfl
      rw [← h5] at h4
      clear h5 c3 h3 f3 hHeld o3 h1 o1 hX1_ hxb od
      go_wp2_with fail
      go_roundw
      case rel => exact ⟨4, rfl, by omega, h4, o4⟩
      case measure => simp [intOf]
    · rw [show ((4 : Nat) : Int) = 4 from rfl]
      go_wp2_with fail
      go_end0
      exact ⟨rfl, hq, (hoW.mono (by simp)).trans ho⟩
end Go.Proofs.Ytemmdhfmdgpfmaa
