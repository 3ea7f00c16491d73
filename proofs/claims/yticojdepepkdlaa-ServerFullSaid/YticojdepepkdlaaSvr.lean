/- Plain facts of a server with three devices (layer 19), for ServerFull. Ours. -/
import Derived.Test.YticojdepepkdlaaSvp
import Derived.Test.YticojdepepkdlaaSvd
import Derived.Test.YticojdepepkdlaaSvf
set_option linter.unusedSimpArgs false
set_option linter.unusedVariables false
namespace Go.Pw
open Go.RowKit
theorem Sep.made2 {w0 w : World} {rs : List Res} {e : TypeId} (v u : Value) (h : Sep w0 w rs) : Sep w0 (w.alloc (.cells #[v, u] e)) (row e 1 (.slice (some ⟨w.heap.size, 0, none⟩) 2 2) 2 [v, u] :: rs) :=
  h.add (Only.alloc _ _ _) ⟨by simp, .inr ⟨_, 2, #[v, u], rfl, Nat.zero_le _, heap_alloc_new w _, Nat.le_refl _, by unfold maxLen; omega, rfl, by simp⟩⟩ (fun k hk => by simp [row, Value.ownBlock] at hk; omega)
theorem src_made (w : World) (e : TypeId) (g : Nat × Nat) (v : Value) : Src (w.alloc (.cells #[v] e g)) (.slice (some ⟨w.heap.size, 0, none⟩) 1 1) 1 1 [v] := by
  refine ⟨some ⟨w.heap.size, 0, none⟩, 1, rfl, Nat.le_refl _, by unfold maxLen; omega, rfl, by simp, fun ad had i u hu => ?_⟩
  obtain rfl := Option.some.inj had
  cases i with
  | zero =>
    simp at hu
    subst hu
    have h0 := heap_alloc_new w (.cells #[v] e g)
    show World.cell? _ ⟨w.heap.size, 0 + 0, _⟩ = _
    unfold World.cell?
    rw [h0]
    rfl
  | succ j => simp at hu
end Go.Pw
namespace Go.Proofs.Yticojdepepkdlaa
open Go.RowKit Go.Pw
set_option linter.unusedVariables false

theorem ld2_next {x y : Li} (hx : Ld 0 1 x) (hy : Ld 1 1 y) : nextD [x, y] 1 = ((1, 2), 0) ∧ foundL [x, y] 1 2 = false ∧ ∀ z, (insL [x, y] (newL 1 2)).set (placeL [x, y] 1 2) z = [x, y, z] := by
  obtain ⟨u, d, on, b, v, os, ok⟩ := x
  obtain ⟨h1, h2, h3, _⟩ := hx
  simp only at h1 h2 h3
  subst h1 h2 h3
  obtain ⟨u, d, on, b, v, os, ok⟩ := y
  obtain ⟨h1, h2, h3, _⟩ := hy
  simp only at h1 h2 h3
  subst h1 h2 h3
  exact ⟨rfl, rfl, fun _ => rfl⟩
theorem rise_three {x y z : Li} (hx : Ld 0 1 x) (hy : Ld 1 1 y) (hz : Ld 1 2 z) : Rise [x, y, z] := by
  intro u d i j hi hj
  have hj' : j < 3 := hj
  have h : (i = 0 ∧ j = 1) ∨ (i = 0 ∧ j = 2) ∨ (i = 1 ∧ j = 2) := by omega
  rcases h with ⟨rfl, rfl⟩ | ⟨rfl, rfl⟩ | ⟨rfl, rfl⟩ <;> simp only [List.getElem_cons_zero, List.getElem_cons_succ, hx.1, hx.2.1, hy.1, hy.2.1, hz.1, hz.2.1, cmpW_lt] <;> omega
theorem three_facts {x y z : Li} (hx : Ld 0 1 x) (hy : Ld 1 1 y) (hz : Ld 1 2 z) : isL [x, y, z] 0 1 = true ∧ isL [x, y, z] 1 1 = true ∧ isL [x, y, z] 1 2 = true ∧ audL [x, y, z] 0 1 1 = [(1, 1), (1, 2)] ∧ (listL [x, y, z] 1).length ≠ 0 := by
  obtain ⟨u, d, on, b, v, os, ok⟩ := x
  obtain ⟨h1, h2, h3, _⟩ := hx
  simp only at h1 h2 h3
  subst h1 h2 h3
  obtain ⟨u, d, on, b, v, os, ok⟩ := y
  obtain ⟨h1, h2, h3, _⟩ := hy
  simp only at h1 h2 h3
  subst h1 h2 h3
  obtain ⟨u, d, on, b, v, os, ok⟩ := z
  obtain ⟨h1, h2, h3, _⟩ := hz
  simp only at h1 h2 h3
  subst h1 h2 h3
  exact ⟨rfl, rfl, rfl, rfl, fun h => Nat.succ_ne_zero 1 h⟩
theorem in_two1 : ∀ p ∈ ([(1, 1), (1, 2)] : List (Int × Int)), hasW [(1, 2), (1, 1)] p.1 p.2 = true := fun p hp => by
  have h : p = (1, 1) ∨ p = (1, 2) := by simpa using hp
  rcases h with rfl | rfl <;> simp [hasW]
theorem in_two2 : ∀ p ∈ ([(1, 2), (1, 1)] : List (Int × Int)), hasW [(1, 1), (1, 2)] p.1 p.2 = true := fun p hp => by
  have h : p = (1, 2) ∨ p = (1, 1) := by simpa using hp
  rcases h with rfl | rfl <;> simp [hasW]
/-- The room in two boxes. -/
def rm2 (l2 l3 : List It) (p : Int × Int) : Int := if p = (1, 1) then 32 - (l2.length : Int) else 32 - (l3.length : Int)
theorem rooms_two {w0 w : World} {rs : List Res} {bm : List ((Int × Int) × Value)} {B2 B3 : Nat} {u2 u3 : Value} {l2 l3 : List It} {la2 la3 : Int} (h : Sep w0 w (box B3 u3 l3 la3 :: box B2 u2 l2 la2 :: rs)) (h2 : l2.length ≤ 100) (h3 : l3.length ≤ 100)
    (g2 : getM bm (1, 1) = some (.pointer (some ⟨B2, 0, none⟩))) (g3 : getM bm (1, 2) = some (.pointer (some ⟨B3, 0, none⟩))) : Rooms bm (rm2 l2 l3) [(1, 1), (1, 2)] w := fun p hp => by
  have hq : p = (1, 1) ∨ p = (1, 2) := by simpa using hp
  rcases hq with rfl | rfl
  · exact ⟨B2, g2, fun w' o => room_any B2 u2 l2 la2 w' ((h.quiet o).sel 2 [1]) (by omega)⟩
  · exact ⟨B3, g3, fun w' o => room_any B3 u3 l3 la3 w' (h.quiet o) (by omega)⟩
theorem rm2_full {l2 l3 : List It} (h : l2.length = 32 ∨ l3.length = 32) : ([(1, 1), (1, 2)] : List (Int × Int)).any (fun p => decide (rm2 l2 l3 p < 1)) = true := by
  simp only [rm2, List.any_cons, List.any_nil, if_pos, Prod.mk.injEq, Bool.or_false, Bool.or_eq_true, decide_eq_true_eq]
  rcases h with h | h
  · left; omega
  · right; simp; omega
theorem rm2_room {l2 l3 : List It} (h2 : l2.length < 32) (h3 : l3.length < 32) : ([(1, 1), (1, 2)] : List (Int × Int)).any (fun p => decide (rm2 l2 l3 p < 1)) = false := by
  have e1 : rm2 l2 l3 (1, 1) = 32 - (l2.length : Int) := by simp [rm2]
  have e2 : rm2 l2 l3 (1, 2) = 32 - (l3.length : Int) := by simp [rm2]
  simp only [List.any_cons, List.any_nil, e1, e2, Bool.or_false, Bool.or_eq_false_iff, decide_eq_false_iff_not]
  omega
theorem kp_lt {up : Int} {l : List It} (hu : 1 ≤ up) (h : ∃ x ∈ l, x.n = 1) : (kp up l).length < l.length := by
  obtain ⟨x, hx, h1⟩ := h
  rcases Nat.lt_or_ge (kp up l).length l.length with h | h
  · exact h
  · have hle := List.length_filter_le (fun x : It => decide (up < x.n)) l
    have he : (l.filter fun x : It => decide (up < x.n)).length = l.length := Nat.le_antisymm hle h
    have := List.length_filter_eq_length_iff.1 he x hx
    simp at this
    omega
theorem w32_1 : W32 1 := ⟨by decide, by decide⟩
theorem w32_2 : W32 2 := ⟨by decide, by decide⟩
theorem envs_two {w0 w : World} {rs : List Res} {ev v1 v2 : Value} (h : Sep w0 w (row 32 1 ev 2 [v1, v2] :: row 5 1 v1 (eB 0 1 1 2).length ((eB 0 1 1 2).map (Value.int .u8)) :: row 5 1 v2 (eB 0 1 1 1).length ((eB 0 1 1 1).map (Value.int .u8)) :: rs)) : Envs 0 1 ev [(v1, (1, 2)), (v2, (1, 1))] w := by
  refine ⟨own_src h.head, fun q hq => ?_⟩
  have hq' : q = (v1, (1, 2)) ∨ q = (v2, (1, 1)) := by simpa using hq
  rcases hq' with rfl | rfl
  · exact ⟨own_src h.tail.head, w32_1, w32_2⟩
  · exact ⟨own_src h.tail.tail.head, w32_1, w32_1⟩
end Go.Proofs.Yticojdepepkdlaa
