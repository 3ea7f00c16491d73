/- Cells of a row that begins anywhere in its block are written. No program. -/
import Derived.Test.YteljkfihmbddaaaRoO
set_option linter.unusedSimpArgs false
set_option linter.unusedVariables false
namespace Go.Pw
open Go.RowKit
set_option linter.unusedVariables false

theorem setL_get : ∀ (vs xs : List Value) (o i : Nat), o + vs.length ≤ xs.length → (setL xs o vs)[i]? = if o ≤ i ∧ i < o + vs.length then vs[i - o]? else xs[i]?
  | [], xs, o, i, h => by simp only [setL, List.length_nil]; rw [if_neg (by omega)]
  | v :: r, xs, o, i, h => by
    simp only [List.length_cons] at h ⊢
    rw [setL, setL_get r _ _ _ (by rw [List.length_set]; omega)]
    by_cases h1 : o + 1 ≤ i ∧ i < o + 1 + r.length
    · rw [if_pos h1, if_pos (by omega), show i - o = (i - (o + 1)) + 1 by omega, List.getElem?_cons_succ]
    · rw [if_neg h1]
      by_cases h2 : i = o
      · subst h2
        rw [if_pos (by omega), List.getElem?_set_self (by omega)]
        simp
      · rw [if_neg (by omega), List.getElem?_set_ne (by omega)]
theorem OwnO.there {w : World} {e size n c g off : Nat} {xs : List Value} (h : OwnO w e size (.slice (some ⟨g, off, none⟩) n c) n xs) (o m : Nat) (hm : o + m ≤ n * size) : w.there g (off + o) m := by
  rcases h.2 with ⟨he, _⟩ | ⟨g', off', cap, cur, he, hg, h1, h2, h3, h4⟩
  · simp at he
  · simp only [Value.slice.injEq, Option.some.injEq, Addr.mk.injEq, and_true, true_and] at he
    obtain ⟨⟨rfl, rfl⟩, rfl⟩ := he
    have := Nat.mul_le_mul_right size h1
    exact block_there hg (off + o) m (by omega)
theorem OwnO.puts {w : World} {e size n c g off : Nat} {xs : List Value} (h : OwnO w e size (.slice (some ⟨g, off, none⟩) n c) n xs) (o : Nat) (vs : List Value) (hm : o + vs.length ≤ n * size) : OwnO (w.setCells g (off + o) vs) e size (.slice (some ⟨g, off, none⟩) n c) n (setL xs o vs) := by
  refine ⟨by rw [setL_length]; exact h.1, ?_⟩
  rcases h.2 with ⟨he, _⟩ | ⟨g', off', cap, cur, he, hg, h1, h2, h3, h4⟩
  · simp at he
  · simp only [Value.slice.injEq, Option.some.injEq, Addr.mk.injEq, and_true, true_and] at he
    obtain ⟨⟨rfl, rfl⟩, rfl⟩ := he
    have hmul := Nat.mul_le_mul_right size h1
    have hcl : cur.toList.length = cur.size := Array.length_toList
    refine .inr ⟨g, off, c, _, rfl, setCells_block vs _ w cur hg, h1, h2, by simpa [setL_length] using h3, ?_⟩
    refine List.ext_getElem? fun i => ?_
    rw [List.toList_toArray, List.getElem?_take, List.getElem?_drop, setL_get _ _ _ _ (by omega), setL_get _ _ _ _ (by rw [h.1]; exact hm)]
    by_cases hi : i < n * size
    · rw [if_pos hi]
      by_cases h5 : o ≤ i ∧ i < o + vs.length
      · rw [if_pos (by omega), if_pos h5, show off + i - (off + o) = i - o by omega]
      · rw [if_neg (by omega), if_neg h5, ← h4, List.getElem?_take, if_pos hi, List.getElem?_drop]
    · rw [if_neg hi, if_neg (by omega), List.getElem?_eq_none (by rw [h.1]; omega)]
theorem Sep.putsO {w0 w : World} {rs : List Res} {e size g off n cap : Nat} {xs : List Value} (h : Sep w0 w (rowO e size (.slice (some ⟨g, off, none⟩) n cap) n xs :: rs)) (o : Nat) (vs : List Value) (hm : o + vs.length ≤ n * size) : Sep w0 (w.setCells g (off + o) vs) (rowO e size (.slice (some ⟨g, off, none⟩) n cap) n (setL xs o vs) :: rs) :=
  h.step (L := [g]) (only_setCells vs (off + o) w) (fun k hk => .inl (by simpa [rowO, Value.ownBlock] using hk)) (OwnO.puts (show OwnO w e size _ n xs from h.head) o vs hm) (fun k hk => .inl hk)
theorem step_store_o {P : Program} {ops : Array Oper} {o : Oper} {a : Act} {w w0 : World} {rs : List Res} {K : Act → World → Prop} {Q : Exit → Act → World → Prop} {E : Prop}
    (hg : o.guard = none) (ty : TypeId) (x y : Operand) (hop : o.op = .store ty x y) (g off at_ : Nat) (v : Value) (cells : List Value) (hv : v.cells = cells.toArray) (e size n cap : Nat) (xs : List Value)
    (hx : a.eval x = .pointer (some ⟨g, off + at_, none⟩)) (hy : a.eval y = v) (hs : Sep w0 w (rowO e size (.slice (some ⟨g, off, none⟩) n cap) n xs :: rs)) (ho' : at_ + cells.length ≤ n * size) (hi : (P.info? ty).map (·.size) = some cells.length) (h1 : ∀ u ∈ cells, u.oneCell' = true)
    (hK : ∀ w', Only w w' [g] → Sep w0 w' (rowO e size (.slice (some ⟨g, off, none⟩) n cap) n (setL xs at_ cells) :: rs) → K (a.put o.dst undef) w') : if Region.wanted o (yielded ops a.tmps) = true then Oper.wp P o a w K Q else E :=
  step_store_cells hg ty x y hop g (off + at_) v cells hv hx hy (OwnO.there (show OwnO w e size _ n xs from hs.head) at_ cells.length ho') hi h1 (hK _ (only_setCells _ _ _) (hs.putsO at_ cells ho'))
end Go.Pw
