/- From a row's readings of slices of slices to the words of our walks. No program. -/
import Derived.Test.YtjopgcbfahlmnaaOpenS
import Derived.Deep.Slices
namespace Go.Pw
open Go.ChangeShapes Go.WideShapes Go.ChangeAt Go.RowKit Go.Deep
set_option linter.unusedVariables false

variable {P : Program} {W : World}

/-- A slice whose elements take one cell each: each of them can be read. -/
theorem reads_elems {t e : TypeId} {cs : List Value} (hT : P.underlying t = some (.slice e)) (hc : P.cellsOf e = 1) (h : Reads P W t cs) :
    ∃ (ao : Option Addr) (c : Nat) (vs : List Value), cs = [.slice ao vs.length c] ∧ Src W (.slice ao vs.length c) 1 vs.length vs ∧ ∀ v ∈ vs, Reads P W e [v] := by
  obtain ⟨H, enc, fuel, x, hf⟩ := h
  rcases open_slice1 hT hc hf with ⟨rfl, _⟩ | ⟨a, len, cap, m, n, V, D, Pl, rfl, _, hl, hm, hmm, _, hV⟩
  · exact ⟨none, 0, [], rfl, ⟨none, 0, rfl, Nat.le_refl _, Nat.zero_le _, rfl, fun _ => ⟨rfl, rfl⟩, by simp⟩, by simp⟩
  · have hlm : len ≤ m := by rw [hmm]; split <;> omega
    refine ⟨some a, cap, (List.range len).map V, by simp, ?_, fun v hv => ?_⟩
    · refine ⟨_, _, rfl, by simpa using hl, hm, by simp, by simp, fun b hb j u hj => ?_⟩
      obtain rfl : b = a := by simpa using hb.symm
      rw [List.getElem?_map] at hj
      obtain ⟨i, hi, rfl⟩ := Option.map_eq_some_iff.1 hj
      have : j < len := by
        rcases Nat.lt_or_ge j len with h | h
        · exact h
        · rw [List.getElem?_eq_none (by simpa using h)] at hi; cases hi
      rw [List.getElem?_eq_getElem (by simpa using this)] at hi
      simp at hi
      subst hi
      exact (hV j (by omega)).1
    · obtain ⟨i, hi, rfl⟩ := List.mem_map.1 hv
      have : i < len := by simpa using hi
      exact ⟨H, enc, n, _, (hV i (by omega)).2⟩

theorem lift_map {α β : Type} {F : β → α} {Q : β → Prop} : ∀ (l : List α), (∀ v ∈ l, ∃ r, v = F r ∧ Q r) → ∃ rs : List β, l = rs.map F ∧ ∀ r ∈ rs, Q r
  | [], _ => ⟨[], rfl, by simp⟩
  | v :: l, h => by
    obtain ⟨r, h1, h2⟩ := h v (by simp)
    obtain ⟨rs, h3, h4⟩ := lift_map l fun v hv => h v (by simp [hv])
    refine ⟨r :: rs, by rw [h1, h3]; rfl, fun x hx => ?_⟩
    rcases List.mem_cons.1 hx with rfl | hx
    · exact h2
    · exact h4 x hx

/-- A slice of bytes, as a value. -/
def bval (r : Option Addr × Nat × List Int) : Value := .slice r.1 r.2.2.length r.2.1

/-- A slice of slices of bytes that came in. -/
theorem reads_rows {t e b : TypeId} {cs : List Value} (hT : P.underlying t = some (.slice e)) (hE : P.underlying e = some (.slice b)) (hB : P.underlying b = some (.int .u8)) (hc : P.cellsOf e = 1) (hcb : P.cellsOf b = 1) (h : Reads P W t cs) :
    ∃ (ao : Option Addr) (c : Nat) (rs : List (Option Addr × Nat × List Int)), cs = [.slice ao rs.length c] ∧ Src W (.slice ao rs.length c) 1 rs.length (rs.map bval) ∧ ∀ r ∈ rs, Src W (bval r) 1 r.2.2.length (r.2.2.map (Value.int .u8)) ∧ ∀ x ∈ r.2.2, 0 ≤ x ∧ x < 256 := by
  obtain ⟨ao, c, vs, h1, h2, h3⟩ := reads_elems hT hc h
  obtain ⟨rs, hrs, hq⟩ := lift_map (F := bval) (Q := fun r => Src W (bval r) 1 r.2.2.length (r.2.2.map (Value.int .u8)) ∧ ∀ x ∈ r.2.2, 0 ≤ x ∧ x < 256) vs fun v hv => by
    obtain ⟨ao', c', xs, k1, k2, k3⟩ := reads_bytes hE hB hcb (h3 v hv)
    simp only [List.cons.injEq, and_true] at k1
    exact ⟨(ao', c', xs), k1, k2, k3⟩
  subst hrs
  rw [List.length_map] at h1 h2
  exact ⟨ao, c, rs, h1, h2, hq⟩
end Go.Pw
