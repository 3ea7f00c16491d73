/- A bundle's bytes, as a resource: they can be read, whatever they are (layer 17). No walk. -/
import Derived.Test.YteljkfihmbddaaaPd
set_option linter.unusedSimpArgs false
set_option linter.unusedVariables false
namespace Go.Proofs.Yteljkfihmbddaaa
open Go.RowKit Go.Pw
set_option linter.unusedVariables false

/-- Bytes that can be read. -/
def RdS (w : World) (v : Value) : Prop := ∃ (ao : Option Addr) (c : Nat) (xs : List Int), v = .slice ao xs.length c ∧ Pw.Src w (.slice ao xs.length c) 1 xs.length (xs.map (Value.int .u8)) ∧ (∀ x ∈ xs, 0 ≤ x ∧ x < 256) ∧ xs.length ≤ 100
theorem rdS_loc {w w' : World} {v : Value} (h : ∀ k ∈ v.ownBlock.toList, w'.heap[k]? = w.heap[k]?) (hr : RdS w v) : RdS w' v := by
  obtain ⟨ao, c, xs, rfl, ⟨ao', c', he, h1, h2, h3, h4, h5⟩, hb⟩ := hr
  simp only [Value.slice.injEq, true_and] at he
  obtain ⟨rfl, rfl⟩ := he
  refine ⟨ao, c, xs, rfl, ⟨ao, c, rfl, h1, h2, h3, h4, fun b hbb j u hj => ?_⟩, hb⟩
  have h6 := h5 b hbb j u hj
  obtain ⟨bb, bo, sp⟩ := b
  obtain ⟨o, ho⟩ : ∃ o, (⟨bb, bo, sp⟩ : Addr).add j = ⟨bb, o, none⟩ := by
    have hs := World.cell?_spot h6
    by_cases hj0 : j = 0
    · subst hj0
      have hs2 : sp = none := by simpa [Addr.add] using hs
      exact ⟨bo, by simp [Addr.add, hs2]⟩
    · exact ⟨bo + j, by simp [Addr.add, hj0]⟩
  have hk := h bb (by simp [Value.ownBlock, hbb])
  rw [ho] at h6 ⊢
  simp only [World.cell?] at h6 ⊢
  rw [hk]
  exact h6
theorem rdS_nil (w : World) : RdS w (.slice none 0 0) := ⟨none, 0, [], rfl, ⟨none, 0, rfl, Nat.le_refl _, Nat.zero_le _, rfl, fun _ => ⟨rfl, rfl⟩, by simp⟩, by simp, by simp⟩
def parts (b : Bu) : List Value := [b.s1, b.s2, b.s3, b.s4, b.s5]
/-- A bundle whose bytes can be read. -/
def rdB (b : Bu) : Res where
  fp := (parts b).flatMap fun v => v.ownBlock.toList
  ok w := (∀ v ∈ parts b, RdS w v) ∧ ∀ k ∈ ((parts b).flatMap fun v => v.ownBlock.toList), k < w.heap.size
  loc w w' h k := ⟨fun v hv => rdS_loc (fun j hj => h j (List.mem_flatMap.2 ⟨v, hv, hj⟩)) (k.1 v hv), fun j hj => by
    have h1 := k.2 j hj
    have h2 := h j hj
    rw [Array.getElem?_eq_getElem h1] at h2
    exact (Array.getElem?_eq_some_iff.1 h2).1⟩
  lt w h k hk := h.2 k hk
theorem rdB_b0 (w : World) : (rdB b0).ok w := by
  refine ⟨fun v hv => ?_, fun k hk => ?_⟩
  · have : v = .slice none 0 0 := by simpa [parts, b0] using hv
    rw [this]
    exact rdS_nil w
  · simp [parts, b0, Value.ownBlock] at hk
/-- Bytes in a block of the call's own. -/
theorem rdS_blk {w : World} {X c : Nat} {g : Nat × Nat} {xs : List Int} (h : w.heap[X]? = some (.cells (xs.map (Value.int .u8)).toArray 5 g)) (hc : c = xs.length) (hm : xs.length ≤ 100) (hb : ∀ x ∈ xs, 0 ≤ x ∧ x < 256) : RdS w (.slice (some ⟨X, 0, none⟩) c c) := by
  subst hc
  refine ⟨_, _, xs, rfl, ⟨_, _, rfl, Nat.le_refl _, by unfold maxLen; omega, by simp, by simp, fun b hbb j u hj => ?_⟩, hb, hm⟩
  obtain rfl : b = ⟨X, 0, none⟩ := by simpa using hbb.symm
  rw [Addr.add_lit, cell_in h]
  simpa using hj
end Go.Proofs.Yteljkfihmbddaaa
