/- From a row's readings of its arguments to the words of our walks. No program. -/
import Derived.Test.YtdkcmjifkhcfcaaGreatDoorBase
import Derived.ProofKit
import Derived.OpenShut
set_option linter.all false
namespace Go.Pw
open Go.ChangeShapes Go.WideShapes Go.ChangeAt Go.RowKit
set_option linter.unusedVariables false

/-- A slice of integers that came in. -/
theorem open_src {P : Program} {H : Type} {enc : TypeId × Value → H} {W : World} {base : Nat} {T E : TypeId} {k : IntKind} {v : Value} {d : DataW H} {p : List MemPlace} (hT : P.underlying T = some (.slice E)) (hE : P.underlying E = some (.int k)) (hc : P.cellsOf E = 1)
    (hv : Value.okWide P W .any base T v) (h : DataW.Trod enc P W 0 (fun _ => true) true T v d p) :
    ∃ (ao : Option Addr) (c : Nat) (xs : List Int), v = .slice ao xs.length c ∧ Src W (.slice ao xs.length c) 1 xs.length (xs.map (Value.int k)) ∧ ∀ x ∈ xs, (Lit.int k x).wf = true := by
  obtain ⟨a, len, cap, rfl⟩ := okWide_slice hT hv
  obtain ⟨fuel, hf⟩ := h
  rcases open_ints hT hE hc hf with ⟨hcs, _⟩ | ⟨x, l, c, zs, hcs, _, hl, hm, hz, _, hcell, hwz⟩
  · simp [Value.cells] at hcs
    obtain ⟨rfl, rfl, rfl⟩ := hcs
    exact ⟨none, 0, [], rfl, ⟨none, 0, rfl, Nat.le_refl _, Nat.zero_le _, rfl, fun _ => ⟨rfl, rfl⟩, by simp⟩, by simp⟩
  · simp [Value.cells] at hcs
    obtain ⟨rfl, rfl, rfl⟩ := hcs
    have hzl : zs.length = cap := by simpa using hz
    have e : (zs.take len).length = len := by simp; omega
    refine ⟨some x, cap, zs.take len, by rw [e], ?_, fun y hy => hwz y (List.mem_of_mem_take hy)⟩
    rw [e]
    refine ⟨_, _, rfl, hl, hm, by simp; omega, by simp, fun b hb j u hj => ?_⟩
    obtain rfl : b = x := by simpa using hb.symm
    rw [List.getElem?_map, List.getElem?_take] at hj
    split at hj
    · rename_i hjl
      have hj2 : j < zs.length := by omega
      have := hcell j hj2
      rw [this]
      rw [List.getElem?_eq_getElem hj2] at hj
      simp only [Option.map_some, Option.some.injEq] at hj
      rw [← hj, List.getD_eq_getElem?_getD, List.getElem?_eq_getElem hj2]
      rfl
    · simp at hj

theorem u8_byt {xs : List Int} (h : ∀ x ∈ xs, (Lit.int .u8 x).wf = true) : ∀ x ∈ xs, 0 ≤ x ∧ x < 256 := fun x hx => by
  have := h x hx
  simp [Lit.wf, IntKind.min, IntKind.max, IntKind.signed, IntKind.bits] at this
  omega

/-- A slice of bytes that came in. -/
theorem open_bytes {P : Program} {H : Type} {enc : TypeId × Value → H} {W : World} {base : Nat} {T E : TypeId} {v : Value} {d : DataW H} {p : List MemPlace} (hT : P.underlying T = some (.slice E)) (hE : P.underlying E = some (.int .u8)) (hc : P.cellsOf E = 1)
    (hv : Value.okWide P W .any base T v) (h : DataW.Trod enc P W 0 (fun _ => true) true T v d p) :
    ∃ (ao : Option Addr) (c : Nat) (xs : List Int), v = .slice ao xs.length c ∧ Src W (.slice ao xs.length c) 1 xs.length (xs.map (Value.int .u8)) ∧ ∀ x ∈ xs, 0 ≤ x ∧ x < 256 := by
  obtain ⟨ao, c, xs, h1, h2, h3⟩ := open_src hT hE hc hv h
  exact ⟨ao, c, xs, h1, h2, u8_byt h3⟩

end Go.Pw
