/- From a row's readings of structs to the words of our walks, with the reach of what is read (the bytes of each slice). No program. -/
import Derived.Test.YtemlpjfngaemdaaOpenS
import Derived.SizedLaws
namespace Go.Pw
open Go.ChangeShapes Go.WideShapes Go.ChangeAt Go.RowKit
set_option linter.unusedVariables false

/-- Some cells read as a datum of type t, no slice of it past the reach. -/
def ReadsZ (P : Program) (W : World) (t : TypeId) (cs : List Value) : Prop :=
  ∃ (H : Type) (enc : TypeId × Value → H) (fuel : Nat) (x : DataW H × List MemPlace), DataW.trod enc P W 0 (fun _ => true) true fuel t cs = some x ∧ ∀ n ∈ x.1.weights P t, n ≤ reachBytes

variable {P : Program} {W : World}

theorem readsz_of {H : Type} {enc : TypeId × Value → H} {t : TypeId} {v : Value} {d : DataW H} {p : List MemPlace} (h : DataW.Trod enc P W 0 (fun _ => true) true t v d p) (hz : ∀ n ∈ d.weights P t, n ≤ reachBytes) : ReadsZ P W t v.cells.toList := by
  obtain ⟨m, hm⟩ := h
  exact ⟨H, enc, m, _, hm, hz⟩

theorem ReadsZ.reads {t : TypeId} {cs : List Value} (h : ReadsZ P W t cs) : Reads P W t cs := by
  obtain ⟨H, enc, fuel, x, h, _⟩ := h
  exact ⟨H, enc, fuel, x, h⟩

theorem readsz_field {t : TypeId} {fs : Array Field} {cs : List Value} (ht : P.underlying t = some (.struct fs)) (h : ReadsZ P W t cs) (i : Nat) (f : Field) (hf : fs[i]? = some f) (o n T : Nat) (ho : f.offset = o) (hT : f.type = T) (hn : P.cellsOf T = n) : ReadsZ P W T ((cs.drop o).take n) := by
  obtain ⟨H, enc, fuel, x, h, hz⟩ := h
  subst ho hT hn
  obtain ⟨xs, n, _, rfl, _, hl, hm⟩ := DataW.trod_struct ht h
  have hi : i < fs.size := (Array.getElem?_eq_some_iff.1 hf).1
  have := hm i f hf
  rw [List.getElem?_eq_getElem (by omega)] at this
  refine ⟨H, enc, n, _, this, fun k hk => hz k ?_⟩
  rw [DataW.weights, ht]
  refine DataW.weights_mem_each (j := i) (t := f.type) (d := xs[i].1) ?_ ?_ k hk
  · simp [hf]
  · simp [List.getElem?_eq_getElem (show i < xs.length by omega)]

theorem readsz_bytes {t e : TypeId} {cs : List Value} (hT : P.underlying t = some (.slice e)) (hE : P.underlying e = some (.int .u8)) (hc : P.cellsOf e = 1) (hb : P.bytesOf e = 1) (h : ReadsZ P W t cs) :
    ∃ (ao : Option Addr) (c : Nat) (xs : List Int), cs = [.slice ao xs.length c] ∧ Src W (.slice ao xs.length c) 1 xs.length (xs.map (Value.int .u8)) ∧ (∀ x ∈ xs, 0 ≤ x ∧ x < 256) ∧ xs.length ≤ 140737488351232 := by
  obtain ⟨ao, c, xs, h1, h2, h3⟩ := reads_ints hT hE hc h.reads
  refine ⟨ao, c, xs, h1, h2, u8_byt h3, ?_⟩
  obtain ⟨H, enc, fuel, x, hf, hz⟩ := h
  rcases open_ints hT hE hc hf with ⟨rfl, _⟩ | ⟨y, len, cap, zs, rfl, _, hl, hm, hzl, hx, hcell, hwz⟩
  · simp at h1
    omega
  · simp only [List.cons.injEq, Value.slice.injEq, and_true] at h1
    have := hz
    rw [hx] at this
    simp [DataW.weights, hT, hb, reachBytes, lits] at this
    have hzl' : zs.length = cap := by simpa using hzl
    omega
end Go.Pw
