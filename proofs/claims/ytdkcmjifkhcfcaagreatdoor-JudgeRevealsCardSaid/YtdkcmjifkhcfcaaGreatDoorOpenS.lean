/- From a row's readings of structs to the words of our walks. No program. -/
import Derived.Test.YtdkcmjifkhcfcaaGreatDoorOpen
import Derived.Lib.SmallJoins
set_option linter.all false
namespace Go.Pw
open Go.ChangeShapes Go.WideShapes Go.ChangeAt Go.RowKit
set_option linter.unusedVariables false

/-- Some cells read as a datum of type t. -/
def Reads (P : Program) (W : World) (t : TypeId) (cs : List Value) : Prop :=
  ∃ (H : Type) (enc : TypeId × Value → H) (fuel : Nat) (x : DataW H × List MemPlace), DataW.trod enc P W 0 (fun _ => true) true fuel t cs = some x

variable {P : Program} {W : World}

theorem reads_of {H : Type} {enc : TypeId × Value → H} {t : TypeId} {v : Value} {d : DataW H} {p : List MemPlace} (h : DataW.Trod enc P W 0 (fun _ => true) true t v d p) : Reads P W t v.cells.toList := by
  obtain ⟨m, hm⟩ := h
  exact ⟨H, enc, m, _, hm⟩

theorem reads_field {t : TypeId} {fs : Array Field} {cs : List Value} (ht : P.underlying t = some (.struct fs)) (h : Reads P W t cs) (i : Nat) (f : Field) (hf : fs[i]? = some f) (o n T : Nat) (ho : f.offset = o) (hT : f.type = T) (hn : P.cellsOf T = n) : Reads P W T ((cs.drop o).take n) := by
  obtain ⟨H, enc, fuel, x, h⟩ := h
  subst ho hT hn
  obtain ⟨xs, n, _, _, _, hl, hm⟩ := DataW.trod_struct ht h
  have hi : i < fs.size := (Array.getElem?_eq_some_iff.1 hf).1
  have := hm i f hf
  rw [List.getElem?_eq_getElem (by omega)] at this
  exact ⟨H, enc, n, _, this⟩

theorem reads_int {t : TypeId} {k : IntKind} {cs : List Value} (ht : P.underlying t = some (.int k)) (h : Reads P W t cs) : ∃ n, cs = [.int k n] ∧ (Lit.int k n).wf = true := by
  obtain ⟨H, enc, fuel, x, h⟩ := h
  obtain ⟨n, h1, _, h2⟩ := DataW.trod_int ht h
  exact ⟨n, h1, h2⟩

theorem reads_bool {t : TypeId} {cs : List Value} (ht : P.underlying t = some .bool) (h : Reads P W t cs) : ∃ b, cs = [.bool b] := by
  obtain ⟨H, enc, fuel, x, h⟩ := h
  obtain ⟨b, h1, _⟩ := DataW.trod_bool ht h
  exact ⟨b, h1⟩

theorem reads_ints {t e : TypeId} {k : IntKind} {cs : List Value} (hT : P.underlying t = some (.slice e)) (hE : P.underlying e = some (.int k)) (hc : P.cellsOf e = 1) (h : Reads P W t cs) :
    ∃ (ao : Option Addr) (c : Nat) (xs : List Int), cs = [.slice ao xs.length c] ∧ Src W (.slice ao xs.length c) 1 xs.length (xs.map (Value.int k)) ∧ ∀ x ∈ xs, (Lit.int k x).wf = true := by
  obtain ⟨H, enc, fuel, x, hf⟩ := h
  rcases open_ints hT hE hc hf with ⟨rfl, _⟩ | ⟨x, len, cap, zs, rfl, _, hl, hm, hz, _, hcell, hwz⟩
  · exact ⟨none, 0, [], rfl, ⟨none, 0, rfl, Nat.le_refl _, Nat.zero_le _, rfl, fun _ => ⟨rfl, rfl⟩, by simp⟩, by simp⟩
  · have hzl : zs.length = cap := by simpa using hz
    have e : (zs.take len).length = len := by simp; omega
    refine ⟨some x, cap, zs.take len, by rw [e], ?_, fun y hy => hwz y (List.mem_of_mem_take hy)⟩
    rw [e]
    refine ⟨_, _, rfl, hl, hm, by simp; omega, by simp, fun b hb j u hj => ?_⟩
    obtain rfl : b = x := by simpa using hb.symm
    rw [List.getElem?_map, List.getElem?_take] at hj
    split at hj
    · rename_i hjl
      have hj2 : j < zs.length := by omega
      have := hcell j hj2
      rw [this]
      rw [List.getElem?_eq_getElem hj2] at hj
      simp only [Option.map_some, Option.some.injEq] at hj
      rw [← hj, List.getD_eq_getElem?_getD, List.getElem?_eq_getElem hj2]
      rfl
    · simp at hj

theorem reads_bytes {t e : TypeId} {cs : List Value} (hT : P.underlying t = some (.slice e)) (hE : P.underlying e = some (.int .u8)) (hc : P.cellsOf e = 1) (h : Reads P W t cs) :
    ∃ (ao : Option Addr) (c : Nat) (xs : List Int), cs = [.slice ao xs.length c] ∧ Src W (.slice ao xs.length c) 1 xs.length (xs.map (Value.int .u8)) ∧ ∀ x ∈ xs, 0 ≤ x ∧ x < 256 := by
  obtain ⟨ao, c, xs, h1, h2, h3⟩ := reads_ints hT hE hc h
  exact ⟨ao, c, xs, h1, h2, u8_byt h3⟩

theorem u32_wf {n : Int} (h : (Lit.int .u32 n).wf = true) : 0 ≤ n ∧ n < 4294967296 := by
  simp [Lit.wf, IntKind.min, IntKind.max, IntKind.signed, IntKind.bits] at h
  omega
theorem u64_wf {n : Int} (h : (Lit.int .u64 n).wf = true) : 0 ≤ n ∧ n < 18446744073709551616 := by
  simp [Lit.wf, IntKind.min, IntKind.max, IntKind.signed, IntKind.bits] at h
  omega
theorem i64_wf {n : Int} (h : (Lit.int .i64 n).wf = true) : -9223372036854775808 ≤ n ∧ n ≤ 9223372036854775807 := by
  simp [Lit.wf, IntKind.min, IntKind.max, IntKind.signed, IntKind.bits] at h
  omega
theorem u8_wf {n : Int} (h : (Lit.int .u8 n).wf = true) : 0 ≤ n ∧ n < 256 := by
  simp [Lit.wf, IntKind.min, IntKind.max, IntKind.signed, IntKind.bits] at h
  omega
theorem u16_wf {n : Int} (h : (Lit.int .u16 n).wf = true) : 0 ≤ n ∧ n < 65536 := by
  simp [Lit.wf, IntKind.min, IntKind.max, IntKind.signed, IntKind.bits] at h
  omega

theorem list3 {α : Type} (l : List α) (h : l.length = 3) : ∃ a0 a1 a2, l = [a0, a1, a2] := by
  match l, h with
  | [a0, a1, a2], _ => exact ⟨_, _, _, rfl⟩

theorem list6 {α : Type} (l : List α) (h : l.length = 6) : ∃ a0 a1 a2 a3 a4 a5, l = [a0, a1, a2, a3, a4, a5] := by
  match l, h with
  | [a0, a1, a2, a3, a4, a5], _ => exact ⟨_, _, _, _, _, _, rfl⟩

theorem list10 {α : Type} (l : List α) (h : l.length = 10) : ∃ a0 a1 a2 a3 a4 a5 a6 a7 a8 a9, l = [a0, a1, a2, a3, a4, a5, a6, a7, a8, a9] := by
  match l, h with
  | [a0, a1, a2, a3, a4, a5, a6, a7, a8, a9], _ => exact ⟨_, _, _, _, _, _, _, _, _, _, rfl⟩

theorem list16 {α : Type} (l : List α) (h : l.length = 16) : ∃ a0 a1 a2 a3 a4 a5 a6 a7 a8 a9 a10 a11 a12 a13 a14 a15, l = [a0, a1, a2, a3, a4, a5, a6, a7, a8, a9, a10, a11, a12, a13, a14, a15] := by
  match l, h with
  | [a0, a1, a2, a3, a4, a5, a6, a7, a8, a9, a10, a11, a12, a13, a14, a15], _ => exact ⟨_, _, _, _, _, _, _, _, _, _, _, _, _, _, _, _, rfl⟩

end Go.Pw
