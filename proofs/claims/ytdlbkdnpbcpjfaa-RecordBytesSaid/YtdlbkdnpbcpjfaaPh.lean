/- Several texts in one: Open, OpenS, OpenR. -/
import Derived.Test.YtdlbkdnpbcpjfaaPa
import Derived.ProofKit
import Derived.OpenShut
import Derived.Lib.SmallJoins
import Derived.Deep.Slices
set_option linter.unusedSimpArgs false
set_option linter.unusedVariables false
/- From a row's readings of its arguments to the words of our walks. No program. -/
namespace Go.Pw
open Go.ChangeShapes Go.WideShapes Go.ChangeAt Go.RowKit
set_option linter.unusedVariables false

/-- A slice of integers that came in. -/
theorem open_src {P : Program} {H : Type} {enc : TypeId × Value → H} {W : World} {base : Nat} {T E : TypeId} {k : IntKind} {v : Value} {d : DataW H} {p : List MemPlace} (hT : P.underlying T = some (.slice E)) (hE : P.underlying E = some (.int k)) (hc : P.cellsOf E = 1)
    (hv : Value.okWide P W .any base T v) (h : DataW.Trod enc P W 0 (fun _ => true) true T v d p) :
    ∃ (ao : Option Addr) (c : Nat) (xs : List Int), v = .slice ao xs.length c ∧ Src W (.slice ao xs.length c) 1 xs.length (xs.map (Value.int k)) ∧ ∀ x ∈ xs, (Lit.int k x).wf = true := by
  obtain ⟨a, len, cap, rfl⟩ := okWide_slice hT hv
  obtain ⟨fuel, hf⟩ := h
  rcases open_ints hT hE hc hf with ⟨hcs, _⟩ | ⟨x, l, c, zs, hcs, _, hl, hm, hz, _, hcell, hwz⟩
  · simp [Value.cells] at hcs
    obtain ⟨rfl, rfl, rfl⟩ := hcs
    exact ⟨none, 0, [], rfl, ⟨none, 0, rfl, Nat.le_refl _, Nat.zero_le _, rfl, fun _ => ⟨rfl, rfl⟩, by simp⟩, by simp⟩
  · simp [Value.cells] at hcs
    obtain ⟨rfl, rfl, rfl⟩ := hcs
    have hzl : zs.length = cap := by simpa using hz
    have e : (zs.take len).length = len := by simp; omega
    refine ⟨some x, cap, zs.take len, by rw [e], ?_, fun y hy => hwz y (List.mem_of_mem_take hy)⟩
    rw [e]
    refine ⟨_, _, rfl, hl, hm, by simp; omega, by simp, fun b hb j u hj => ?_⟩
    obtain rfl : b = x := by simpa using hb.symm
    rw [List.getElem?_map, List.getElem?_take] at hj
    split at hj
    · rename_i hjl
      have hj2 : j < zs.length := by omega
      have := hcell j hj2
      rw [this]
      rw [List.getElem?_eq_getElem hj2] at hj
      simp only [Option.map_some, Option.some.injEq] at hj
      rw [← hj, List.getD_eq_getElem?_getD, List.getElem?_eq_getElem hj2]
      rfl
    · simp at hj

theorem u8_byt {xs : List Int} (h : ∀ x ∈ xs, (Lit.int .u8 x).wf = true) : ∀ x ∈ xs, 0 ≤ x ∧ x < 256 := fun x hx => by
  have := h x hx
  simp [Lit.wf, IntKind.min, IntKind.max, IntKind.signed, IntKind.bits] at this
  omega

/-- A slice of bytes that came in. -/
theorem open_bytes {P : Program} {H : Type} {enc : TypeId × Value → H} {W : World} {base : Nat} {T E : TypeId} {v : Value} {d : DataW H} {p : List MemPlace} (hT : P.underlying T = some (.slice E)) (hE : P.underlying E = some (.int .u8)) (hc : P.cellsOf E = 1)
    (hv : Value.okWide P W .any base T v) (h : DataW.Trod enc P W 0 (fun _ => true) true T v d p) :
    ∃ (ao : Option Addr) (c : Nat) (xs : List Int), v = .slice ao xs.length c ∧ Src W (.slice ao xs.length c) 1 xs.length (xs.map (Value.int .u8)) ∧ ∀ x ∈ xs, 0 ≤ x ∧ x < 256 := by
  obtain ⟨ao, c, xs, h1, h2, h3⟩ := open_src hT hE hc hv h
  exact ⟨ao, c, xs, h1, h2, u8_byt h3⟩

end Go.Pw

/- From a row's readings of structs to the words of our walks. No program. -/
namespace Go.Pw
open Go.ChangeShapes Go.WideShapes Go.ChangeAt Go.RowKit
set_option linter.unusedVariables false

/-- Some cells read as a datum of type t. -/
def Reads (P : Program) (W : World) (t : TypeId) (cs : List Value) : Prop :=
  ∃ (H : Type) (enc : TypeId × Value → H) (fuel : Nat) (x : DataW H × List MemPlace), DataW.trod enc P W 0 (fun _ => true) true fuel t cs = some x

variable {P : Program} {W : World}

theorem reads_of {H : Type} {enc : TypeId × Value → H} {t : TypeId} {v : Value} {d : DataW H} {p : List MemPlace} (h : DataW.Trod enc P W 0 (fun _ => true) true t v d p) : Reads P W t v.cells.toList := by
  obtain ⟨m, hm⟩ := h
  exact ⟨H, enc, m, _, hm⟩

theorem reads_field {t : TypeId} {fs : Array Field} {cs : List Value} (ht : P.underlying t = some (.struct fs)) (h : Reads P W t cs) (i : Nat) (f : Field) (hf : fs[i]? = some f) (o n T : Nat) (ho : f.offset = o) (hT : f.type = T) (hn : P.cellsOf T = n) : Reads P W T ((cs.drop o).take n) := by
  obtain ⟨H, enc, fuel, x, h⟩ := h
  subst ho hT hn
  obtain ⟨xs, n, _, _, _, hl, hm⟩ := DataW.trod_struct ht h
  have hi : i < fs.size := (Array.getElem?_eq_some_iff.1 hf).1
  have := hm i f hf
  rw [List.getElem?_eq_getElem (by omega)] at this
  exact ⟨H, enc, n, _, this⟩

theorem reads_int {t : TypeId} {k : IntKind} {cs : List Value} (ht : P.underlying t = some (.int k)) (h : Reads P W t cs) : ∃ n, cs = [.int k n] ∧ (Lit.int k n).wf = true := by
  obtain ⟨H, enc, fuel, x, h⟩ := h
  obtain ⟨n, h1, _, h2⟩ := DataW.trod_int ht h
  exact ⟨n, h1, h2⟩

theorem reads_bool {t : TypeId} {cs : List Value} (ht : P.underlying t = some .bool) (h : Reads P W t cs) : ∃ b, cs = [.bool b] := by
  obtain ⟨H, enc, fuel, x, h⟩ := h
  obtain ⟨b, h1, _⟩ := DataW.trod_bool ht h
  exact ⟨b, h1⟩

theorem reads_ints {t e : TypeId} {k : IntKind} {cs : List Value} (hT : P.underlying t = some (.slice e)) (hE : P.underlying e = some (.int k)) (hc : P.cellsOf e = 1) (h : Reads P W t cs) :
    ∃ (ao : Option Addr) (c : Nat) (xs : List Int), cs = [.slice ao xs.length c] ∧ Src W (.slice ao xs.length c) 1 xs.length (xs.map (Value.int k)) ∧ ∀ x ∈ xs, (Lit.int k x).wf = true := by
  obtain ⟨H, enc, fuel, x, hf⟩ := h
  rcases open_ints hT hE hc hf with ⟨rfl, _⟩ | ⟨x, len, cap, zs, rfl, _, hl, hm, hz, _, hcell, hwz⟩
  · exact ⟨none, 0, [], rfl, ⟨none, 0, rfl, Nat.le_refl _, Nat.zero_le _, rfl, fun _ => ⟨rfl, rfl⟩, by simp⟩, by simp⟩
  · have hzl : zs.length = cap := by simpa using hz
    have e : (zs.take len).length = len := by simp; omega
    refine ⟨some x, cap, zs.take len, by rw [e], ?_, fun y hy => hwz y (List.mem_of_mem_take hy)⟩
    rw [e]
    refine ⟨_, _, rfl, hl, hm, by simp; omega, by simp, fun b hb j u hj => ?_⟩
    obtain rfl : b = x := by simpa using hb.symm
    rw [List.getElem?_map, List.getElem?_take] at hj
    split at hj
    · rename_i hjl
      have hj2 : j < zs.length := by omega
      have := hcell j hj2
      rw [this]
      rw [List.getElem?_eq_getElem hj2] at hj
      simp only [Option.map_some, Option.some.injEq] at hj
      rw [← hj, List.getD_eq_getElem?_getD, List.getElem?_eq_getElem hj2]
      rfl
    · simp at hj

theorem reads_bytes {t e : TypeId} {cs : List Value} (hT : P.underlying t = some (.slice e)) (hE : P.underlying e = some (.int .u8)) (hc : P.cellsOf e = 1) (h : Reads P W t cs) :
    ∃ (ao : Option Addr) (c : Nat) (xs : List Int), cs = [.slice ao xs.length c] ∧ Src W (.slice ao xs.length c) 1 xs.length (xs.map (Value.int .u8)) ∧ ∀ x ∈ xs, 0 ≤ x ∧ x < 256 := by
  obtain ⟨ao, c, xs, h1, h2, h3⟩ := reads_ints hT hE hc h
  exact ⟨ao, c, xs, h1, h2, u8_byt h3⟩

theorem u32_wf {n : Int} (h : (Lit.int .u32 n).wf = true) : 0 ≤ n ∧ n < 4294967296 := by
  simp [Lit.wf, IntKind.min, IntKind.max, IntKind.signed, IntKind.bits] at h
  omega
theorem u64_wf {n : Int} (h : (Lit.int .u64 n).wf = true) : 0 ≤ n ∧ n < 18446744073709551616 := by
  simp [Lit.wf, IntKind.min, IntKind.max, IntKind.signed, IntKind.bits] at h
  omega
theorem i64_wf {n : Int} (h : (Lit.int .i64 n).wf = true) : -9223372036854775808 ≤ n ∧ n ≤ 9223372036854775807 := by
  simp [Lit.wf, IntKind.min, IntKind.max, IntKind.signed, IntKind.bits] at h
  omega
theorem u8_wf {n : Int} (h : (Lit.int .u8 n).wf = true) : 0 ≤ n ∧ n < 256 := by
  simp [Lit.wf, IntKind.min, IntKind.max, IntKind.signed, IntKind.bits] at h
  omega
theorem u16_wf {n : Int} (h : (Lit.int .u16 n).wf = true) : 0 ≤ n ∧ n < 65536 := by
  simp [Lit.wf, IntKind.min, IntKind.max, IntKind.signed, IntKind.bits] at h
  omega

theorem list3 {α : Type} (l : List α) (h : l.length = 3) : ∃ a0 a1 a2, l = [a0, a1, a2] := by
  match l, h with
  | [a0, a1, a2], _ => exact ⟨_, _, _, rfl⟩

theorem list6 {α : Type} (l : List α) (h : l.length = 6) : ∃ a0 a1 a2 a3 a4 a5, l = [a0, a1, a2, a3, a4, a5] := by
  match l, h with
  | [a0, a1, a2, a3, a4, a5], _ => exact ⟨_, _, _, _, _, _, rfl⟩

theorem list10 {α : Type} (l : List α) (h : l.length = 10) : ∃ a0 a1 a2 a3 a4 a5 a6 a7 a8 a9, l = [a0, a1, a2, a3, a4, a5, a6, a7, a8, a9] := by
  match l, h with
  | [a0, a1, a2, a3, a4, a5, a6, a7, a8, a9], _ => exact ⟨_, _, _, _, _, _, _, _, _, _, rfl⟩

theorem list16 {α : Type} (l : List α) (h : l.length = 16) : ∃ a0 a1 a2 a3 a4 a5 a6 a7 a8 a9 a10 a11 a12 a13 a14 a15, l = [a0, a1, a2, a3, a4, a5, a6, a7, a8, a9, a10, a11, a12, a13, a14, a15] := by
  match l, h with
  | [a0, a1, a2, a3, a4, a5, a6, a7, a8, a9, a10, a11, a12, a13, a14, a15], _ => exact ⟨_, _, _, _, _, _, _, _, _, _, _, _, _, _, _, _, rfl⟩

end Go.Pw

/- From a row's readings of slices of structs, and of floats, to the words of our walks. No program. -/
namespace Go.Pw
open Go.ChangeShapes Go.WideShapes Go.ChangeAt Go.RowKit Go.Deep
set_option linter.unusedVariables false

variable {P : Program} {W : World}

theorem reads_float {t : TypeId} {cs : List Value} (ht : P.underlying t = some (.float .f64)) (h : Reads P W t cs) : ∃ b, cs = [.float .f64 b] ∧ b < 18446744073709551616 := by
  obtain ⟨H, enc, fuel, x, h⟩ := h
  cases fuel with
  | zero => simp [DataW.trod] at h
  | succ n =>
    unfold DataW.trod at h
    simp only [ht] at h
    split at h <;> try contradiction
    all_goals
      rename_i heq
      try (injection heq with heq)
      first
        | (split at h <;> first | contradiction | skip)
        | skip
    all_goals simp_all [Lit.wf]
    all_goals
      rename_i hw
      obtain ⟨_, hw⟩ := hw
      rw [← heq] at hw
      exact of_decide_eq_true hw

/-- A slice of structs that came in. -/
theorem reads_recs {α : Type} [Inhabited α] {enc : α → List Value} {k : Nat} (hk : ∀ x, (enc x).length = k) (hk0 : 0 < k) {Q : α → Prop} {t e : TypeId} {cs : List Value} (hT : P.underlying t = some (.slice e)) (hc : P.cellsOf e = k) (hE : ∀ cs', cs'.length = k → Reads P W e cs' → ∃ x, cs' = enc x ∧ Q x) (h : Reads P W t cs) :
    ∃ (ao : Option Addr) (c : Nat) (xs : List α), cs = [.slice ao xs.length c] ∧ Src W (.slice ao xs.length c) k xs.length (fl enc xs) ∧ ∀ x ∈ xs, Q x := by
  obtain ⟨H, en, fuel, x, hf⟩ := h
  rcases open_slice hT hf with ⟨rfl, _⟩ | ⟨a, len, cap, m, n, D, Pl, rfl, _, hl, hm, hmm, _, hx⟩
  · exact ⟨none, 0, [], rfl, ⟨none, 0, rfl, Nat.le_refl _, Nat.zero_le _, by simp [fl], fun _ => ⟨rfl, rfl⟩, by simp⟩, by simp⟩
  · rw [hc] at hx
    have hlm : len ≤ m := by rw [hmm]; split <;> omega
    obtain ⟨V, hV⟩ := choose_lt (α := α) (n := len) (p := fun i x => W.cells? 0 (a.add (i * k)) k = some (enc x) ∧ Q x) (fun i hi => by
      obtain ⟨cs', h1, h2⟩ := hx i (by omega)
      obtain ⟨x, rfl, hq⟩ := hE cs' (World.cells?_some h1).2.1 ⟨H, en, n, _, h2⟩
      exact ⟨x, h1, hq⟩)
    have hxl : ((List.range len).map V).length = len := by simp
    refine ⟨some a, cap, (List.range len).map V, by rw [hxl], ?_, fun v hv => ?_⟩
    · rw [hxl]
      refine ⟨_, _, rfl, hl, hm, by rw [fl_len hk, hxl], by simp, fun b hb j u hj => ?_⟩
      obtain rfl : b = a := by simpa using hb.symm
      have hjl : j < len * k := by
        have := (List.getElem?_eq_some_iff.1 hj).1
        rwa [fl_len hk, hxl] at this
      have hi : j / k < len := (Nat.div_lt_iff_lt_mul hk0).2 hjl
      have hr : j % k < k := Nat.mod_lt _ hk0
      have ej : j = j / k * k + j % k := by rw [Nat.mul_comm]; exact (Nat.div_add_mod j k).symm
      rw [ej, fl_at hk (by rw [hxl]; exact hi) hr] at hj
      obtain ⟨h1, _⟩ := hV (j / k) hi
      have h2 := (World.cells?_some h1).2.2 (j % k) hr
      rw [add_add, ← ej] at h2
      rw [h2]
      simpa using hj
    · obtain ⟨i, hi, rfl⟩ := List.mem_map.1 hv
      exact (hV i (by simpa using hi)).2
/-- A slice of records that is read: where they lie. -/
theorem src_rec {w : World} {ao : Option Addr} {c k : Nat} {α : Type} {enc : α → List Value} (hk : ∀ x, (enc x).length = k) (hk0 : 0 < k) {l : List α} (h : Src w (.slice ao l.length c) k l.length (fl enc l)) (hl : 0 < l.length) :
    ∃ b o, ao = some ⟨b, o, none⟩ ∧ ∀ w', Only w w' [] → ∀ m (hm : m < l.length), w'.rangeAt b (o + m * k) (enc l[m]) := by
  obtain ⟨ao', c', he, hc1, hc2, hc3, hc4, hc5⟩ := id h
  simp only [Value.slice.injEq] at he
  obtain ⟨rfl, _, rfl⟩ := he
  have hpos : 0 < l.length * k := Nat.mul_pos hl hk0
  cases ao with
  | none => have := (hc4 rfl).1; omega
  | some ad =>
    obtain ⟨b, o, sp⟩ := ad
    have hcz := hc5 _ rfl 0 (fl enc l)[0] (by simp)
    have hsp : sp = none := by simpa [Addr.add] using World.cell?_spot hcz
    subst hsp
    refine ⟨b, o, rfl, fun w' ho m hm j v hj => ?_⟩
    have hj' : j < k := by have := (List.getElem?_eq_some_iff.1 hj).1; rwa [hk] at this
    obtain ⟨ao', c', he, q1, q2, q3, q4, q5⟩ := h.off ho (fun _ _ _ => by simp)
    simp only [Value.slice.injEq] at he
    obtain ⟨rfl, _, rfl⟩ := he
    have := q5 _ rfl (m * k + j) v (by rw [fl_at hk hm hj']; exact hj)
    rwa [Addr.add_lit, ← Nat.add_assoc] at this
end Go.Pw

