/- From a row's readings of slices of structs, and of floats, to the words of our walks. No program. -/
import Derived.Test.YtdkcmjifkhcfcaaGreatDoorOpenS
import Derived.Test.YtdkcmjifkhcfcaaGreatDoorRec
import Derived.Deep.Slices
set_option linter.all false
namespace Go.Pw
open Go.ChangeShapes Go.WideShapes Go.ChangeAt Go.RowKit Go.Deep
set_option linter.unusedVariables false

variable {P : Program} {W : World}

theorem reads_float {t : TypeId} {cs : List Value} (ht : P.underlying t = some (.float .f64)) (h : Reads P W t cs) : ∃ b, cs = [.float .f64 b] ∧ b < 18446744073709551616 := by
  obtain ⟨H, enc, fuel, x, h⟩ := h
  cases fuel with
  | zero => simp [DataW.trod] at h
  | succ n =>
    unfold DataW.trod at h
    simp only [ht] at h
    split at h <;> try contradiction
    all_goals
      rename_i heq
      try (injection heq with heq)
      first
        | (split at h <;> first | contradiction | skip)
        | skip
    all_goals simp_all [Lit.wf]
    all_goals
      rename_i hw
      obtain ⟨_, hw⟩ := hw
      rw [← heq] at hw
      exact of_decide_eq_true hw

/-- A slice of structs that came in. -/
theorem reads_recs {α : Type} [Inhabited α] {enc : α → List Value} {k : Nat} (hk : ∀ x, (enc x).length = k) (hk0 : 0 < k) {Q : α → Prop} {t e : TypeId} {cs : List Value} (hT : P.underlying t = some (.slice e)) (hc : P.cellsOf e = k) (hE : ∀ cs', cs'.length = k → Reads P W e cs' → ∃ x, cs' = enc x ∧ Q x) (h : Reads P W t cs) :
    ∃ (ao : Option Addr) (c : Nat) (xs : List α), cs = [.slice ao xs.length c] ∧ Src W (.slice ao xs.length c) k xs.length (fl enc xs) ∧ ∀ x ∈ xs, Q x := by
  obtain ⟨H, en, fuel, x, hf⟩ := h
  rcases open_slice hT hf with ⟨rfl, _⟩ | ⟨a, len, cap, m, n, D, Pl, rfl, _, hl, hm, hmm, _, hx⟩
  · exact ⟨none, 0, [], rfl, ⟨none, 0, rfl, Nat.le_refl _, Nat.zero_le _, by simp [fl], fun _ => ⟨rfl, rfl⟩, by simp⟩, by simp⟩
  · rw [hc] at hx
    have hlm : len ≤ m := by rw [hmm]; split <;> omega
    obtain ⟨V, hV⟩ := choose_lt (α := α) (n := len) (p := fun i x => W.cells? 0 (a.add (i * k)) k = some (enc x) ∧ Q x) (fun i hi => by
      obtain ⟨cs', h1, h2⟩ := hx i (by omega)
      obtain ⟨x, rfl, hq⟩ := hE cs' (World.cells?_some h1).2.1 ⟨H, en, n, _, h2⟩
      exact ⟨x, h1, hq⟩)
    have hxl : ((List.range len).map V).length = len := by simp
    refine ⟨some a, cap, (List.range len).map V, by rw [hxl], ?_, fun v hv => ?_⟩
    · rw [hxl]
      refine ⟨_, _, rfl, hl, hm, by rw [fl_len hk, hxl], by simp, fun b hb j u hj => ?_⟩
      obtain rfl : b = a := by simpa using hb.symm
      have hjl : j < len * k := by
        have := (List.getElem?_eq_some_iff.1 hj).1
        rwa [fl_len hk, hxl] at this
      have hi : j / k < len := (Nat.div_lt_iff_lt_mul hk0).2 hjl
      have hr : j % k < k := Nat.mod_lt _ hk0
      have ej : j = j / k * k + j % k := by rw [Nat.mul_comm]; exact (Nat.div_add_mod j k).symm
      rw [ej, fl_at hk (by rw [hxl]; exact hi) hr] at hj
      obtain ⟨h1, _⟩ := hV (j / k) hi
      have h2 := (World.cells?_some h1).2.2 (j % k) hr
      rw [add_add, ← ej] at h2
      rw [h2]
      simpa using hj
    · obtain ⟨i, hi, rfl⟩ := List.mem_map.1 hv
      exact (hV i (by simpa using hi)).2
/-- A slice of records that is read: where they lie. -/
theorem src_rec {w : World} {ao : Option Addr} {c k : Nat} {α : Type} {enc : α → List Value} (hk : ∀ x, (enc x).length = k) (hk0 : 0 < k) {l : List α} (h : Src w (.slice ao l.length c) k l.length (fl enc l)) (hl : 0 < l.length) :
    ∃ b o, ao = some ⟨b, o, none⟩ ∧ ∀ w', Only w w' [] → ∀ m (hm : m < l.length), w'.rangeAt b (o + m * k) (enc l[m]) := by
  obtain ⟨ao', c', he, hc1, hc2, hc3, hc4, hc5⟩ := id h
  simp only [Value.slice.injEq] at he
  obtain ⟨rfl, _, rfl⟩ := he
  have hpos : 0 < l.length * k := Nat.mul_pos hl hk0
  cases ao with
  | none => have := (hc4 rfl).1; omega
  | some ad =>
    obtain ⟨b, o, sp⟩ := ad
    have hcz := hc5 _ rfl 0 (fl enc l)[0] (by simp)
    have hsp : sp = none := by simpa [Addr.add] using World.cell?_spot hcz
    subst hsp
    refine ⟨b, o, rfl, fun w' ho m hm j v hj => ?_⟩
    have hj' : j < k := by have := (List.getElem?_eq_some_iff.1 hj).1; rwa [hk] at this
    obtain ⟨ao', c', he, q1, q2, q3, q4, q5⟩ := h.off ho (fun _ _ _ => by simp)
    simp only [Value.slice.injEq] at he
    obtain ⟨rfl, _, rfl⟩ := he
    have := q5 _ rfl (m * k + j) v (by rw [fl_at hk hm hj']; exact hj)
    rwa [Addr.add_lit, ← Nat.add_assoc] at this
end Go.Pw
