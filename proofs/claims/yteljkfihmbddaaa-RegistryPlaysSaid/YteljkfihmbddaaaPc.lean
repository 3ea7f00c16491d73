/- Several texts in one: Rg5, Rg6. -/
import Derived.Test.YteljkfihmbddaaaPb
set_option linter.unusedSimpArgs false
set_option linter.unusedVariables false
/- IndexFunc, ContainsFunc at bundles, the closures of layer 17 (registry). Printed by gen_rg5.py. -/
namespace Go.Pw
open Go.RowKit
set_option linter.unusedVariables false
/-- A slice of records that is read: where they lie. -/
theorem src_rec {w : World} {ao : Option Addr} {c k : Nat} {α : Type} {enc : α → List Value} (hk : ∀ x, (enc x).length = k) (hk0 : 0 < k) {l : List α} (h : Src w (.slice ao l.length c) k l.length (fl enc l)) (hl : 0 < l.length) :
    ∃ b o, ao = some ⟨b, o, none⟩ ∧ ∀ w', Only w w' [] → ∀ m (hm : m < l.length), w'.rangeAt b (o + m * k) (enc l[m]) := by
  obtain ⟨ao', c', he, hc1, hc2, hc3, hc4, hc5⟩ := id h
  simp only [Value.slice.injEq] at he
  obtain ⟨rfl, _, rfl⟩ := he
  have hpos : 0 < l.length * k := Nat.mul_pos hl hk0
  cases ao with
  | none => have := (hc4 rfl).1; omega
  | some ad =>
    obtain ⟨b, o, sp⟩ := ad
    have hcz := hc5 _ rfl 0 (fl enc l)[0] (by simp)
    have hsp : sp = none := by simpa [Addr.add] using World.cell?_spot hcz
    subst hsp
    refine ⟨b, o, rfl, fun w' ho m hm j v hj => ?_⟩
    have hj' : j < k := by have := (List.getElem?_eq_some_iff.1 hj).1; rwa [hk] at this
    obtain ⟨ao', c', he, q1, q2, q3, q4, q5⟩ := h.off ho (fun _ _ _ => by simp)
    simp only [Value.slice.injEq] at he
    obtain ⟨rfl, _, rfl⟩ := he
    have := q5 _ rfl (m * k + j) v (by rw [fl_at hk hm hj']; exact hj)
    rwa [Addr.add_lit, ← Nat.add_assoc] at this
end Go.Pw
namespace Go.Proofs.Yteljkfihmbddaaa
open Go.RowKit Go.Pw
set_option linter.unusedVariables false

/-- A slice of bundles that is read. -/
def RdB (w : World) (v : Value) (l : List Bu) : Prop := Pw.Src w v 10 l.length (fl bc l)
theorem RdB.off {w w' : World} {v : Value} {l : List Bu} (h : RdB w v l) (ho : Only w w' []) : RdB w' v l := Pw.Src.off h ho (fun _ _ _ => by simp)
theorem RdB.slice {w : World} {v : Value} {l : List Bu} (h : RdB w v l) : ∃ ao c, v = .slice ao l.length c := by
  obtain ⟨ao, c, h, _⟩ := h
  exact ⟨ao, c, h⟩

/-- What IndexFunc tells. -/
def idxB (pd : Bu → Bool) (l : List Bu) : Int := if l.findIdx pd < l.length then (l.findIdx pd : Int) else -1
/-- A closure's contract. -/
def Clos (F : Nat) (caps : Array Value) (pd : Bu → Bool) (w : World) : Prop := ∀ x w', Only w w' [] → Calls Try.prog F (#[.agg (bc x).toArray] ++ caps) w' fun e w'' => e = .returned (.bool (pd x)) ∧ Only w' w'' []

set_option maxRecDepth 100000 in
set_option maxHeartbeats 3200000 in
theorem bindex_has  (pd : Bu → Bool) (v : Value) (l : List Bu) (w : World) (h : RdB w v l) (hl : l.length ≤ 1000000) (hF : Clos 30 #[] pd w) :
    Calls Try.prog 38 #[v, .func (.func 30) #[] #[]] w fun e w' => e = .returned (.int .i64 (idxB pd l)) ∧ Only w w' [] := by
  obtain ⟨ao, c, rfl⟩ := h.slice
  have HS := fun (hp : 0 < l.length) => src_rec bc_len (by decide) h hp
  clear h
  go_enter Try.func38, Try.ntmps38
  go_wp2_with fail
  go_loopw [8] (fun i wr => ∃ k : Nat, i = .int .i64 k ∧ k ≤ l.length ∧ (∀ j (hj : j < k), ∀ x, l[j]? = some x → pd x = false) ∧ Only w wr []) (fun i _ => l.length - (intOf i).toNat)
  case atStart => exact ⟨0, rfl, Nat.zero_le _, fun j hj => by omega, Only.refl _ _⟩
  case round =>
    obtain ⟨k, rfl, hk, hq, ho⟩ := hrel
    have hq := Lib.hid hq
    by_cases hkl : k < l.length
    · obtain ⟨b, o, rfl, hr⟩ := HS (by omega)
      have hrng := hr wr ho k hkl
      have hlk : l[k]? = some l[k] := List.getElem?_eq_getElem hkl
      have hFx := hF l[k] wr ho
      generalize l[k] = x at *
      have hll := bc_len x
      have Hlk := Lib.hid hlk
      clear hlk HS hr
      have d1 : decide ((k : Int) < l.length) = true := by simpa using hkl
      cases hx : pd x with
      | true =>
        have hfin : Hid (idxB pd l = k) := by
          have e : l.findIdx pd = k := by
            rw [List.findIdx_eq hkl]
            have hlk := Hlk.out
            rw [List.getElem?_eq_getElem hkl] at hlk
            refine ⟨by rw [Option.some.inj hlk]; exact hx, fun j hj => ?_⟩
            have hjl : j < l.length := by omega
            exact hq.out j hj l[j] (List.getElem?_eq_getElem hjl)
          show idxB pd l = _
          rw [idxB, e, if_pos hkl]
        generalize bc x = cs at *
        go_wp2_with (refine wpList_load_mid rfl 40 _ rfl b (o + k * 10) rfl cs _ hrng Try.underlying40 (by rfl) (by rw [hll]; kernel_rfl) ?_)
        refine hFx.mono ?_
        rw [hx]
        rintro e w2 ⟨rfl, ho2⟩
        go_wp2_with fail
        go_ret
        exact ⟨by rw [hfin.out]; rfl, ho.trans ho2⟩
      | false =>
        have hq2 : Hid (∀ j (hj : j < k + 1), ∀ x, l[j]? = some x → pd x = false) := by
          intro j hj y hy
          by_cases hjk : j = k
          · subst hjk
            rw [Hlk.out] at hy
            cases hy
            exact hx
          · exact hq.out j (by omega) y hy
        generalize bc x = cs at *
        go_wp2_with (refine wpList_load_mid rfl 40 _ rfl b (o + k * 10) rfl cs _ hrng Try.underlying40 (by rfl) (by rw [hll]; kernel_rfl) ?_)
        refine hFx.mono ?_
        rw [hx]
        rintro e w2 ⟨rfl, ho2⟩
        go_wp2_with fail
        refine ⟨⟨k + 1, by simp, by omega, hq2.out, ho.trans ho2⟩, by simp [intOf]; omega⟩
    · obtain rfl : k = l.length := by omega
      have d1 : decide ((l.length : Int) < l.length) = false := by simp
      have hfin : Hid (idxB pd l = -1) := by
        show idxB pd l = _
        refine if_neg fun hh => ?_
        have := List.findIdx_getElem (w := hh)
        have h1 := hq.out _ hh l[l.findIdx pd] (List.getElem?_eq_getElem hh)
        exact absurd (this.symm.trans h1) (by simp)
      go_wp2_with fail
      go_ret
      exact ⟨by rw [hfin.out]; rfl, ho⟩

set_option maxRecDepth 100000 in
set_option maxHeartbeats 3200000 in
theorem bindex_o1 (A : Nat) (pd : Bu → Bool) (v : Value) (l : List Bu) (w : World) (h : RdB w v l) (hl : l.length ≤ 1000000) (hF : Clos 31 #[.pointer (some ⟨A, 0, none⟩)] pd w) :
    Calls Try.prog 38 #[v, .func (.func 31) #[] #[.pointer (some ⟨A, 0, none⟩)]] w fun e w' => e = .returned (.int .i64 (idxB pd l)) ∧ Only w w' [] := by
  obtain ⟨ao, c, rfl⟩ := h.slice
  have HS := fun (hp : 0 < l.length) => src_rec bc_len (by decide) h hp
  clear h
  go_enter Try.func38, Try.ntmps38
  go_wp2_with fail
  go_loopw [8] (fun i wr => ∃ k : Nat, i = .int .i64 k ∧ k ≤ l.length ∧ (∀ j (hj : j < k), ∀ x, l[j]? = some x → pd x = false) ∧ Only w wr []) (fun i _ => l.length - (intOf i).toNat)
  case atStart => exact ⟨0, rfl, Nat.zero_le _, fun j hj => by omega, Only.refl _ _⟩
  case round =>
    obtain ⟨k, rfl, hk, hq, ho⟩ := hrel
    have hq := Lib.hid hq
    by_cases hkl : k < l.length
    · obtain ⟨b, o, rfl, hr⟩ := HS (by omega)
      have hrng := hr wr ho k hkl
      have hlk : l[k]? = some l[k] := List.getElem?_eq_getElem hkl
      have hFx := hF l[k] wr ho
      generalize l[k] = x at *
      have hll := bc_len x
      have Hlk := Lib.hid hlk
      clear hlk HS hr
      have d1 : decide ((k : Int) < l.length) = true := by simpa using hkl
      cases hx : pd x with
      | true =>
        have hfin : Hid (idxB pd l = k) := by
          have e : l.findIdx pd = k := by
            rw [List.findIdx_eq hkl]
            have hlk := Hlk.out
            rw [List.getElem?_eq_getElem hkl] at hlk
            refine ⟨by rw [Option.some.inj hlk]; exact hx, fun j hj => ?_⟩
            have hjl : j < l.length := by omega
            exact hq.out j hj l[j] (List.getElem?_eq_getElem hjl)
          show idxB pd l = _
          rw [idxB, e, if_pos hkl]
        generalize bc x = cs at *
        go_wp2_with (refine wpList_load_mid rfl 40 _ rfl b (o + k * 10) rfl cs _ hrng Try.underlying40 (by rfl) (by rw [hll]; kernel_rfl) ?_)
        refine hFx.mono ?_
        rw [hx]
        rintro e w2 ⟨rfl, ho2⟩
        go_wp2_with fail
        go_ret
        exact ⟨by rw [hfin.out]; rfl, ho.trans ho2⟩
      | false =>
        have hq2 : Hid (∀ j (hj : j < k + 1), ∀ x, l[j]? = some x → pd x = false) := by
          intro j hj y hy
          by_cases hjk : j = k
          · subst hjk
            rw [Hlk.out] at hy
            cases hy
            exact hx
          · exact hq.out j (by omega) y hy
        generalize bc x = cs at *
        go_wp2_with (refine wpList_load_mid rfl 40 _ rfl b (o + k * 10) rfl cs _ hrng Try.underlying40 (by rfl) (by rw [hll]; kernel_rfl) ?_)
        refine hFx.mono ?_
        rw [hx]
        rintro e w2 ⟨rfl, ho2⟩
        go_wp2_with fail
        refine ⟨⟨k + 1, by simp, by omega, hq2.out, ho.trans ho2⟩, by simp [intOf]; omega⟩
    · obtain rfl : k = l.length := by omega
      have d1 : decide ((l.length : Int) < l.length) = false := by simp
      have hfin : Hid (idxB pd l = -1) := by
        show idxB pd l = _
        refine if_neg fun hh => ?_
        have := List.findIdx_getElem (w := hh)
        have h1 := hq.out _ hh l[l.findIdx pd] (List.getElem?_eq_getElem hh)
        exact absurd (this.symm.trans h1) (by simp)
      go_wp2_with fail
      go_ret
      exact ⟨by rw [hfin.out]; rfl, ho⟩

set_option maxRecDepth 100000 in
set_option maxHeartbeats 3200000 in
theorem bindex_o2 (A : Nat) (pd : Bu → Bool) (v : Value) (l : List Bu) (w : World) (h : RdB w v l) (hl : l.length ≤ 1000000) (hF : Clos 37 #[.pointer (some ⟨A, 0, none⟩)] pd w) :
    Calls Try.prog 38 #[v, .func (.func 37) #[] #[.pointer (some ⟨A, 0, none⟩)]] w fun e w' => e = .returned (.int .i64 (idxB pd l)) ∧ Only w w' [] := by
  obtain ⟨ao, c, rfl⟩ := h.slice
  have HS := fun (hp : 0 < l.length) => src_rec bc_len (by decide) h hp
  clear h
  go_enter Try.func38, Try.ntmps38
  go_wp2_with fail
  go_loopw [8] (fun i wr => ∃ k : Nat, i = .int .i64 k ∧ k ≤ l.length ∧ (∀ j (hj : j < k), ∀ x, l[j]? = some x → pd x = false) ∧ Only w wr []) (fun i _ => l.length - (intOf i).toNat)
  case atStart => exact ⟨0, rfl, Nat.zero_le _, fun j hj => by omega, Only.refl _ _⟩
  case round =>
    obtain ⟨k, rfl, hk, hq, ho⟩ := hrel
    have hq := Lib.hid hq
    by_cases hkl : k < l.length
    · obtain ⟨b, o, rfl, hr⟩ := HS (by omega)
      have hrng := hr wr ho k hkl
      have hlk : l[k]? = some l[k] := List.getElem?_eq_getElem hkl
      have hFx := hF l[k] wr ho
      generalize l[k] = x at *
      have hll := bc_len x
      have Hlk := Lib.hid hlk
      clear hlk HS hr
      have d1 : decide ((k : Int) < l.length) = true := by simpa using hkl
      cases hx : pd x with
      | true =>
        have hfin : Hid (idxB pd l = k) := by
          have e : l.findIdx pd = k := by
            rw [List.findIdx_eq hkl]
            have hlk := Hlk.out
            rw [List.getElem?_eq_getElem hkl] at hlk
            refine ⟨by rw [Option.some.inj hlk]; exact hx, fun j hj => ?_⟩
            have hjl : j < l.length := by omega
            exact hq.out j hj l[j] (List.getElem?_eq_getElem hjl)
          show idxB pd l = _
          rw [idxB, e, if_pos hkl]
        generalize bc x = cs at *
        go_wp2_with (refine wpList_load_mid rfl 40 _ rfl b (o + k * 10) rfl cs _ hrng Try.underlying40 (by rfl) (by rw [hll]; kernel_rfl) ?_)
        refine hFx.mono ?_
        rw [hx]
        rintro e w2 ⟨rfl, ho2⟩
        go_wp2_with fail
        go_ret
        exact ⟨by rw [hfin.out]; rfl, ho.trans ho2⟩
      | false =>
        have hq2 : Hid (∀ j (hj : j < k + 1), ∀ x, l[j]? = some x → pd x = false) := by
          intro j hj y hy
          by_cases hjk : j = k
          · subst hjk
            rw [Hlk.out] at hy
            cases hy
            exact hx
          · exact hq.out j (by omega) y hy
        generalize bc x = cs at *
        go_wp2_with (refine wpList_load_mid rfl 40 _ rfl b (o + k * 10) rfl cs _ hrng Try.underlying40 (by rfl) (by rw [hll]; kernel_rfl) ?_)
        refine hFx.mono ?_
        rw [hx]
        rintro e w2 ⟨rfl, ho2⟩
        go_wp2_with fail
        refine ⟨⟨k + 1, by simp, by omega, hq2.out, ho.trans ho2⟩, by simp [intOf]; omega⟩
    · obtain rfl : k = l.length := by omega
      have d1 : decide ((l.length : Int) < l.length) = false := by simp
      have hfin : Hid (idxB pd l = -1) := by
        show idxB pd l = _
        refine if_neg fun hh => ?_
        have := List.findIdx_getElem (w := hh)
        have h1 := hq.out _ hh l[l.findIdx pd] (List.getElem?_eq_getElem hh)
        exact absurd (this.symm.trans h1) (by simp)
      go_wp2_with fail
      go_ret
      exact ⟨by rw [hfin.out]; rfl, ho⟩

set_option maxRecDepth 100000 in
set_option maxHeartbeats 3200000 in
theorem bindex_once (A : Nat) (pd : Bu → Bool) (v : Value) (l : List Bu) (w : World) (h : RdB w v l) (hl : l.length ≤ 1000000) (hF : Clos 39 #[.pointer (some ⟨A, 0, none⟩)] pd w) :
    Calls Try.prog 38 #[v, .func (.func 39) #[] #[.pointer (some ⟨A, 0, none⟩)]] w fun e w' => e = .returned (.int .i64 (idxB pd l)) ∧ Only w w' [] := by
  obtain ⟨ao, c, rfl⟩ := h.slice
  have HS := fun (hp : 0 < l.length) => src_rec bc_len (by decide) h hp
  clear h
  go_enter Try.func38, Try.ntmps38
  go_wp2_with fail
  go_loopw [8] (fun i wr => ∃ k : Nat, i = .int .i64 k ∧ k ≤ l.length ∧ (∀ j (hj : j < k), ∀ x, l[j]? = some x → pd x = false) ∧ Only w wr []) (fun i _ => l.length - (intOf i).toNat)
  case atStart => exact ⟨0, rfl, Nat.zero_le _, fun j hj => by omega, Only.refl _ _⟩
  case round =>
    obtain ⟨k, rfl, hk, hq, ho⟩ := hrel
    have hq := Lib.hid hq
    by_cases hkl : k < l.length
    · obtain ⟨b, o, rfl, hr⟩ := HS (by omega)
      have hrng := hr wr ho k hkl
      have hlk : l[k]? = some l[k] := List.getElem?_eq_getElem hkl
      have hFx := hF l[k] wr ho
      generalize l[k] = x at *
      have hll := bc_len x
      have Hlk := Lib.hid hlk
      clear hlk HS hr
      have d1 : decide ((k : Int) < l.length) = true := by simpa using hkl
      cases hx : pd x with
      | true =>
        have hfin : Hid (idxB pd l = k) := by
          have e : l.findIdx pd = k := by
            rw [List.findIdx_eq hkl]
            have hlk := Hlk.out
            rw [List.getElem?_eq_getElem hkl] at hlk
            refine ⟨by rw [Option.some.inj hlk]; exact hx, fun j hj => ?_⟩
            have hjl : j < l.length := by omega
            exact hq.out j hj l[j] (List.getElem?_eq_getElem hjl)
          show idxB pd l = _
          rw [idxB, e, if_pos hkl]
        generalize bc x = cs at *
        go_wp2_with (refine wpList_load_mid rfl 40 _ rfl b (o + k * 10) rfl cs _ hrng Try.underlying40 (by rfl) (by rw [hll]; kernel_rfl) ?_)
        refine hFx.mono ?_
        rw [hx]
        rintro e w2 ⟨rfl, ho2⟩
        go_wp2_with fail
        go_ret
        exact ⟨by rw [hfin.out]; rfl, ho.trans ho2⟩
      | false =>
        have hq2 : Hid (∀ j (hj : j < k + 1), ∀ x, l[j]? = some x → pd x = false) := by
          intro j hj y hy
          by_cases hjk : j = k
          · subst hjk
            rw [Hlk.out] at hy
            cases hy
            exact hx
          · exact hq.out j (by omega) y hy
        generalize bc x = cs at *
        go_wp2_with (refine wpList_load_mid rfl 40 _ rfl b (o + k * 10) rfl cs _ hrng Try.underlying40 (by rfl) (by rw [hll]; kernel_rfl) ?_)
        refine hFx.mono ?_
        rw [hx]
        rintro e w2 ⟨rfl, ho2⟩
        go_wp2_with fail
        refine ⟨⟨k + 1, by simp, by omega, hq2.out, ho.trans ho2⟩, by simp [intOf]; omega⟩
    · obtain rfl : k = l.length := by omega
      have d1 : decide ((l.length : Int) < l.length) = false := by simp
      have hfin : Hid (idxB pd l = -1) := by
        show idxB pd l = _
        refine if_neg fun hh => ?_
        have := List.findIdx_getElem (w := hh)
        have h1 := hq.out _ hh l[l.findIdx pd] (List.getElem?_eq_getElem hh)
        exact absurd (this.symm.trans h1) (by simp)
      go_wp2_with fail
      go_ret
      exact ⟨by rw [hfin.out]; rfl, ho⟩

theorem idx_any (pd : Bu → Bool) (l : List Bu) : decide (0 ≤ idxB pd l) = l.any pd := by
  unfold idxB
  by_cases h : l.findIdx pd < l.length
  · rw [if_pos h]
    have : l.any pd = true := by
      rw [List.any_eq_true]
      exact ⟨_, List.getElem_mem h, List.findIdx_getElem (w := h)⟩
    rw [this]; simp
  · rw [if_neg h]
    have : l.any pd = false := by
      rw [List.any_eq_false]
      intro x hx hp
      exact h (List.findIdx_lt_length_of_exists ⟨x, hx, hp⟩)
    rw [this]; simp

set_option maxRecDepth 100000 in
theorem contains_has  (pd : Bu → Bool) (v : Value) (l : List Bu) (w : World) (h : RdB w v l) (hl : l.length ≤ 1000000) (hF : Clos 30 #[] pd w) :
    Calls Try.prog 29 #[v, .func (.func 30) #[] #[]] w fun e w' => e = .returned (.bool (l.any pd)) ∧ Only w w' [] := by
  have HI := bindex_has  pd v l w h hl hF
  rw [← idx_any]
  obtain ⟨ao, c, rfl⟩ := h.slice
  go_enter Try.func29, Try.ntmps29
  go_wp2_with fail
  refine HI.mono ?_
  rintro e w1 ⟨rfl, o1⟩
  go_wp2_with fail
  go_ret
  exact ⟨rfl, o1⟩

set_option maxRecDepth 100000 in
theorem contains_o1 (A : Nat) (pd : Bu → Bool) (v : Value) (l : List Bu) (w : World) (h : RdB w v l) (hl : l.length ≤ 1000000) (hF : Clos 31 #[.pointer (some ⟨A, 0, none⟩)] pd w) :
    Calls Try.prog 29 #[v, .func (.func 31) #[] #[.pointer (some ⟨A, 0, none⟩)]] w fun e w' => e = .returned (.bool (l.any pd)) ∧ Only w w' [] := by
  have HI := bindex_o1 A pd v l w h hl hF
  rw [← idx_any]
  obtain ⟨ao, c, rfl⟩ := h.slice
  go_enter Try.func29, Try.ntmps29
  go_wp2_with fail
  refine HI.mono ?_
  rintro e w1 ⟨rfl, o1⟩
  go_wp2_with fail
  go_ret
  exact ⟨rfl, o1⟩

set_option maxRecDepth 100000 in
theorem contains_o2 (A : Nat) (pd : Bu → Bool) (v : Value) (l : List Bu) (w : World) (h : RdB w v l) (hl : l.length ≤ 1000000) (hF : Clos 37 #[.pointer (some ⟨A, 0, none⟩)] pd w) :
    Calls Try.prog 29 #[v, .func (.func 37) #[] #[.pointer (some ⟨A, 0, none⟩)]] w fun e w' => e = .returned (.bool (l.any pd)) ∧ Only w w' [] := by
  have HI := bindex_o2 A pd v l w h hl hF
  rw [← idx_any]
  obtain ⟨ao, c, rfl⟩ := h.slice
  go_enter Try.func29, Try.ntmps29
  go_wp2_with fail
  refine HI.mono ?_
  rintro e w1 ⟨rfl, o1⟩
  go_wp2_with fail
  go_ret
  exact ⟨rfl, o1⟩

/-- The closures. -/
theorem clos_has (w : World) : Clos 30 #[] (fun x => !x.has) w := fun x w' ho => by
  have h5 : (bc x).toArray[7]? = some (.bool x.has) := rfl
  simp only [Array.append_empty]
  generalize bc x = cs at *
  go_enter Try.func30, Try.ntmps30
  go_wp2_with (refine wpList_box_new rfl 40 _ rfl (.agg cs.toArray) rfl ?_; intro X wX oX hXl hX; have hx5 := (cell_in hX 7).trans h5)
  go_ret
  exact ⟨rfl, oX⟩
def other (u d : Int) (x : Bu) : Bool := !(x.u == u && x.d == d)
theorem clos_other1 (A : Nat) (u d : Int) (w : World) (h : w.heap[A]? = some (.cells #[.int .i64 u, .int .i64 d] 30 (0, 0))) : Clos 31 #[.pointer (some ⟨A, 0, none⟩)] (other u d) w := fun x w' ho => by
  have hA := ho.at h (by simp)
  have h0 : (bc x).toArray[0]? = some (.int .i64 x.u) := rfl
  have h1 : (bc x).toArray[1]? = some (.int .i64 x.d) := rfl
  show Calls _ _ #[.agg (bc x).toArray, .pointer (some ⟨A, 0, none⟩)] _ _
  generalize bc x = cs at *
  go_enter Try.func31, Try.ntmps31
  go_wp2_with (refine wpList_box_new rfl 40 _ rfl (.agg cs.toArray) rfl ?_; intro X wX oX hXl hX; have hx0 := (cell_in hX 0).trans h0; have hx1 := (cell_in hX 1).trans h1; have hAX := oX.at hA (by simp); have ha0 := cell_two0 hAX; have ha1 := cell_two1 hAX)
  all_goals (go_ret; refine ⟨?_, oX⟩; simp_all [other])
theorem clos_other2 (A : Nat) (u d : Int) (w : World) (h : w.heap[A]? = some (.cells #[.int .i64 u, .int .i64 d] 30 (0, 0))) : Clos 37 #[.pointer (some ⟨A, 0, none⟩)] (other u d) w := fun x w' ho => by
  have hA := ho.at h (by simp)
  have h0 : (bc x).toArray[0]? = some (.int .i64 x.u) := rfl
  have h1 : (bc x).toArray[1]? = some (.int .i64 x.d) := rfl
  show Calls _ _ #[.agg (bc x).toArray, .pointer (some ⟨A, 0, none⟩)] _ _
  generalize bc x = cs at *
  go_enter Try.func37, Try.ntmps37
  go_wp2_with (refine wpList_box_new rfl 40 _ rfl (.agg cs.toArray) rfl ?_; intro X wX oX hXl hX; have hx0 := (cell_in hX 0).trans h0; have hx1 := (cell_in hX 1).trans h1; have hAX := oX.at hA (by simp); have ha0 := cell_two0 hAX; have ha1 := cell_two1 hAX)
  all_goals (go_ret; refine ⟨?_, oX⟩; simp_all [other])
theorem clos_once (A : Nat) (b : Bu) (w : World) (h : w.heap[A]? = some (.cells (bc b).toArray 40 (0, 0))) : Clos 39 #[.pointer (some ⟨A, 0, none⟩)] (fun x => x.on == b.on) w := fun x w' ho => by
  have hA := ho.at h (by simp)
  have h0 : (bc x).toArray[8]? = some (.int .u32 x.on) := rfl
  have h1 : (bc b).toArray[8]? = some (.int .u32 b.on) := rfl
  show Calls _ _ #[.agg (bc x).toArray, .pointer (some ⟨A, 0, none⟩)] _ _
  generalize bc x = cs at *
  generalize bc b = cb at *
  go_enter Try.func39, Try.ntmps39
  go_wp2_with (refine wpList_box_new rfl 40 _ rfl (.agg cs.toArray) rfl ?_; intro X wX oX hXl hX; have hx0 := (cell_in hX 8).trans h0; have hAX := oX.at hA (by simp); have ha0 := (cell_in hAX 8).trans h1)
  go_ret
  exact ⟨rfl, oX⟩
end Go.Proofs.Yteljkfihmbddaaa

/- Cells of a record in a row; Remove of layer 17 (registry). Printed by gen_rg6.py. -/
namespace Go.Pw
open Go.RowKit
set_option linter.unusedVariables false
theorem setL_mid (pre suf : List Value) : ∀ (us mid : List Value) (j : Nat), j + us.length ≤ mid.length → setL (pre ++ mid ++ suf) (pre.length + j) us = pre ++ setL mid j us ++ suf
  | [], mid, j, _ => rfl
  | u :: us, mid, j, h => by
    simp only [List.length_cons] at h
    have e : (pre ++ mid ++ suf).set (pre.length + j) u = pre ++ mid.set j u ++ suf := by
      rw [List.set_append_left _ _ (by simp; omega), List.set_append_right _ _ (by omega)]
      congr 2
      congr 1
      omega
    simp only [setL]
    rw [e, Nat.add_assoc]
    exact setL_mid pre suf us (mid.set j u) (j + 1) (by rw [List.length_set]; omega)
/-- Some cells of the k-th record are others. -/
theorem fl_cells {α : Type} {enc : α → List Value} {size : Nat} (hk : ∀ x, (enc x).length = size) {l : List α} {k : Nat} (hkl : k < l.length) (j : Nat) (us : List Value) (hj : j + us.length ≤ size) (x' : α) (hx : enc x' = setL (enc l[k]) j us) : setL (fl enc l) (k * size + j) us = fl enc (l.set k x') := by
  have e1 : fl enc l = fl enc (l.take k) ++ enc l[k] ++ fl enc (l.drop (k + 1)) := by
    conv => lhs; rw [← List.take_append_drop k l, List.drop_eq_getElem_cons hkl]
    rw [fl_app, fl_cons, List.append_assoc]
  have e2 : fl enc (l.set k x') = fl enc (l.take k) ++ enc x' ++ fl enc (l.drop (k + 1)) := by
    rw [List.set_eq_take_append_cons_drop, if_pos hkl, fl_app, fl_cons, List.append_assoc]
  have e3 : (fl enc (l.take k)).length = k * size := by rw [fl_len hk, List.length_take, Nat.min_eq_left (by omega)]
  rw [e2, hx, ← setL_mid _ _ us (enc l[k]) j (by rw [hk]; exact hj), e3, ← e1]
end Go.Pw
namespace Go.Proofs.Yteljkfihmbddaaa
open Go.RowKit Go.Pw
set_option linter.unusedVariables false

/-- The row of a line's prekeys for once. -/
def ow (x : Li) : Res := row 40 10 x.v x.os.length (fl bc x.os)
/-- The registry as it lies. -/
abbrev regR (B : Nat) (v : Value) (l : List Li) (rs : List Res) : List Res := row 76 14 v l.length (fl lc l) :: blk B [v] 72 :: many (l.map ow) :: rs

def gone (x : Li) : Li := { x with on := false, v := .slice none 0 0, os := [], ok := rfl }
def remL (l : List Li) (u d : Int) : List Li := if isL l u d = true then l.modify (placeL l u d) gone else l
theorem isL_at {l : List Li} {u d : Int} (h : isL l u d = true) : foundL l u d = true ∧ ∃ hk : placeL l u d < l.length, l[placeL l u d].on = true := by
  unfold isL at h
  rw [Bool.and_eq_true] at h
  obtain ⟨hk, _⟩ := found_at h.1
  rw [List.getElem?_eq_getElem hk] at h
  exact ⟨h.1, hk, h.2⟩
theorem not_isL {l : List Li} {u d : Int} (h : isL l u d = false) (hf : foundL l u d = true) : ∃ hk : placeL l u d < l.length, l[placeL l u d].on = false := by
  obtain ⟨hk, _⟩ := found_at hf
  refine ⟨hk, ?_⟩
  unfold isL at h
  rw [hf, List.getElem?_eq_getElem hk] at h
  simpa using h
theorem modify_set {α : Type} (l : List α) (k : Nat) (hk : k < l.length) (f : α → α) : l.modify k f = l.set k (f l[k]) := by
  apply List.ext_getElem
  · simp
  · intro i h1 h2
    rw [List.getElem_modify, List.getElem_set]
    split
    · rename_i e; subst e; rfl
    · rfl

theorem remove_nil (u d : Int) (w : World) :
    Calls Try.prog 9 #[.pointer none, wv u d] w fun e w' => e = .returned (.int .i64 2) ∧ Only w w' [] := by
  simp only [wv]
  go_enter Try.func9, Try.ntmps9
  go_wp2_with fail
  refine (find_nil u d _).mono ?_
  rintro e w1 ⟨rfl, o1⟩
  go_wp2_with fail
  go_ret
  exact ⟨rfl, (Only.alloc _ _ _).trans o1⟩

set_option maxRecDepth 100000 in
set_option maxHeartbeats 1600000 in
/-- Who isn't there isn't removed. -/
theorem remove_none {w0 : World} {rs : List Res} (B : Nat) (l : List Li) (v : Value) (u d : Int) (w : World) (h : Sep w0 w (regR B v l rs)) (hl : l.length ≤ 1000000) (hr : Rise l) (hI : isL l u d = false) :
    Calls Try.prog 9 #[.pointer (some ⟨B, 0, none⟩), wv u d] w fun e w' => e = .returned (.int .i64 2) ∧ Only w w' [] := by
  obtain ⟨ao, c, rfl⟩ := own_slice (show w.ownsRow 0 _ 14 v l.length (fl lc l) from h.head)
  have oA := Only.alloc w (.cells #[.int .i64 u, .int .i64 d] 30) []
  have sB := h.quiet oA
  clear h
  have Hfind := find_any B l _ u d _ sB hl hr
  simp only [wv] at *
  cases hf : foundL l u d with
  | true =>
    obtain ⟨hk, hon⟩ := not_isL hI hf
    rw [hf] at Hfind
    generalize placeL l u d = k at *
    obtain ⟨g, rfl, _⟩ := own_some (show (w.alloc (.cells #[.int .i64 u, .int .i64 d] 30)).ownsRow 0 _ 14 (.slice ao l.length c) l.length (fl lc l) from sB.head) (by omega)
    have hE := fun (w1 : World) (h1 : w1.ownsRow 0 76 14 (.slice (some ⟨g, 0, none⟩) l.length c) l.length (fl lc l)) => rec_cell lc_len h1 hk 2 (v := .bool l[k].on) rfl
    rw [hon] at hE
    go_enter Try.func9, Try.ntmps9
    go_wp2_with fail
    refine Hfind.mono ?_
    rintro e w1 ⟨rfl, o1⟩
    have s1 := sB.quiet o1
    have hc := hE w1 s1.head
    have hBc := cell_of_one s1.tail.head
    have oF := oA.trans o1
    clear sB hE s1 o1 oA
    go_wp2_with fail
    go_ret
    exact ⟨rfl, oF⟩
  | false =>
    rw [hf] at Hfind
    go_enter Try.func9, Try.ntmps9
    go_wp2_with fail
    refine Hfind.mono ?_
    rintro e w1 ⟨rfl, o1⟩
    have oF := oA.trans o1
    clear sB o1 oA
    go_wp2_with fail
    go_ret
    exact ⟨rfl, oF⟩

set_option maxRecDepth 100000 in
set_option maxHeartbeats 1600000 in
theorem remove_ok {w0 : World} {rs : List Res} (B : Nat) (l : List Li) (v : Value) (u d : Int) (w : World) (h : Sep w0 w (regR B v l rs)) (hl : l.length ≤ 1000000) (hr : Rise l) (hI : isL l u d = true) :
    Calls Try.prog 9 #[.pointer (some ⟨B, 0, none⟩), wv u d] w fun e w' => e = .returned (.int .i64 0) ∧ Sep w0 w' (regR B v (remL l u d) rs) := by
  obtain ⟨ao, c, rfl⟩ := own_slice (show w.ownsRow 0 _ 14 v l.length (fl lc l) from h.head)
  have oA := Only.alloc w (.cells #[.int .i64 u, .int .i64 d] 30) []
  have sB := h.quiet oA
  clear h
  have Hfind := find_any B l _ u d _ sB hl hr
  have e1 : remL l u d = l.modify (placeL l u d) gone := if_pos hI
  obtain ⟨hf, hk, hon⟩ := isL_at hI
  rw [e1, modify_set _ _ hk]
  simp only [wv] at *
  rw [hf] at Hfind
  clear hf e1 hI
  generalize placeL l u d = k at *
  obtain ⟨g, rfl, _⟩ := own_some (show (w.alloc (.cells #[.int .i64 u, .int .i64 d] 30)).ownsRow 0 _ 14 (.slice ao l.length c) l.length (fl lc l) from sB.head) (by omega)
  have hE := fun (w1 : World) (h1 : w1.ownsRow 0 76 14 (.slice (some ⟨g, 0, none⟩) l.length c) l.length (fl lc l)) => rec_cell lc_len h1 hk 2 (v := .bool l[k].on) rfl
  rw [hon] at hE
  have hset : Hid (setL (setL (fl lc l) (k * 14 + 2) [.bool false]) (k * 14 + 13) [.slice none 0 0] = fl lc (l.set k (gone l[k]))) := by
    show _ = _
    rw [fl_cells lc_len hk 2 [.bool false] (by decide) { l[k] with on := false } rfl, fl_cells lc_len (by rw [List.length_set]; exact hk) 13 [.slice none 0 0] (by decide) (gone l[k]) (by rw [List.getElem_set_self]; rfl), List.set_set]
  have hmany : Hid ((l.map ow).set k (ow (gone l[k])) = (l.set k (gone l[k])).map ow) := by
    show _ = _
    rw [List.map_set]
  have hpk : (l.map ow)[k]? = some (ow l[k]) := by rw [List.getElem?_map, List.getElem?_eq_getElem hk]; rfl
  have hlen : (l.set k (gone l[k])).length = l.length := List.length_set ..
  simp only [regR]
  rw [show fl lc (l.set k (gone l[k])) = setL (setL (fl lc l) (k * 14 + 2) [.bool false]) (k * 14 + 13) [.slice none 0 0] from hset.out.symm, hlen]
  have hfl : (fl lc l).length = l.length * 14 := fl_len lc_len l
  clear hset hlen
  generalize l[k] = x at *
  go_enter Try.func9, Try.ntmps9
  go_wp2_with fail
  refine Hfind.mono ?_
  rintro e w1 ⟨rfl, o1⟩
  have s1 := sB.quiet o1
  have hc := hE w1 s1.head
  have hB : w1.heap[B]? = some (.cells #[.slice (some ⟨g, 0, none⟩) l.length c] 72 (0, 0)) := s1.tail.head
  have hBc := cell_of_one hB
  have hBg : B ∉ [g] := fun hk => s1.two_at (i := 0) (j := 1) rfl rfl (by decide) B hk (by simp [blk])
  clear sB hE o1 oA hon
  go_upto_region 4 with fail
  have sD := s1.quiet (Only.drew w1 [])
  clear s1
  refine wp_region_t (S := fun w' => Only w1.drew w' [g]) 15 (by kernel_rfl) (by kernel_rfl) (Only.refl _ _) (fun hZ hHeld => ?_)
  refine' wpAnyT_take (i := 0) (v := _) hZ (op_at' rfl) (by rfl) (by kernel_rfl) (by kernel_rfl) (by kernel_rfl) (by kernel_rfl) (fun _ _ _ h => h) (Or.inl ⟨by rfl, ?hy1⟩) (by assumption) ?rest1
  case hy1 =>
    intro w' hS
    go_simp
    try with_reducible rfl
  try simp only [Act.put, List.setIfInBounds_toArray, List.set_cons_zero, List.set_cons_succ]
  refine' wpAnyT_take (i := 1) (v := _) hZ (op_at' rfl) (by rfl) (by kernel_rfl) (by kernel_rfl) (by kernel_rfl) (by kernel_rfl) (fun _ _ _ h => h) (Or.inl ⟨by rfl, ?hy2⟩) (by assumption) ?rest2
  case hy2 =>
    intro w' hS
    have hc0 := cell_of_one (hS.at (show w1.drew.heap[B]? = _ from hB) hBg)
    go_simp
    try with_reducible rfl
  try simp only [Act.put, List.setIfInBounds_toArray, List.set_cons_zero, List.set_cons_succ]
  refine' wpAnyT_take (i := 2) (v := _) hZ (op_at' rfl) (by rfl) (by kernel_rfl) (by kernel_rfl) (by kernel_rfl) (by kernel_rfl) (fun _ _ _ h => h) (Or.inl ⟨by rfl, ?hy3⟩) (by assumption) ?rest3
  case hy3 =>
    intro w' hS
    go_simp
    try with_reducible rfl
  try simp only [Act.put, List.setIfInBounds_toArray, List.set_cons_zero, List.set_cons_succ]
  refine' wpAnyT_take (i := 3) (v := _) hZ (op_at' rfl) (by rfl) (by kernel_rfl) (by kernel_rfl) (by kernel_rfl) (by kernel_rfl) (fun _ _ _ h => h) (Or.inl ⟨by rfl, ?hy4⟩) (by assumption) ?rest4
  case hy4 =>
    intro w' hS
    have hc0 := cell_of_one (hS.at (show w1.drew.heap[B]? = _ from hB) hBg)
    go_simp
    try with_reducible rfl
  try simp only [Act.put, List.setIfInBounds_toArray, List.set_cons_zero, List.set_cons_succ]
  refine' wpAnyT_take (i := 4) (v := _) hZ (op_at' rfl) (by rfl) (by kernel_rfl) (by kernel_rfl) (by kernel_rfl) (by kernel_rfl) (fun _ _ _ h => h) (Or.inl ⟨by rfl, ?hy5⟩) (by assumption) ?rest5
  case hy5 =>
    intro w' hS
    go_simp
    try with_reducible rfl
  try simp only [Act.put, List.setIfInBounds_toArray, List.set_cons_zero, List.set_cons_succ]
  refine' wpAnyT_take (i := 5) (v := _) hZ (op_at' rfl) (by rfl) (by kernel_rfl) (by kernel_rfl) (by kernel_rfl) (by kernel_rfl) (fun _ _ _ h => h) (Or.inl ⟨by rfl, ?hy6⟩) (by assumption) ?rest6
  case hy6 =>
    intro w' hS
    go_simp
    try with_reducible rfl
  try simp only [Act.put, List.setIfInBounds_toArray, List.set_cons_zero, List.set_cons_succ]
  refine' wpAnyT_take (i := 6) (v := _) hZ (op_at' rfl) (by rfl) (by kernel_rfl) (by kernel_rfl) (by kernel_rfl) (by kernel_rfl) (fun _ _ _ h => h) (Or.inl ⟨by rfl, ?hy7⟩) (by assumption) ?rest7
  case hy7 =>
    intro w' hS
    have hc0 := cell_of_one (hS.at (show w1.drew.heap[B]? = _ from hB) hBg)
    go_simp
    try with_reducible rfl
  try simp only [Act.put, List.setIfInBounds_toArray, List.set_cons_zero, List.set_cons_succ]
  refine' wpAnyT_take (i := 7) (v := _) hZ (op_at' rfl) (by rfl) (by kernel_rfl) (by kernel_rfl) (by kernel_rfl) (by kernel_rfl) (fun _ _ _ h => h) (Or.inl ⟨by rfl, ?hy8⟩) (by assumption) ?rest8
  case hy8 =>
    intro w' hS
    go_simp
    try with_reducible rfl
  try simp only [Act.put, List.setIfInBounds_toArray, List.set_cons_zero, List.set_cons_succ]
  refine' wpAnyT_take (i := 8) (v := _) hZ (op_at' rfl) (by rfl) (by kernel_rfl) (by kernel_rfl) (by kernel_rfl) (by kernel_rfl) (fun _ _ _ h => h) (Or.inl ⟨by rfl, ?hy9⟩) (by assumption) ?rest9
  case hy9 =>
    intro w' hS
    have hc0 := cell_of_one (hS.at (show w1.drew.heap[B]? = _ from hB) hBg)
    go_simp
    try with_reducible rfl
  try simp only [Act.put, List.setIfInBounds_toArray, List.set_cons_zero, List.set_cons_succ]
  refine' wpAnyT_take (i := 9) (v := _) hZ (op_at' rfl) (by rfl) (by kernel_rfl) (by kernel_rfl) (by kernel_rfl) (by kernel_rfl) (fun _ _ _ h => h) (Or.inl ⟨by rfl, ?hy10⟩) (by assumption) ?rest10
  case hy10 =>
    intro w' hS
    go_simp
    try with_reducible rfl
  try simp only [Act.put, List.setIfInBounds_toArray, List.set_cons_zero, List.set_cons_succ]
  refine' wpAnyT_take (i := 10) (v := _) hZ (op_at' rfl) (by rfl) (by kernel_rfl) (by kernel_rfl) (by kernel_rfl) (by kernel_rfl) (fun _ _ _ h => h) (Or.inl ⟨by rfl, ?hy11⟩) (by assumption) ?rest11
  case hy11 =>
    intro w' hS
    go_simp
    try with_reducible rfl
  try simp only [Act.put, List.setIfInBounds_toArray, List.set_cons_zero, List.set_cons_succ]
  refine' wpAnyT_take (i := 11) (v := _) hZ (op_at' rfl) (by rfl) (by kernel_rfl) (by kernel_rfl) (by kernel_rfl) (by kernel_rfl) (fun _ _ _ h => h) (Or.inl ⟨by rfl, ?hy12⟩) (by assumption) ?rest12
  case hy12 =>
    intro w' hS
    go_simp
    try with_reducible rfl
  try simp only [Act.put, List.setIfInBounds_toArray, List.set_cons_zero, List.set_cons_succ]
  refine wpAnyT_one (i := 12) (by kernel_rfl) (op_at' rfl) (fun K hK => ?_)
  refine step_store_rec (by rfl) 4 _ _ (by rfl) g (k * 14 + 2) (.bool false) [.bool false] (by rfl) 76 14 l.length c _ (by rfl) (by rfl) sD (by simp; omega) (by kernel_rfl) (by simp [Value.oneCell']) (fun w12 o12 s12 => ?_)
  go_wp2_with fail
  refine hK.out _ _ o12 (fun hHeld => ?_)
  clear hK K
  try simp only [Act.put, List.setIfInBounds_toArray, List.set_cons_zero, List.set_cons_succ]
  refine' wpAnyT_take (i := 13) (v := _) hZ (op_at' rfl) (by rfl) (by kernel_rfl) (by kernel_rfl) (by kernel_rfl) (by kernel_rfl) (fun _ _ _ h => h) (Or.inl ⟨by rfl, ?hy13⟩) (by assumption) ?rest13
  case hy13 =>
    intro w' hS
    go_simp
    try with_reducible rfl
  try simp only [Act.put, List.setIfInBounds_toArray, List.set_cons_zero, List.set_cons_succ]
  refine' wpAnyT_take (i := 14) (v := _) hZ (op_at' rfl) (by rfl) (by kernel_rfl) (by kernel_rfl) (by kernel_rfl) (by kernel_rfl) (fun _ _ _ h => h) (Or.inl ⟨by rfl, ?hy14⟩) (by assumption) ?rest14
  case hy14 =>
    intro w' hS
    go_simp
    try with_reducible rfl
  try simp only [Act.put, List.setIfInBounds_toArray, List.set_cons_zero, List.set_cons_succ]
  refine wpAnyT_last (by kernel_rfl) (op_at' rfl) (by kernel_rfl) (fun K hK => ?_)
  refine step_store_rec (by rfl) 42 _ _ (by rfl) g (k * 14 + 13) (.slice none 0 0) [.slice none 0 0] (by rfl) 76 14 l.length c _ (by rfl) (by rfl) s12 (by simp; omega) (by kernel_rfl) (by simp [Value.oneCell']) (fun w15 o15 s15 => ?_)
  go_wp2_with fail
  refine hK.out _ _ ?_
  clear hK K
  try simp only [Act.put, List.setIfInBounds_toArray, List.set_cons_zero, List.set_cons_succ]
  have q1 := ((s15.sel 3 [2, 0, 1]).pick k hpk)
  have q2 : Sep w0 w15 (ow (gone x) :: many ((l.map ow).eraseIdx k) :: row 76 14 (.slice (some ⟨g, 0, none⟩) l.length c) l.length (setL (setL (fl lc l) (k * 14 + 2) [.bool false]) (k * 14 + 13) [.slice none 0 0]) :: blk B [.slice (some ⟨g, 0, none⟩) l.length c] 72 :: rs) :=
    q1.step (L := []) (Only.refl _ _) (by simp) (World.ownsRow_nil _ _ _ _) (fun k hk => by simp [ow, gone, row, Value.ownBlock] at hk)
  have q3 := q2.putk k (by simpa using hk)
  rw [hmany.out] at q3
  have q4 : Sep w0 w15 (row 76 14 (.slice (some ⟨g, 0, none⟩) l.length c) l.length (setL (setL (fl lc l) (k * 14 + 2) [.bool false]) (k * 14 + 13) [.slice none 0 0]) :: blk B [.slice (some ⟨g, 0, none⟩) l.length c] 72 :: many ((l.set k (gone x)).map ow) :: rs) := q3.sel 3 [1, 2, 0]
  clear q1 q2 q3 s12 s15 hmany hpk
  go_wp2_with fail
  go_ret
  exact ⟨rfl, q4⟩
end Go.Proofs.Yteljkfihmbddaaa

