/- Several texts in one: Rg5, Rg6. -/
import Derived.Test.YticojdepepkdlaaPb
set_option linter.unusedSimpArgs false
set_option linter.unusedVariables false
/- IndexFunc, ContainsFunc at bundles, the closures of layer 17 (registry). Printed by gen_rg5.py. -/
namespace Go.Pw
open Go.RowKit
set_option linter.unusedVariables false
/-- A slice of records that is read: where they lie. -/
theorem src_rec {w : World} {ao : Option Addr} {c k : Nat} {α : Type} {enc : α → List Value} (hk : ∀ x, (enc x).length = k) (hk0 : 0 < k) {l : List α} (h : Src w (.slice ao l.length c) k l.length (fl enc l)) (hl : 0 < l.length) :
    ∃ b o, ao = some ⟨b, o, none⟩ ∧ ∀ w', Only w w' [] → ∀ m (hm : m < l.length), w'.rangeAt b (o + m * k) (enc l[m]) := by
  obtain ⟨ao', c', he, hc1, hc2, hc3, hc4, hc5⟩ := id h
  simp only [Value.slice.injEq] at he
  obtain ⟨rfl, _, rfl⟩ := he
  have hpos : 0 < l.length * k := Nat.mul_pos hl hk0
  cases ao with
  | none => have := (hc4 rfl).1; omega
  | some ad =>
    obtain ⟨b, o, sp⟩ := ad
    have hcz := hc5 _ rfl 0 (fl enc l)[0] (by simp)
    have hsp : sp = none := by simpa [Addr.add] using World.cell?_spot hcz
    subst hsp
    refine ⟨b, o, rfl, fun w' ho m hm j v hj => ?_⟩
    have hj' : j < k := by have := (List.getElem?_eq_some_iff.1 hj).1; rwa [hk] at this
    obtain ⟨ao', c', he, q1, q2, q3, q4, q5⟩ := h.off ho (fun _ _ _ => by simp)
    simp only [Value.slice.injEq] at he
    obtain ⟨rfl, _, rfl⟩ := he
    have := q5 _ rfl (m * k + j) v (by rw [fl_at hk hm hj']; exact hj)
    rwa [Addr.add_lit, ← Nat.add_assoc] at this
end Go.Pw
namespace Go.Proofs.Yticojdepepkdlaa
open Go.RowKit Go.Pw
set_option linter.unusedVariables false

/-- A slice of bundles that is read. -/
def RdB (w : World) (v : Value) (l : List Bu) : Prop := Pw.Src w v 10 l.length (fl bc l)
theorem RdB.off {w w' : World} {v : Value} {l : List Bu} (h : RdB w v l) (ho : Only w w' []) : RdB w' v l := Pw.Src.off h ho (fun _ _ _ => by simp)
theorem RdB.slice {w : World} {v : Value} {l : List Bu} (h : RdB w v l) : ∃ ao c, v = .slice ao l.length c := by
  obtain ⟨ao, c, h, _⟩ := h
  exact ⟨ao, c, h⟩

/-- What IndexFunc tells. -/
def idxB (pd : Bu → Bool) (l : List Bu) : Int := if l.findIdx pd < l.length then (l.findIdx pd : Int) else -1
/-- A closure's contract. -/
def Clos (F : Nat) (caps : Array Value) (pd : Bu → Bool) (w : World) : Prop := ∀ x w', Only w w' [] → Calls Try.prog F (#[.agg (bc x).toArray] ++ caps) w' fun e w'' => e = .returned (.bool (pd x)) ∧ Only w' w'' []

set_option maxRecDepth 100000 in
set_option maxHeartbeats 3200000 in
theorem bindex_has  (pd : Bu → Bool) (v : Value) (l : List Bu) (w : World) (h : RdB w v l) (hl : l.length ≤ 1000000) (hF : Clos 31 #[] pd w) :
    Calls Try.prog 51 #[v, .func (.func 31) #[] #[]] w fun e w' => e = .returned (.int .i64 (idxB pd l)) ∧ Only w w' [] := by
  obtain ⟨ao, c, rfl⟩ := h.slice
  have HS := fun (hp : 0 < l.length) => src_rec bc_len (by decide) h hp
  clear h
  go_enter Try.func51, Try.ntmps51
  go_wp2_with fail
  go_loopw [8] (fun i wr => ∃ k : Nat, i = .int .i64 k ∧ k ≤ l.length ∧ (∀ j (hj : j < k), ∀ x, l[j]? = some x → pd x = false) ∧ Only w wr []) (fun i _ => l.length - (intOf i).toNat)
  case atStart => exact ⟨0, rfl, Nat.zero_le _, fun j hj => by omega, Only.refl _ _⟩
  case round =>
    obtain ⟨k, rfl, hk, hq, ho⟩ := hrel
    have hq := Lib.hid hq
    by_cases hkl : k < l.length
    · obtain ⟨b, o, rfl, hr⟩ := HS (by omega)
      have hrng := hr wr ho k hkl
      have hlk : l[k]? = some l[k] := List.getElem?_eq_getElem hkl
      have hFx := hF l[k] wr ho
      generalize l[k] = x at *
      have hll := bc_len x
      have Hlk := Lib.hid hlk
      clear hlk HS hr
      have d1 : decide ((k : Int) < l.length) = true := by simpa using hkl
      cases hx : pd x with
      | true =>
        have hfin : Hid (idxB pd l = k) := by
          have e : l.findIdx pd = k := by
            rw [List.findIdx_eq hkl]
            have hlk := Hlk.out
            rw [List.getElem?_eq_getElem hkl] at hlk
            refine ⟨by rw [Option.some.inj hlk]; exact hx, fun j hj => ?_⟩
            have hjl : j < l.length := by omega
            exact hq.out j hj l[j] (List.getElem?_eq_getElem hjl)
          show idxB pd l = _
          rw [idxB, e, if_pos hkl]
        generalize bc x = cs at *
        go_wp2_with (refine wpList_load_mid rfl 63 _ rfl b (o + k * 10) rfl cs _ hrng Try.underlying63 (by rfl) (by rw [hll]; kernel_rfl) ?_)
        refine hFx.mono ?_
        rw [hx]
        rintro e w2 ⟨rfl, ho2⟩
        go_wp2_with fail
        go_ret
        exact ⟨by rw [hfin.out]; rfl, ho.trans ho2⟩
      | false =>
        have hq2 : Hid (∀ j (hj : j < k + 1), ∀ x, l[j]? = some x → pd x = false) := by
          intro j hj y hy
          by_cases hjk : j = k
          · subst hjk
            rw [Hlk.out] at hy
            cases hy
            exact hx
          · exact hq.out j (by omega) y hy
        generalize bc x = cs at *
        go_wp2_with (refine wpList_load_mid rfl 63 _ rfl b (o + k * 10) rfl cs _ hrng Try.underlying63 (by rfl) (by rw [hll]; kernel_rfl) ?_)
        refine hFx.mono ?_
        rw [hx]
        rintro e w2 ⟨rfl, ho2⟩
        go_wp2_with fail
        refine ⟨⟨k + 1, by simp, by omega, hq2.out, ho.trans ho2⟩, by simp [intOf]; omega⟩
    · obtain rfl : k = l.length := by omega
      have d1 : decide ((l.length : Int) < l.length) = false := by simp
      have hfin : Hid (idxB pd l = -1) := by
        show idxB pd l = _
        refine if_neg fun hh => ?_
        have := List.findIdx_getElem (w := hh)
        have h1 := hq.out _ hh l[l.findIdx pd] (List.getElem?_eq_getElem hh)
        exact absurd (this.symm.trans h1) (by simp)
      go_wp2_with fail
      go_ret
      exact ⟨by rw [hfin.out]; rfl, ho⟩

set_option maxRecDepth 100000 in
set_option maxHeartbeats 3200000 in
theorem bindex_o1 (A : Nat) (pd : Bu → Bool) (v : Value) (l : List Bu) (w : World) (h : RdB w v l) (hl : l.length ≤ 1000000) (hF : Clos 32 #[.pointer (some ⟨A, 0, none⟩)] pd w) :
    Calls Try.prog 51 #[v, .func (.func 32) #[] #[.pointer (some ⟨A, 0, none⟩)]] w fun e w' => e = .returned (.int .i64 (idxB pd l)) ∧ Only w w' [] := by
  obtain ⟨ao, c, rfl⟩ := h.slice
  have HS := fun (hp : 0 < l.length) => src_rec bc_len (by decide) h hp
  clear h
  go_enter Try.func51, Try.ntmps51
  go_wp2_with fail
  go_loopw [8] (fun i wr => ∃ k : Nat, i = .int .i64 k ∧ k ≤ l.length ∧ (∀ j (hj : j < k), ∀ x, l[j]? = some x → pd x = false) ∧ Only w wr []) (fun i _ => l.length - (intOf i).toNat)
  case atStart => exact ⟨0, rfl, Nat.zero_le _, fun j hj => by omega, Only.refl _ _⟩
  case round =>
    obtain ⟨k, rfl, hk, hq, ho⟩ := hrel
    have hq := Lib.hid hq
    by_cases hkl : k < l.length
    · obtain ⟨b, o, rfl, hr⟩ := HS (by omega)
      have hrng := hr wr ho k hkl
      have hlk : l[k]? = some l[k] := List.getElem?_eq_getElem hkl
      have hFx := hF l[k] wr ho
      generalize l[k] = x at *
      have hll := bc_len x
      have Hlk := Lib.hid hlk
      clear hlk HS hr
      have d1 : decide ((k : Int) < l.length) = true := by simpa using hkl
      cases hx : pd x with
      | true =>
        have hfin : Hid (idxB pd l = k) := by
          have e : l.findIdx pd = k := by
            rw [List.findIdx_eq hkl]
            have hlk := Hlk.out
            rw [List.getElem?_eq_getElem hkl] at hlk
            refine ⟨by rw [Option.some.inj hlk]; exact hx, fun j hj => ?_⟩
            have hjl : j < l.length := by omega
            exact hq.out j hj l[j] (List.getElem?_eq_getElem hjl)
          show idxB pd l = _
          rw [idxB, e, if_pos hkl]
        generalize bc x = cs at *
        go_wp2_with (refine wpList_load_mid rfl 63 _ rfl b (o + k * 10) rfl cs _ hrng Try.underlying63 (by rfl) (by rw [hll]; kernel_rfl) ?_)
        refine hFx.mono ?_
        rw [hx]
        rintro e w2 ⟨rfl, ho2⟩
        go_wp2_with fail
        go_ret
        exact ⟨by rw [hfin.out]; rfl, ho.trans ho2⟩
      | false =>
        have hq2 : Hid (∀ j (hj : j < k + 1), ∀ x, l[j]? = some x → pd x = false) := by
          intro j hj y hy
          by_cases hjk : j = k
          · subst hjk
            rw [Hlk.out] at hy
            cases hy
            exact hx
          · exact hq.out j (by omega) y hy
        generalize bc x = cs at *
        go_wp2_with (refine wpList_load_mid rfl 63 _ rfl b (o + k * 10) rfl cs _ hrng Try.underlying63 (by rfl) (by rw [hll]; kernel_rfl) ?_)
        refine hFx.mono ?_
        rw [hx]
        rintro e w2 ⟨rfl, ho2⟩
        go_wp2_with fail
        refine ⟨⟨k + 1, by simp, by omega, hq2.out, ho.trans ho2⟩, by simp [intOf]; omega⟩
    · obtain rfl : k = l.length := by omega
      have d1 : decide ((l.length : Int) < l.length) = false := by simp
      have hfin : Hid (idxB pd l = -1) := by
        show idxB pd l = _
        refine if_neg fun hh => ?_
        have := List.findIdx_getElem (w := hh)
        have h1 := hq.out _ hh l[l.findIdx pd] (List.getElem?_eq_getElem hh)
        exact absurd (this.symm.trans h1) (by simp)
      go_wp2_with fail
      go_ret
      exact ⟨by rw [hfin.out]; rfl, ho⟩

set_option maxRecDepth 100000 in
set_option maxHeartbeats 3200000 in
theorem bindex_o2 (A : Nat) (pd : Bu → Bool) (v : Value) (l : List Bu) (w : World) (h : RdB w v l) (hl : l.length ≤ 1000000) (hF : Clos 50 #[.pointer (some ⟨A, 0, none⟩)] pd w) :
    Calls Try.prog 51 #[v, .func (.func 50) #[] #[.pointer (some ⟨A, 0, none⟩)]] w fun e w' => e = .returned (.int .i64 (idxB pd l)) ∧ Only w w' [] := by
  obtain ⟨ao, c, rfl⟩ := h.slice
  have HS := fun (hp : 0 < l.length) => src_rec bc_len (by decide) h hp
  clear h
  go_enter Try.func51, Try.ntmps51
  go_wp2_with fail
  go_loopw [8] (fun i wr => ∃ k : Nat, i = .int .i64 k ∧ k ≤ l.length ∧ (∀ j (hj : j < k), ∀ x, l[j]? = some x → pd x = false) ∧ Only w wr []) (fun i _ => l.length - (intOf i).toNat)
  case atStart => exact ⟨0, rfl, Nat.zero_le _, fun j hj => by omega, Only.refl _ _⟩
  case round =>
    obtain ⟨k, rfl, hk, hq, ho⟩ := hrel
    have hq := Lib.hid hq
    by_cases hkl : k < l.length
    · obtain ⟨b, o, rfl, hr⟩ := HS (by omega)
      have hrng := hr wr ho k hkl
      have hlk : l[k]? = some l[k] := List.getElem?_eq_getElem hkl
      have hFx := hF l[k] wr ho
      generalize l[k] = x at *
      have hll := bc_len x
      have Hlk := Lib.hid hlk
      clear hlk HS hr
      have d1 : decide ((k : Int) < l.length) = true := by simpa using hkl
      cases hx : pd x with
      | true =>
        have hfin : Hid (idxB pd l = k) := by
          have e : l.findIdx pd = k := by
            rw [List.findIdx_eq hkl]
            have hlk := Hlk.out
            rw [List.getElem?_eq_getElem hkl] at hlk
            refine ⟨by rw [Option.some.inj hlk]; exact hx, fun j hj => ?_⟩
            have hjl : j < l.length := by omega
            exact hq.out j hj l[j] (List.getElem?_eq_getElem hjl)
          show idxB pd l = _
          rw [idxB, e, if_pos hkl]
        generalize bc x = cs at *
        go_wp2_with (refine wpList_load_mid rfl 63 _ rfl b (o + k * 10) rfl cs _ hrng Try.underlying63 (by rfl) (by rw [hll]; kernel_rfl) ?_)
        refine hFx.mono ?_
        rw [hx]
        rintro e w2 ⟨rfl, ho2⟩
        go_wp2_with fail
        go_ret
        exact ⟨by rw [hfin.out]; rfl, ho.trans ho2⟩
      | false =>
        have hq2 : Hid (∀ j (hj : j < k + 1), ∀ x, l[j]? = some x → pd x = false) := by
          intro j hj y hy
          by_cases hjk : j = k
          · subst hjk
            rw [Hlk.out] at hy
            cases hy
            exact hx
          · exact hq.out j (by omega) y hy
        generalize bc x = cs at *
        go_wp2_with (refine wpList_load_mid rfl 63 _ rfl b (o + k * 10) rfl cs _ hrng Try.underlying63 (by rfl) (by rw [hll]; kernel_rfl) ?_)
        refine hFx.mono ?_
        rw [hx]
        rintro e w2 ⟨rfl, ho2⟩
        go_wp2_with fail
        refine ⟨⟨k + 1, by simp, by omega, hq2.out, ho.trans ho2⟩, by simp [intOf]; omega⟩
    · obtain rfl : k = l.length := by omega
      have d1 : decide ((l.length : Int) < l.length) = false := by simp
      have hfin : Hid (idxB pd l = -1) := by
        show idxB pd l = _
        refine if_neg fun hh => ?_
        have := List.findIdx_getElem (w := hh)
        have h1 := hq.out _ hh l[l.findIdx pd] (List.getElem?_eq_getElem hh)
        exact absurd (this.symm.trans h1) (by simp)
      go_wp2_with fail
      go_ret
      exact ⟨by rw [hfin.out]; rfl, ho⟩

set_option maxRecDepth 100000 in
set_option maxHeartbeats 3200000 in
theorem bindex_once (A : Nat) (pd : Bu → Bool) (v : Value) (l : List Bu) (w : World) (h : RdB w v l) (hl : l.length ≤ 1000000) (hF : Clos 52 #[.pointer (some ⟨A, 0, none⟩)] pd w) :
    Calls Try.prog 51 #[v, .func (.func 52) #[] #[.pointer (some ⟨A, 0, none⟩)]] w fun e w' => e = .returned (.int .i64 (idxB pd l)) ∧ Only w w' [] := by
  obtain ⟨ao, c, rfl⟩ := h.slice
  have HS := fun (hp : 0 < l.length) => src_rec bc_len (by decide) h hp
  clear h
  go_enter Try.func51, Try.ntmps51
  go_wp2_with fail
  go_loopw [8] (fun i wr => ∃ k : Nat, i = .int .i64 k ∧ k ≤ l.length ∧ (∀ j (hj : j < k), ∀ x, l[j]? = some x → pd x = false) ∧ Only w wr []) (fun i _ => l.length - (intOf i).toNat)
  case atStart => exact ⟨0, rfl, Nat.zero_le _, fun j hj => by omega, Only.refl _ _⟩
  case round =>
    obtain ⟨k, rfl, hk, hq, ho⟩ := hrel
    have hq := Lib.hid hq
    by_cases hkl : k < l.length
    · obtain ⟨b, o, rfl, hr⟩ := HS (by omega)
      have hrng := hr wr ho k hkl
      have hlk : l[k]? = some l[k] := List.getElem?_eq_getElem hkl
      have hFx := hF l[k] wr ho
      generalize l[k] = x at *
      have hll := bc_len x
      have Hlk := Lib.hid hlk
      clear hlk HS hr
      have d1 : decide ((k : Int) < l.length) = true := by simpa using hkl
      cases hx : pd x with
      | true =>
        have hfin : Hid (idxB pd l = k) := by
          have e : l.findIdx pd = k := by
            rw [List.findIdx_eq hkl]
            have hlk := Hlk.out
            rw [List.getElem?_eq_getElem hkl] at hlk
            refine ⟨by rw [Option.some.inj hlk]; exact hx, fun j hj => ?_⟩
            have hjl : j < l.length := by omega
            exact hq.out j hj l[j] (List.getElem?_eq_getElem hjl)
          show idxB pd l = _
          rw [idxB, e, if_pos hkl]
        generalize bc x = cs at *
        go_wp2_with (refine wpList_load_mid rfl 63 _ rfl b (o + k * 10) rfl cs _ hrng Try.underlying63 (by rfl) (by rw [hll]; kernel_rfl) ?_)
        refine hFx.mono ?_
        rw [hx]
        rintro e w2 ⟨rfl, ho2⟩
        go_wp2_with fail
        go_ret
        exact ⟨by rw [hfin.out]; rfl, ho.trans ho2⟩
      | false =>
        have hq2 : Hid (∀ j (hj : j < k + 1), ∀ x, l[j]? = some x → pd x = false) := by
          intro j hj y hy
          by_cases hjk : j = k
          · subst hjk
            rw [Hlk.out] at hy
            cases hy
            exact hx
          · exact hq.out j (by omega) y hy
        generalize bc x = cs at *
        go_wp2_with (refine wpList_load_mid rfl 63 _ rfl b (o + k * 10) rfl cs _ hrng Try.underlying63 (by rfl) (by rw [hll]; kernel_rfl) ?_)
        refine hFx.mono ?_
        rw [hx]
        rintro e w2 ⟨rfl, ho2⟩
        go_wp2_with fail
        refine ⟨⟨k + 1, by simp, by omega, hq2.out, ho.trans ho2⟩, by simp [intOf]; omega⟩
    · obtain rfl : k = l.length := by omega
      have d1 : decide ((l.length : Int) < l.length) = false := by simp
      have hfin : Hid (idxB pd l = -1) := by
        show idxB pd l = _
        refine if_neg fun hh => ?_
        have := List.findIdx_getElem (w := hh)
        have h1 := hq.out _ hh l[l.findIdx pd] (List.getElem?_eq_getElem hh)
        exact absurd (this.symm.trans h1) (by simp)
      go_wp2_with fail
      go_ret
      exact ⟨by rw [hfin.out]; rfl, ho⟩

theorem idx_any (pd : Bu → Bool) (l : List Bu) : decide (0 ≤ idxB pd l) = l.any pd := by
  unfold idxB
  by_cases h : l.findIdx pd < l.length
  · rw [if_pos h]
    have : l.any pd = true := by
      rw [List.any_eq_true]
      exact ⟨_, List.getElem_mem h, List.findIdx_getElem (w := h)⟩
    rw [this]; simp
  · rw [if_neg h]
    have : l.any pd = false := by
      rw [List.any_eq_false]
      intro x hx hp
      exact h (List.findIdx_lt_length_of_exists ⟨x, hx, hp⟩)
    rw [this]; simp

set_option maxRecDepth 100000 in
theorem contains_has  (pd : Bu → Bool) (v : Value) (l : List Bu) (w : World) (h : RdB w v l) (hl : l.length ≤ 1000000) (hF : Clos 31 #[] pd w) :
    Calls Try.prog 30 #[v, .func (.func 31) #[] #[]] w fun e w' => e = .returned (.bool (l.any pd)) ∧ Only w w' [] := by
  have HI := bindex_has  pd v l w h hl hF
  rw [← idx_any]
  obtain ⟨ao, c, rfl⟩ := h.slice
  go_enter Try.func30, Try.ntmps30
  go_wp2_with fail
  refine HI.mono ?_
  rintro e w1 ⟨rfl, o1⟩
  go_wp2_with fail
  go_ret
  exact ⟨rfl, o1⟩

set_option maxRecDepth 100000 in
theorem contains_o1 (A : Nat) (pd : Bu → Bool) (v : Value) (l : List Bu) (w : World) (h : RdB w v l) (hl : l.length ≤ 1000000) (hF : Clos 32 #[.pointer (some ⟨A, 0, none⟩)] pd w) :
    Calls Try.prog 30 #[v, .func (.func 32) #[] #[.pointer (some ⟨A, 0, none⟩)]] w fun e w' => e = .returned (.bool (l.any pd)) ∧ Only w w' [] := by
  have HI := bindex_o1 A pd v l w h hl hF
  rw [← idx_any]
  obtain ⟨ao, c, rfl⟩ := h.slice
  go_enter Try.func30, Try.ntmps30
  go_wp2_with fail
  refine HI.mono ?_
  rintro e w1 ⟨rfl, o1⟩
  go_wp2_with fail
  go_ret
  exact ⟨rfl, o1⟩

set_option maxRecDepth 100000 in
theorem contains_o2 (A : Nat) (pd : Bu → Bool) (v : Value) (l : List Bu) (w : World) (h : RdB w v l) (hl : l.length ≤ 1000000) (hF : Clos 50 #[.pointer (some ⟨A, 0, none⟩)] pd w) :
    Calls Try.prog 30 #[v, .func (.func 50) #[] #[.pointer (some ⟨A, 0, none⟩)]] w fun e w' => e = .returned (.bool (l.any pd)) ∧ Only w w' [] := by
  have HI := bindex_o2 A pd v l w h hl hF
  rw [← idx_any]
  obtain ⟨ao, c, rfl⟩ := h.slice
  go_enter Try.func30, Try.ntmps30
  go_wp2_with fail
  refine HI.mono ?_
  rintro e w1 ⟨rfl, o1⟩
  go_wp2_with fail
  go_ret
  exact ⟨rfl, o1⟩

/-- The closures. -/
theorem clos_has (w : World) : Clos 31 #[] (fun x => !x.has) w := fun x w' ho => by
  have h5 : (bc x).toArray[7]? = some (.bool x.has) := rfl
  simp only [Array.append_empty]
  generalize bc x = cs at *
  go_enter Try.func31, Try.ntmps31
  go_wp2_with (refine wpList_box_new rfl 63 _ rfl (.agg cs.toArray) rfl ?_; intro X wX oX hXl hX; have hx5 := (cell_in hX 7).trans h5)
  go_ret
  exact ⟨rfl, oX⟩
def other (u d : Int) (x : Bu) : Bool := !(x.u == u && x.d == d)
theorem clos_other1 (A : Nat) (u d : Int) (w : World) (h : w.heap[A]? = some (.cells #[.int .i64 u, .int .i64 d] 27 (0, 0))) : Clos 32 #[.pointer (some ⟨A, 0, none⟩)] (other u d) w := fun x w' ho => by
  have hA := ho.at h (by simp)
  have h0 : (bc x).toArray[0]? = some (.int .i64 x.u) := rfl
  have h1 : (bc x).toArray[1]? = some (.int .i64 x.d) := rfl
  show Calls _ _ #[.agg (bc x).toArray, .pointer (some ⟨A, 0, none⟩)] _ _
  generalize bc x = cs at *
  go_enter Try.func32, Try.ntmps32
  go_wp2_with (refine wpList_box_new rfl 63 _ rfl (.agg cs.toArray) rfl ?_; intro X wX oX hXl hX; have hx0 := (cell_in hX 0).trans h0; have hx1 := (cell_in hX 1).trans h1; have hAX := oX.at hA (by simp); have ha0 := cell_two0 hAX; have ha1 := cell_two1 hAX)
  all_goals (go_ret; refine ⟨?_, oX⟩; simp_all [other])
theorem clos_other2 (A : Nat) (u d : Int) (w : World) (h : w.heap[A]? = some (.cells #[.int .i64 u, .int .i64 d] 27 (0, 0))) : Clos 50 #[.pointer (some ⟨A, 0, none⟩)] (other u d) w := fun x w' ho => by
  have hA := ho.at h (by simp)
  have h0 : (bc x).toArray[0]? = some (.int .i64 x.u) := rfl
  have h1 : (bc x).toArray[1]? = some (.int .i64 x.d) := rfl
  show Calls _ _ #[.agg (bc x).toArray, .pointer (some ⟨A, 0, none⟩)] _ _
  generalize bc x = cs at *
  go_enter Try.func50, Try.ntmps50
  go_wp2_with (refine wpList_box_new rfl 63 _ rfl (.agg cs.toArray) rfl ?_; intro X wX oX hXl hX; have hx0 := (cell_in hX 0).trans h0; have hx1 := (cell_in hX 1).trans h1; have hAX := oX.at hA (by simp); have ha0 := cell_two0 hAX; have ha1 := cell_two1 hAX)
  all_goals (go_ret; refine ⟨?_, oX⟩; simp_all [other])
theorem clos_once (A : Nat) (b : Bu) (w : World) (h : w.heap[A]? = some (.cells (bc b).toArray 63 (0, 0))) : Clos 52 #[.pointer (some ⟨A, 0, none⟩)] (fun x => x.on == b.on) w := fun x w' ho => by
  have hA := ho.at h (by simp)
  have h0 : (bc x).toArray[8]? = some (.int .u32 x.on) := rfl
  have h1 : (bc b).toArray[8]? = some (.int .u32 b.on) := rfl
  show Calls _ _ #[.agg (bc x).toArray, .pointer (some ⟨A, 0, none⟩)] _ _
  generalize bc x = cs at *
  generalize bc b = cb at *
  go_enter Try.func52, Try.ntmps52
  go_wp2_with (refine wpList_box_new rfl 63 _ rfl (.agg cs.toArray) rfl ?_; intro X wX oX hXl hX; have hx0 := (cell_in hX 8).trans h0; have hAX := oX.at hA (by simp); have ha0 := (cell_in hAX 8).trans h1)
  go_ret
  exact ⟨rfl, oX⟩
end Go.Proofs.Yticojdepepkdlaa

/- Cells of a record in a row; Remove of layer 17 (registry). Printed by gen_rg6.py. -/
namespace Go.Pw
open Go.RowKit
set_option linter.unusedVariables false
theorem setL_mid (pre suf : List Value) : ∀ (us mid : List Value) (j : Nat), j + us.length ≤ mid.length → setL (pre ++ mid ++ suf) (pre.length + j) us = pre ++ setL mid j us ++ suf
  | [], mid, j, _ => rfl
  | u :: us, mid, j, h => by
    simp only [List.length_cons] at h
    have e : (pre ++ mid ++ suf).set (pre.length + j) u = pre ++ mid.set j u ++ suf := by
      rw [List.set_append_left _ _ (by simp; omega), List.set_append_right _ _ (by omega)]
      congr 2
      congr 1
      omega
    simp only [setL]
    rw [e, Nat.add_assoc]
    exact setL_mid pre suf us (mid.set j u) (j + 1) (by rw [List.length_set]; omega)
/-- Some cells of the k-th record are others. -/
theorem fl_cells {α : Type} {enc : α → List Value} {size : Nat} (hk : ∀ x, (enc x).length = size) {l : List α} {k : Nat} (hkl : k < l.length) (j : Nat) (us : List Value) (hj : j + us.length ≤ size) (x' : α) (hx : enc x' = setL (enc l[k]) j us) : setL (fl enc l) (k * size + j) us = fl enc (l.set k x') := by
  have e1 : fl enc l = fl enc (l.take k) ++ enc l[k] ++ fl enc (l.drop (k + 1)) := by
    conv => lhs; rw [← List.take_append_drop k l, List.drop_eq_getElem_cons hkl]
    rw [fl_app, fl_cons, List.append_assoc]
  have e2 : fl enc (l.set k x') = fl enc (l.take k) ++ enc x' ++ fl enc (l.drop (k + 1)) := by
    rw [List.set_eq_take_append_cons_drop, if_pos hkl, fl_app, fl_cons, List.append_assoc]
  have e3 : (fl enc (l.take k)).length = k * size := by rw [fl_len hk, List.length_take, Nat.min_eq_left (by omega)]
  rw [e2, hx, ← setL_mid _ _ us (enc l[k]) j (by rw [hk]; exact hj), e3, ← e1]
end Go.Pw
namespace Go.Proofs.Yticojdepepkdlaa
open Go.RowKit Go.Pw
set_option linter.unusedVariables false

/-- The row of a line's prekeys for once. -/
def ow (x : Li) : Res := row 63 10 x.v x.os.length (fl bc x.os)
/-- The registry as it lies. -/
abbrev regR (B : Nat) (v : Value) (l : List Li) (rs : List Res) : List Res := row 95 14 v l.length (fl lc l) :: blk B [v] 86 :: many (l.map ow) :: rs

def gone (x : Li) : Li := { x with on := false, v := .slice none 0 0, os := [], ok := rfl }
def remL (l : List Li) (u d : Int) : List Li := if isL l u d = true then l.modify (placeL l u d) gone else l
theorem isL_at {l : List Li} {u d : Int} (h : isL l u d = true) : foundL l u d = true ∧ ∃ hk : placeL l u d < l.length, l[placeL l u d].on = true := by
  unfold isL at h
  rw [Bool.and_eq_true] at h
  obtain ⟨hk, _⟩ := found_at h.1
  rw [List.getElem?_eq_getElem hk] at h
  exact ⟨h.1, hk, h.2⟩
theorem not_isL {l : List Li} {u d : Int} (h : isL l u d = false) (hf : foundL l u d = true) : ∃ hk : placeL l u d < l.length, l[placeL l u d].on = false := by
  obtain ⟨hk, _⟩ := found_at hf
  refine ⟨hk, ?_⟩
  unfold isL at h
  rw [hf, List.getElem?_eq_getElem hk] at h
  simpa using h
theorem modify_set {α : Type} (l : List α) (k : Nat) (hk : k < l.length) (f : α → α) : l.modify k f = l.set k (f l[k]) := by
  apply List.ext_getElem
  · simp
  · intro i h1 h2
    rw [List.getElem_modify, List.getElem_set]
    split
    · rename_i e; subst e; rfl
    · rfl

end Go.Proofs.Yticojdepepkdlaa

