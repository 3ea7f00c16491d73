/- WorldTime: the law's walk behind awake and play. Printed by gen_wt2.py. -/
import Derived.Test.YtdkcmjifkhcfcaaGreatDoorWd
set_option linter.all false
namespace Go.Proofs.YtdkcmjifkhcfcaaGreatDoor
open Go.RowKit Go.Pw Go.Pw.Fl
set_option linter.unusedVariables false
set_option linter.unusedSimpArgs false

def fc (x : Nat) : List Value := [.float .f64 x]
theorem fc_len (x : Nat) : (fc x).length = 1 := rfl

/-- How a number stands to nought and a thousand; the time, to a thousand million; and what goes by. -/
theorem ways {t x : Nat} (hf : FinW t = true) (h0 : 0 ≤ sr t) (hx : x < 18446744073709551616) (ht : t < 18446744073709551616) :
    (FloatKind.f64.format.order x 0 == some .gt) = false ∨
    (FloatKind.f64.format.order x 0 = some .gt ∧ (FloatKind.f64.format.order x 4652007308841189376 == some .lt) = false) ∨
    (FloatKind.f64.format.order x 0 = some .gt ∧ FloatKind.f64.format.order x 4652007308841189376 = some .lt ∧ (FloatKind.f64.format.order t 4741671816366391296 == some .lt) = false) ∨
    (FloatKind.f64.format.order x 0 = some .gt ∧ FloatKind.f64.format.order x 4652007308841189376 = some .lt ∧ FloatKind.f64.format.order t 4741671816366391296 = some .lt ∧
      ∃ s y, Ieee.double.sub (passV t x) t = some s ∧ Ieee.double.add x 4562254508917369340 = some y ∧ (FloatKind.f64.format.order s y == some .gt) = false) := by
  by_cases hp : Pos x = true
  · obtain ⟨hn, h1⟩ := pos_yes hp
    have hp0 := pos_order hp
    have nl : NaN 4652007308841189376 = false := by decide
    have nt : NaN 4741671816366391296 = false := by decide
    by_cases hl : sr x < 4652007308841189376
    · have e1 := order_lt hn nl (by rw [sr_len]; exact hl)
      by_cases h2 : sr t < 4741671816366391296
      · have e2 := order_lt (fin_nan hf) nt (by rw [sr_time]; exact h2)
        obtain ⟨s, y, f1, f2, f3, f4, f5⟩ := steps hf h0 h2 hn h1 hl hx
        refine Or.inr (Or.inr (Or.inr ⟨hp0, e1, e2, s, y, f1, f2, ?_⟩))
        rcases Int.lt_or_eq_of_le f5 with h | h
        · rw [order_lt f3 f4 h]; rfl
        · rw [order_eq' f3 f4 h]; rfl
      · refine Or.inr (Or.inr (Or.inl ⟨hp0, e1, ?_⟩))
        rw [order_no (fin_nan hf) nt, sr_time, ord, if_neg h2]
        split <;> rfl
    · refine Or.inr (Or.inl ⟨hp0, ?_⟩)
      rw [order_no hn nl, sr_len, ord, if_neg hl]
      split <;> rfl
  · exact Or.inl (pos_order_no (by simpa using hp))

set_option maxRecDepth 100000 in
set_option maxHeartbeats 3200000 in
theorem time_any (v : Value) (l : List Nat) (W : World) (h : Pw.Src W v 1 l.length (fl fc l)) (hwf : ∀ x ∈ l, x < 18446744073709551616) (awk : ∀ W', Only W W' [] → Calls Tryz.prog 6 #[] W' fun e w => e = .returned (.bool true) ∧ Below W'.heap.size W' w)
    (ply : ∀ W', Only W W' [] → Calls Tryz.prog 7 #[.int .u8 1, .slice none 0 0] W' fun e w => ∃ b o, e = .returned (.pointer (some ⟨b, o, none⟩)) ∧ Below W'.heap.size W' w ∧ WB w b o 0 ∧ W'.heap.size ≤ b) :
    Calls Tryz.prog 3 #[v] W fun e w' => e = .returned (.bool true) ∧ Only W w' [] := by
  obtain ⟨ao, c, rfl, _⟩ : ∃ ao c, v = .slice ao l.length c ∧ True := by
    obtain ⟨ao, c, h, _⟩ := h
    exact ⟨ao, c, h, trivial⟩
  have HS := fun (hp : 0 < l.length) => src_rec fc_len (by decide) h hp
  clear h
  have only_of_below : ∀ {w w' : World}, Below w.heap.size w w' → Only w w' [] := fun h => ⟨h.os, h.tape, h.output, h.size, fun k hk _ => h.block k hk⟩
  by_cases hl : (50 : Int) < l.length
  · have d1 : decide ((50 : Int) < l.length) = true := by simpa using hl
    go_enter Tryz.func3, Tryz.ntmps3
    go_wp2_with fail
    refine (awk W (Only.refl _ _)).mono ?_
    rintro e w1 ⟨rfl, b1⟩
    have o1 := only_of_below b1
    clear b1
    go_wp2_with fail
    refine (awk w1 o1).mono ?_
    rintro e w2 ⟨rfl, b2⟩
    have o2 := o1.trans (only_of_below b2)
    clear b2
    go_wp2_with fail
    go_ret
    exact ⟨rfl, o2⟩
  · have d1 : decide ((50 : Int) < l.length) = false := by simpa using hl
    have hl := Lib.hid hl
    go_enter Tryz.func3, Tryz.ntmps3
    go_wp2_with fail
    refine (awk W (Only.refl _ _)).mono ?_
    rintro e w1 ⟨rfl, b1⟩
    have o1 := only_of_below b1
    clear b1
    go_wp2_with fail
    refine (ply w1 o1).mono ?_
    rintro e w2 ⟨b, o, rfl, b2, hW0, hb⟩
    have o2 := o1.trans (only_of_below b2)
    have hbW : W.heap.size ≤ b := Nat.le_trans o1.size hb
    clear b2 awk ply
    go_wp2_with fail
    go_loopw [4, 5] (fun now i wr => ∃ k t : Nat, i = .int .i64 k ∧ now = .float .f64 t ∧ k ≤ l.length ∧ FinW t = true ∧ 0 ≤ sr t ∧ t < 18446744073709551616 ∧ Only W wr [] ∧ WB wr b o t) (fun _ i _ => l.length - (intOf i).toNat)
    case atStart => exact ⟨0, 0, rfl, rfl, Nat.zero_le _, by decide, by decide, by decide, o2, hW0⟩
    case round =>
      obtain ⟨k, t, rfl, rfl, hk, hft, ht0, htl, ho, hB⟩ := hrel
      by_cases hkl : k < l.length
      · have e1 : decide ((k : Int) < l.length) = true := by simpa using hkl
        obtain ⟨b0, o0, rfl, hr⟩ := HS (by omega)
        have hxl := hwf l[k] (List.getElem_mem hkl)
        have hrr := fun w' ow => hr w' ow k hkl
        generalize l[k] = x at *
        have hrx : ∀ w', Only W w' [] → w'.cell? ⟨b0, o0 + k, none⟩ = some (.float .f64 x) := fun w' ow => by
          have := hrr w' ow 0 _ rfl
          simpa using this
        clear hr hrr HS
        have hx0 := hrx wr ho
        have HT := tick_any b o t x htl hxl wr hB
        obtain ⟨hf2, hs2⟩ := goes (x := x) hft hxl
        have hl2 := pass_lt htl hxl
        have hord : (FloatKind.f64.format.order (passV t x) t == some .gt || FloatKind.f64.format.order (passV t x) t == some .eq) = true := by
          rcases Int.lt_or_eq_of_le hs2 with h | h
          · rw [order_gt (fin_nan hf2) (fin_nan hft) h]; rfl
          · rw [order_eq' (fin_nan hf2) (fin_nan hft) h.symm]; rfl
        have HI := fun w' => isinf0_any (passV t x) hl2 (fin_nan hf2) w'
        rw [hf2] at HI
        have HN := fun w' hB' => now_any b o (passV t x) w' hB'
        have hways := ways hft ht0 hxl htl
        generalize hz : passV t x = t2 at *
        have hz := Lib.hid hz
        have hs3 : 0 ≤ sr t2 := Int.le_trans ht0 hs2
        clear hs2 ht0 hft
        rcases hways with c1 | ⟨c1, c2⟩ | ⟨c1, c2, c3⟩ | ⟨c1, c2, c3, s, y, f1, f2, c4⟩
        · go_wp2_with fail
          refine HT.mono ?_
          rintro e w3 ⟨rfl, o3, hB3⟩
          have o4 := ho.new o3 (by simp; exact hbW)
          have hx3 := hrx w3 o4
          go_wp2_with fail
          refine (HN w3 hB3).mono ?_
          rintro e w4 ⟨rfl, rfl⟩
          go_wp2_with fail
          refine (HI w4).mono ?_
          rintro e w5 ⟨rfl, rfl⟩
          go_wp2_with fail
          exact ⟨⟨k + 1, t2, by simp, rfl, by omega, hf2, hs3, hl2, o4, hB3⟩, by simp [intOf]; omega⟩
        · go_wp2_with fail
          refine HT.mono ?_
          rintro e w3 ⟨rfl, o3, hB3⟩
          have o4 := ho.new o3 (by simp; exact hbW)
          have hx3 := hrx w3 o4
          go_wp2_with fail
          refine (HN w3 hB3).mono ?_
          rintro e w4 ⟨rfl, rfl⟩
          go_wp2_with fail
          refine (HI w4).mono ?_
          rintro e w5 ⟨rfl, rfl⟩
          go_wp2_with fail
          exact ⟨⟨k + 1, t2, by simp, rfl, by omega, hf2, hs3, hl2, o4, hB3⟩, by simp [intOf]; omega⟩
        · go_wp2_with fail
          refine HT.mono ?_
          rintro e w3 ⟨rfl, o3, hB3⟩
          have o4 := ho.new o3 (by simp; exact hbW)
          have hx3 := hrx w3 o4
          go_wp2_with fail
          refine (HN w3 hB3).mono ?_
          rintro e w4 ⟨rfl, rfl⟩
          go_wp2_with fail
          refine (HI w4).mono ?_
          rintro e w5 ⟨rfl, rfl⟩
          go_wp2_with fail
          exact ⟨⟨k + 1, t2, by simp, rfl, by omega, hf2, hs3, hl2, o4, hB3⟩, by simp [intOf]; omega⟩
        · have g1 := fun w => run_float_arith (P := Tryz.prog) w .sub 26 .f64 t2 t s f1
          have g2 := fun w => run_float_arith (P := Tryz.prog) w .add 26 .f64 x 4562254508917369340 y f2
          clear f1 f2
          go_wp2_with fail
          refine HT.mono ?_
          rintro e w3 ⟨rfl, o3, hB3⟩
          have o4 := ho.new o3 (by simp; exact hbW)
          have hx3 := hrx w3 o4
          go_wp2_with fail
          refine (HN w3 hB3).mono ?_
          rintro e w4 ⟨rfl, rfl⟩
          go_wp2_with fail
          refine (HI w4).mono ?_
          rintro e w5 ⟨rfl, rfl⟩
          go_wp2_with fail
          exact ⟨⟨k + 1, t2, by simp, rfl, by omega, hf2, hs3, hl2, o4, hB3⟩, by simp [intOf]; omega⟩
      · have e1 : decide ((k : Int) < l.length) = false := by simpa using hkl
        go_wp2_with fail
        go_ret
        exact ⟨rfl, ho⟩
end Go.Proofs.YtdkcmjifkhcfcaaGreatDoor
