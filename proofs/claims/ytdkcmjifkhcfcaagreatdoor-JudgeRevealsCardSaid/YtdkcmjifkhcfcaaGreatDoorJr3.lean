/- JudgeReveals: the law's walk behind awake. -/
import Derived.Test.YtdkcmjifkhcfcaaGreatDoorJr2
import Derived.Laws.StructEq
set_option linter.all false
namespace Go.Proofs.YtdkcmjifkhcfcaaGreatDoor
open Go.RowKit Go.Pw
set_option linter.unusedVariables false
set_option linter.unusedSimpArgs false

theorem eq_who (a b c d : Int) (w : World) : (binOp .eql 52 (.agg #[.int .i64 a, .int .i64 b]) (.agg #[.int .i64 c, .int .i64 d])).run Tryz.prog w = .ok (.bool (a == c && b == d)) w := by
  have h : (Op.equalIn 10000 52 (.agg #[.int .i64 a, .int .i64 b]) (.agg #[.int .i64 c, .int .i64 d])).run Tryz.prog w = .ok (a == c && b == d) w := by
    have u3 := Tryz.underlying3
    rw [show (10000 : Nat) = 9999 + 1 from rfl, run_equalIn_agg w 9999 52 _ _ (by kernel_rfl) (by kernel_rfl)]
    simp only [Program.fieldsOf, Tryz.underlying52]
    go_simp
    by_cases h1 : a = c <;> by_cases h2 : b = d <;> simp [h1, h2]
  rw [run_eql_struct, h]
  rfl

theorem only_of_below {w w' : World} (h : Below w.heap.size w w') : Only w w' [] := ⟨h.os, h.tape, h.output, h.size, fun k hk _ => h.block k hk⟩
theorem below_of_only {w w' : World} (h : Only w w' []) : Below w.heap.size w w' := ⟨h.os, h.tape, h.output, h.size, fun k hk => h.block k hk (by simp)⟩

set_option maxRecDepth 100000 in
set_option maxHeartbeats 1600000 in
theorem reveals_any (pl u d : Int) (v : Value) (l : List Mk) (W : World) (h : RdM W v l) (awk : ∀ W', Only W W' [] → Calls Tryz.prog 21 #[] W' fun e w => e = .returned (.bool true) ∧ Below W'.heap.size W' w) :
    Calls Tryz.prog 5 #[v, .int .i64 pl, .agg #[.int .i64 u, .int .i64 d]] W fun e w' => e = .returned (.bool true) ∧ Only W w' [] := by
  obtain ⟨ao, c, rfl⟩ := h.slice
  have HS := fun (hp : 0 < l.length) => src_rec mc_len (by decide) h hp
  have HR := fun (hl : l.length ≤ 1000000) (w' : World) (ho : Only W w' []) => revealed_any pl u d _ l w' (h.off ho) hl
  clear h
  by_cases hl : (60 : Int) < l.length
  · have d1 : decide ((60 : Int) < l.length) = true := by simpa using hl
    go_enter Tryz.func5, Tryz.ntmps5
    go_wp2_with (refine wpList_box_new rfl 52 _ rfl (.agg #[.int .i64 u, .int .i64 d]) rfl ?_; intro X wX oX hXl hX)
    refine (awk wX oX).mono ?_
    rintro e w1 ⟨rfl, b1⟩
    have o1 := oX.trans (only_of_below b1)
    clear b1
    go_wp2_with fail
    refine (awk w1 o1).mono ?_
    rintro e w2 ⟨rfl, b2⟩
    have o2 := o1.trans (only_of_below b2)
    clear b2
    go_wp2_with fail
    go_ret
    exact ⟨rfl, o2⟩
  · have d1 : decide ((60 : Int) < l.length) = false := by simpa using hl
    have hl' : l.length ≤ 60 := by omega
    have hl := Lib.hid hl
    go_enter Tryz.func5, Tryz.ntmps5
    go_wp2_with (refine wpList_box_new rfl 52 _ rfl (.agg #[.int .i64 u, .int .i64 d]) rfl ?_; intro X wX oX hXl hX)
    refine (awk wX oX).mono ?_
    rintro e w1 ⟨rfl, b1⟩
    have o1 := oX.trans (only_of_below b1)
    have hX1 := (only_of_below b1).at hX (by simp)
    clear b1 hX awk
    go_wp2_with fail
    go_loopw [7, 8] (fun wt i wr => ∃ k : Nat, i = .int .i64 k ∧ wt = .bool ((l.take k).any (revM u d)) ∧ k ≤ l.length ∧ (k = 0 ∨ (k : Int) ≤ pl) ∧ Only W wr [] ∧ wr.heap[X]? = some (.cells #[.int .i64 u, .int .i64 d] 52 (0, 0))) (fun _ i _ => l.length - (intOf i).toNat)
    case atStart => exact ⟨0, rfl, by simp, Nat.zero_le _, Or.inl rfl, o1, hX1⟩
    case round =>
      obtain ⟨k, rfl, rfl, hk, hkp, ho, hXr⟩ := hrel
      have ha0 := cell_two0 hXr
      have ha1 := cell_two1 hXr
      by_cases hkl : k < l.length
      · have e1 : decide ((k : Int) < l.length) = true := by simpa using hkl
        by_cases hkq : (k : Int) < pl
        · have e2 : decide ((k : Int) < pl) = true := by simpa using hkq
          obtain ⟨b, o, rfl, hr⟩ := HS (by omega)
          have hrng := hr wr ho k hkl
          have hs := any_succ (revM u d) l k hkl
          generalize l[k] = x at *
          have hc0 : wr.cell? ⟨b, o + k * 9, none⟩ = some (.int .u8 x.k) := hrng 0 _ rfl
          have hc1 := hrng 1 _ rfl
          have hc2 := hrng 2 _ rfl
          have hc3 : wr.cell? ⟨b, o + k * 9 + 1 + 1, none⟩ = some (.int .i64 x.d) := hrng 2 _ rfl
          have hs := Lib.hid hs
          clear hrng hr HS HR
          have hdone : ∀ bb : Bool, bb = ((l.take k).any (revM u d) || revM u d x) → (l.take (k + 1)).any (revM u d) = bb := fun bb h => by rw [hs.out, h]
          have hdone := Lib.hid hdone
          clear hs
          generalize hacc : (l.take k).any (revM u d) = acc at *
          have hacc := Lib.hid hacc
          have fin : ∀ (bb : Bool) (w' : World), Only wr w' [] → bb = (acc || revM u d x) → ∃ k' : Nat, (.int .i64 ((k : Int) + 1) : Value) = .int .i64 k' ∧ (.bool bb : Value) = .bool ((l.take k').any (revM u d)) ∧ k' ≤ l.length ∧ (k' = 0 ∨ (k' : Int) ≤ pl) ∧ Only W w' [] ∧ w'.heap[X]? = some (.cells #[.int .i64 u, .int .i64 d] 52 (0, 0)) :=
            fun bb w' ow hb => ⟨k + 1, by simp, by rw [hdone.out bb hb], by omega, Or.inr (by omega), ho.trans ow, ow.at hXr (by simp)⟩
          have fin := Lib.hid fin
          clear hdone hacc hkp
          cases acc with
          | true =>
            by_cases h7 : x.k = 7
            · go_wp2_with fail
              go_quiet (fail)
              go_wp2_with fail
              exact ⟨fin.out _ _ (Only.drewN _ _ _) (by simp), by simp [intOf]; omega⟩
            · go_wp2_with fail
              go_quiet (fail)
              go_wp2_with fail
              exact ⟨fin.out _ _ (Only.drewN _ _ _) (by simp), by simp [intOf]; omega⟩
          | false =>
            by_cases h7 : x.k = 7
            · have d7 : (x.k == 7) = true := by simpa using h7
              have hf2 : revM u d x = (x.u == u && x.d == d) := by simp [revM, h7]
              rw [hf2] at fin
              clear hf2
              have q := fun w' => eq_who x.u x.d u d w'
              go_wp2_with fail
              go_quiet (fail)
              go_wp2_with fail
              exact ⟨fin.out _ _ (Only.drewN _ _ _) (by simp), by simp [intOf]; omega⟩
            · have d7 : (x.k == 7) = false := by simpa using h7
              have hf2 : revM u d x = false := by simp [revM, h7]
              rw [hf2] at fin
              clear hf2
              go_wp2_with fail
              go_quiet (fail)
              go_wp2_with fail
              exact ⟨fin.out _ _ (Only.drewN _ _ _) (by simp), by simp [intOf]; omega⟩
        · have e2 : decide ((k : Int) < pl) = false := by simpa using hkq
          have hcm : cutM pl l.length = k := by unfold cutM; omega
          have HRr := HR (by omega) wr ho
          rw [hcm] at HRr
          clear HR HS
          generalize (l.take k).any (revM u d) = acc at *
          go_wp2_with fail
          refine HRr.mono ?_
          rintro e w2 ⟨rfl, o2⟩
          go_wp2_with fail
          go_ret
          exact ⟨by simp, ho.trans o2⟩
      · have e1 : decide ((k : Int) < l.length) = false := by simpa using hkl
        have hcm : cutM pl l.length = k := by unfold cutM; omega
        have HRr := HR (by omega) wr ho
        rw [hcm] at HRr
        clear HR HS
        generalize (l.take k).any (revM u d) = acc at *
        go_wp2_with fail
        refine HRr.mono ?_
        rintro e w2 ⟨rfl, o2⟩
        go_wp2_with fail
        go_ret
        exact ⟨by simp, ho.trans o2⟩
end Go.Proofs.YtdkcmjifkhcfcaaGreatDoor
