/- InstantOvers returns true for every four floats: whether as much time has gone by is as the reference says; and it stays so. No condition. -/
import Derived.Test.YtekjabdfcgimnaaInst3
import Derived.Test.YtekjabdfcgimnaaOpenS
import Derived.Test.YtekjabdfcgimnaaSInstantOvers
namespace Go.Proofs.Ytekjabdfcgimnaa
open Go.RowKit Go.Pw Go.Pw.Fl

theorem f64_wf3 {b : Nat} (h : (Lit.float .f64 b).wf = true) : b < 18446744073709551616 := by simpa [Lit.wf] using h

theorem overs_step (now since d more : Nat) (w : World) (x : Bool) (h : overV (passV now more) since d = x) : Calls Try.prog 12 #[.float .f64 (passV now more), .float .f64 since, .float .f64 d] w fun e w' => e = .returned (.bool x) ∧ Only w w' [] := by
  have := over_any (passV now more) since d w
  unfold OverA at this
  rw [h] at this
  exact this

set_option maxRecDepth 100000 in
set_option maxHeartbeats 1600000 in
theorem overs_walk (now since d more : Nat) (hn : now < 18446744073709551616) (hs : since < 18446744073709551616) (hm : more < 18446744073709551616) (w : World) :
    Calls Try.prog 4 #[.float .f64 now, .float .f64 since, .float .f64 d, .float .f64 more] w fun e w' => e = .returned (.bool true) ∧ Below w.heap.size w w' := by
  have h1 := over_any now since d
  have h2 := rover_any now since d
  unfold OverA at h1 h2
  have H3 := Lib.hid (pass_any now more hn hm)
  have hlater : FinW now = true → FinW since = true → overV now since d = true → overV (passV now more) since d = true := fun a b c => over_pass a b hm c
  have h4 := is_any now hn
  have h5 := is_any since hs
  have hb : ∀ b : Bool, b = true ∨ b = false := fun b => by cases b <;> simp
  have H6 := Lib.hid (overs_step now since d more)
  rcases hb (overV now since d) with a | a
  · rw [a] at h1 h2
    have H1 := Lib.hid h1
    have H2 := Lib.hid h2
    rcases hb (FinW now) with b | b
    · rw [b] at h4
      have H4 := Lib.hid h4
      rcases hb (FinW since) with c | c
      · rw [c] at h5
        have H5 := Lib.hid h5
        have hl := Lib.hid (hlater b c a)
        clear h1 h2 h4 h5 a b c hb hlater hn hs hm
        generalize passV now more = l at *
        go_enter Try.func4, Try.ntmps4
        go_wp2_with fail
        refine (H1.out _).mono ?_
        rintro e w1 ⟨rfl, h1⟩
        go_wp2_with fail
        refine (H3.out _).mono ?_
        rintro e w' ⟨rfl, rfl⟩
        go_wp2_with fail
        refine (awake1 _).mono ?_
        rintro e w2 ⟨rfl, h2⟩
        go_wp2_with fail
        refine (H2.out _).mono ?_
        rintro e w3 ⟨rfl, h3⟩
        go_wp2_with fail
        refine (H4.out _).mono ?_
        rintro e w' ⟨rfl, rfl⟩
        go_wp2_with fail
        refine (H5.out _).mono ?_
        rintro e w' ⟨rfl, rfl⟩
        go_wp2_with fail
        refine (H6.out _ _ hl.out).mono ?_
        rintro e w4 ⟨rfl, h4⟩
        go_wp2_with fail
        go_ret
        exact ⟨rfl, (((h1.trans h2).trans h3).trans h4).below (Nat.le_refl _) (by simp)⟩
      · rw [c] at h5
        have H5 := Lib.hid h5
        clear h1 h2 h4 h5 a b c hb hlater hn hs hm H6
        generalize passV now more = l at *
        go_enter Try.func4, Try.ntmps4
        go_wp2_with fail
        refine (H1.out _).mono ?_
        rintro e w1 ⟨rfl, h1⟩
        go_wp2_with fail
        refine (H3.out _).mono ?_
        rintro e w' ⟨rfl, rfl⟩
        go_wp2_with fail
        refine (awake1 _).mono ?_
        rintro e w2 ⟨rfl, h2⟩
        go_wp2_with fail
        refine (H2.out _).mono ?_
        rintro e w3 ⟨rfl, h3⟩
        go_wp2_with fail
        refine (H4.out _).mono ?_
        rintro e w' ⟨rfl, rfl⟩
        go_wp2_with fail
        refine (H5.out _).mono ?_
        rintro e w' ⟨rfl, rfl⟩
        go_wp2_with fail
        go_ret
        exact ⟨rfl, ((h1.trans h2).trans h3).below (Nat.le_refl _) (by simp)⟩
    · rw [b] at h4
      have H4 := Lib.hid h4
      clear h1 h2 h4 h5 a b hb hlater hn hs hm H6
      generalize passV now more = l at *
      go_enter Try.func4, Try.ntmps4
      go_wp2_with fail
      refine (H1.out _).mono ?_
      rintro e w1 ⟨rfl, h1⟩
      go_wp2_with fail
      refine (H3.out _).mono ?_
      rintro e w' ⟨rfl, rfl⟩
      go_wp2_with fail
      refine (awake1 _).mono ?_
      rintro e w2 ⟨rfl, h2⟩
      go_wp2_with fail
      refine (H2.out _).mono ?_
      rintro e w3 ⟨rfl, h3⟩
      go_wp2_with fail
      refine (H4.out _).mono ?_
      rintro e w' ⟨rfl, rfl⟩
      go_wp2_with fail
      go_ret
      exact ⟨rfl, ((h1.trans h2).trans h3).below (Nat.le_refl _) (by simp)⟩
  · rw [a] at h1 h2
    have H1 := Lib.hid h1
    have H2 := Lib.hid h2
    clear h1 h2 h4 h5 a hb hlater hn hs hm H6
    generalize passV now more = l at *
    go_enter Try.func4, Try.ntmps4
    go_wp2_with fail
    refine (H1.out _).mono ?_
    rintro e w1 ⟨rfl, h1⟩
    go_wp2_with fail
    refine (H3.out _).mono ?_
    rintro e w' ⟨rfl, rfl⟩
    go_wp2_with fail
    refine (awake1 _).mono ?_
    rintro e w2 ⟨rfl, h2⟩
    go_wp2_with fail
    refine (H2.out _).mono ?_
    rintro e w3 ⟨rfl, h3⟩
    go_wp2_with fail
    go_ret
    exact ⟨rfl, ((h1.trans h2).trans h3).below (Nat.le_refl _) (by simp)⟩

theorem instantOvers_holds : Rows.InstantOversSaid := instantOvers.said fun H enc base W v0 v1 v2 v3 d0 p0 d1 p1 d2 p2 d3 p3 h0 h1 h2 h3 h4 h5 h6 h7 => by
  obtain ⟨a, rfl, _, _, wa⟩ := Go.ChangeShapes.open_float Try.underlying22 h0 h1
  obtain ⟨b, rfl, _, _, wb⟩ := Go.ChangeShapes.open_float Try.underlying22 h2 h3
  obtain ⟨c, rfl, _, _, wc⟩ := Go.ChangeShapes.open_float Try.underlying22 h4 h5
  obtain ⟨d, rfl, _, _, wd⟩ := Go.ChangeShapes.open_float Try.underlying22 h6 h7
  exact overs_walk a b c d (f64_wf3 wa) (f64_wf3 wb) (f64_wf3 wd) W
end Go.Proofs.Ytekjabdfcgimnaa
