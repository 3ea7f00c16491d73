/- Idents of layer 16's laws (record); who stands ahead of whom. -/
import Derived.Test.YtdlbkdnpbcpjfaaRecA
import Derived.Lib.SmallJoins
namespace Go.Proofs.Ytdlbkdnpbcpjfaa
open Go.RowKit Go.Pw Go.Pw.Fl
set_option linter.unusedVariables false

/-- An ident of ours. -/
def Idd (n : Int) (w : World) (e : Ending) (w' : World) : Prop := ∃ A1 A2, e = .returned (.agg #[.slice (some ⟨A1, 0, none⟩) 1 1, .slice (some ⟨A2, 0, none⟩) 1 1]) ∧ Only w w' [] ∧ w.heap.size ≤ A1 ∧ w.heap.size ≤ A2 ∧ A1 ≠ A2 ∧ w'.heap[A1]? = some (.cells #[.int .u8 (n % 3)] 5 (0, 0)) ∧ w'.heap[A2]? = some (.cells #[.int .u8 115] 5 (1, 2))

set_option maxRecDepth 100000 in
set_option maxHeartbeats 1600000 in
theorem ident_any (n : Int) (h0 : 0 ≤ n) (h1 : n < 256) (w : World) : Calls Try.prog 9 #[.int .u8 n] w (Idd n w) := by
  have e1 : n.tmod 3 = n % 3 := Int.tmod_eq_emod_of_nonneg h0
  have e2 : IntKind.u8.wrap (n % 3) = n % 3 := by rw [IntKind.wrap_u8]; omega
  obtain ⟨m, hm⟩ : ∃ m, m = n % 3 := ⟨_, rfl⟩
  unfold Idd
  rw [← hm]
  rw [← hm] at e1 e2
  have kc := Go.Joins.run_convert_bytes_const_at (P := Try.prog) ((w.alloc (.cells #[.slice none 0 0, .slice none 0 0] 30)).alloc (.cells #[.int .u8 m] 5)) 28 5 #[.int .u8 115] 1 1 (w.heap.size + 1 + 1) (by simp) Try.underlying28 Try.underlying5
  clear hm
  go_enter Try.func9, Try.ntmps9
  go_wp2_with fail
  refine bodyPost_ret (v := .agg #[.slice (some ⟨w.heap.size + 1, 0, none⟩) 1 1, .slice (some ⟨w.heap.size + 1 + 1, 0, none⟩) 1 1]) (by simp [results, Try.results9, go_sem]) rfl ?_
  obtain ⟨V, hV⟩ : ∃ V, V = w.alloc (.cells #[.slice (some ⟨w.heap.size + 1, 0, none⟩) 1 1, .slice (some ⟨w.heap.size + 1 + 1, 0, none⟩) 1 1] 30) := ⟨_, rfl⟩
  have hVs : V.heap.size = w.heap.size + 1 := by rw [hV]; simp
  rw [← hV]
  have b1 := heap_alloc_new V (.cells #[.int .u8 m] 5)
  have b2 := heap_alloc_new (V.alloc (.cells #[.int .u8 m] 5)) (.cells #[.int .u8 115] 5 (1, 2))
  have e3 : (V.alloc (.cells #[.int .u8 m] 5)).heap.size = w.heap.size + 1 + 1 := by simp [hVs]
  rw [hVs] at b1
  rw [e3] at b2
  have oV : Only w V [] := by rw [hV]; exact Only.alloc _ _ _
  exact ⟨w.heap.size + 1, w.heap.size + 1 + 1, rfl, (oV.trans (Only.alloc _ _ _)).trans (Only.alloc _ _ _), by omega, by omega, by omega, (Only.alloc _ _ []).at b1 (by simp), b2⟩

theorem cmpW_neg (u d u' d' : Int) : (cmpW u d u' d' < 0) ↔ (u < u' ∨ u = u' ∧ d < d') := by
  simp only [cmpW, orL, cmpI]
  repeat' split
  all_goals simp_all
  all_goals omega
theorem cmpW_zero (u d u' d' : Int) : (cmpW u d u' d' = 0) ↔ (u = u' ∧ d = d') := by
  simp only [cmpW, orL, cmpI]
  repeat' split
  all_goals simp_all
  all_goals omega
theorem cmpW_pos (u d u' d' : Int) : (0 < cmpW u d u' d') ↔ (u' < u ∨ u' = u ∧ d' < d) := by
  simp only [cmpW, orL, cmpI]
  repeat' split
  all_goals simp_all
  all_goals omega

set_option maxRecDepth 100000 in
set_option maxHeartbeats 1600000 in
theorem ahead_l (u1 d1 u2 d2 : Int) (b : Bool) (hb : decide (u1 < u2 ∨ u1 = u2 ∧ d1 < d2) = b) (w : World) : Calls Try.prog 19 #[.agg #[.int .i64 u1, .int .i64 d1], .agg #[.int .i64 u2, .int .i64 d2]] w fun e w' => e = .returned (.bool b) ∧ Only w w' [] := by
  by_cases h1 : u1 < u2
  · have d1 : decide (u1 < u2) = true := by simpa using h1
    have d0 : b = true := by rw [← hb]; simp [h1]
    subst d0
    clear hb
    go_enter Try.func19, Try.ntmps19
    go_wp2_with fail
    go_ret
    exact ⟨rfl, (Only.alloc _ _ _).trans (Only.alloc _ _ _)⟩
  · have dd : decide (u1 < u2) = false := by simpa using h1
    by_cases h2 : u1 = u2
    · subst h2
      have db : b = decide (d1 < d2) := by rw [← hb]; simp
      rw [db]
      clear hb db
      go_enter Try.func19, Try.ntmps19
      go_wp2_with fail
      go_ret
      exact ⟨rfl, (Only.alloc _ _ _).trans (Only.alloc _ _ _)⟩
    · have d0 : b = false := by rw [← hb]; simp [h1, h2]
      subst d0
      have d2 : (u1 == u2) = false := by simpa using h2
      clear hb
      go_enter Try.func19, Try.ntmps19
      go_wp2_with fail
      go_ret
      exact ⟨rfl, (Only.alloc _ _ _).trans (Only.alloc _ _ _)⟩
end Go.Proofs.Ytdlbkdnpbcpjfaa
