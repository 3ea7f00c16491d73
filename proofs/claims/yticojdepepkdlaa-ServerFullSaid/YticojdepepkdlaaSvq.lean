/- Log of layer 19; one envelope of layer 9's reference. Printed by gen_svq.py. -/
import Derived.Test.YticojdepepkdlaaSv8
set_option linter.unusedSimpArgs false
set_option linter.unusedVariables false
namespace Go.Proofs.Yticojdepepkdlaa
open Go.RowKit Go.Pw
set_option linter.unusedVariables false

/-- sclone. -/
theorem sclone_any (p : Value) (xs : List Sn) (w : World) (hp : Pw.Src w p 5 xs.length (fl sc xs)) (hl : xs.length ≤ 1000000) :
    Calls Try.prog 26 #[p] w (fun e w' => ∃ ao c, e = .returned (.slice ao xs.length c) ∧ Sep w w' [row 60 5 (.slice ao xs.length c) xs.length (fl sc xs)]) := by
  obtain ⟨i0, hi, hz0, hz1, hz2⟩ := info_parts sent_info
  obtain ⟨ao, c, rfl, h1, h2, h3, h4, _⟩ := id hp
  have hn := Lib.run_eql_slice_nil (P := Try.prog) w 54 60 ao xs.length c 0 0 Try.underlying54
  cases ao with
  | none =>
    have h0 := (h4 rfl).1
    obtain rfl : xs = [] := List.eq_nil_of_length_eq_zero h0
    obtain rfl : c = 0 := (h4 rfl).2
    simp only [Option.isNone_none, List.length_nil] at hn ⊢
    clear hp h1 h2 h3 h4 h0 hl
    go_enter Try.func26, Try.ntmps26
    go_wp2
    go_ret
    exact ⟨_, _, rfl, (Sep.nil w).rown _ _⟩
  | some a =>
    simp only [Option.isNone_some] at hn
    have hs := hp.off (Only.alloc w (.cells #[] 60) []) (fun _ _ _ => by simp)
    have hown : (w.alloc (.cells #[] 60)).ownsRow 0 60 5 (.slice (some ⟨w.heap.size, 0, none⟩) 0 0) 0 [] := World.ownsRow_made w #[] 0 (Nat.zero_le _) (Nat.zero_le _) rfl
    have s0 : Sep w (w.alloc (.cells #[] 60)) [row 60 5 (.slice (some ⟨w.heap.size, 0, none⟩) 0 0) 0 []] := (Sep.nil w).add (Only.alloc w _ []) hown (fun k hk => by simp [row, Value.ownBlock] at hk; omega)
    clear hp hown h1 h2 h3 h4
    go_enter Try.func26, Try.ntmps26
    go_wp2_with (at_builtin; refine wpList_append_sep rfl _ _ 54 rfl 60 i0 _ 5 56 Try.underlying54 hi hz0 hz1 hz2 rfl (by decide) (.slice (some ⟨w.heap.size, 0, none⟩) 0 0) 0 [] rfl s0 _ xs.length _ rfl hs (fl_one sc_one _) (by unfold maxLen; omega) (by omega) ?_; intro a7 c7 w7 o7 s7; simp only [Nat.zero_add, List.nil_append] at s7 ⊢)
    go_ret
    exact ⟨a7, c7, rfl, s7⟩

theorem log_any {w0 : World} {rs : List Res} (SB RB BM LM : Nat) (v : Value) (l : List Li) (bm lm : List ((Int × Int) × Value)) (lv : Value) (logs : List Sn) (w : World) (h : Sep w0 w (srvR SB RB BM LM v l bm lm lv logs rs)) (hl : logs.length ≤ 1000) :
    Calls Try.prog 13 #[.pointer (some ⟨SB, 0, none⟩)] w fun e w' => ∃ ao c, e = .returned (.slice ao logs.length c) ∧ Sep w w' [row 60 5 (.slice ao logs.length c) logs.length (fl sc logs)] := by
  obtain ⟨c0, c1, c2, c3⟩ := sb_at (h.sel 4 [3]).head
  have hS := own_src (show w.ownsRow 0 60 5 lv logs.length (fl sc logs) from (h.sel 7 [6]).head)
  clear h
  go_enter Try.func13, Try.ntmps13
  go_wp2_with fail
  refine (sclone_any lv logs _ hS (by omega)).mono ?_
  rintro e w1 ⟨ao, c, rfl, s1⟩
  clear hS c0 c1 c2 c3
  go_wp2_with fail
  go_ret
  exact ⟨ao, c, rfl, s1⟩

/-- A new envelope with four numbers alone. -/
theorem env_new (fu fd tu td : Int) (w : World) :
    Calls Try.prog 9 #[.agg #[.int .i64 fu, .int .i64 fd, .int .i64 tu, .int .i64 td, .slice none 0 0, .bool false, .slice none 0 0, .slice none 0 0, .slice none 0 0, .int .u32 0, .bool false, .int .u32 0, .slice none 0 0, .int .u32 0, .int .u32 0, .slice none 0 0]] w (fun e w' => ∃ (ao : Option Addr) (L c : Nat), e = .returned (.slice ao L c) ∧ Sep w w' [row 5 1 (.slice ao L c) (eB fu fd tu td).length ((eB fu fd tu td).map (Value.int .u8))]) := by
  have hr : Rd w (.slice none 0 0) [] := own_src (World.ownsRow_nil w 0 5 1)
  have hu : U32 0 := ⟨by decide, by decide⟩
  refine (rfenv_any fu fd tu td 0 0 0 0 false false _ _ _ _ _ _ [] [] [] [] [] [] w hr hr hr hr hr hr hu hu hu hu (by simp)).mono ?_
  rintro e w' ⟨v, rfl, h1, h2, h3⟩
  obtain ⟨ao, c, rfl⟩ := own_slice h1
  exact ⟨ao, _, c, rfl, (Sep.nil w).row0 h1 h2 h3⟩
end Go.Proofs.Yticojdepepkdlaa
