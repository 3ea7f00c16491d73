/- Queue.Len, All of layer 16's book. Ours. -/
import Derived.Test.YtdlbkdnpbcpjfaaBk7
import Derived.Test.YtdlbkdnpbcpjfaaAps
namespace Go.Proofs.Ytdlbkdnpbcpjfaa
open Go.RowKit Go.Pw
set_option linter.unusedVariables false

theorem qlen_any (B : Nat) (ao : Option Addr) (n c : Nat) (w : World) (h : w.heap[B]? = some (.cells #[.slice ao n c] 74 (0, 0))) : Calls Try.prog 41 #[.pointer (some ⟨B, 0, none⟩)] w fun e w' => e = .returned (.int .i64 n) ∧ w' = w := by
  have hc0 := cell_of_one h
  go_enter Try.func41, Try.ntmps41
  go_wp2
  go_ret
  exact ⟨rfl, rfl⟩

theorem rec_info8 : (Try.prog.info? 36).map (fun i => (i.zero, i.size, i.bytes)) = some (some rv0, 7, 88) := by kernel_rfl
set_option maxRecDepth 100000 in
set_option maxHeartbeats 1600000 in
/-- rclone. -/
theorem rclone_any (p : Value) (xs : List Re) (w : World) (hp : Pw.Src w p 7 xs.length (fl rc xs)) (hl : xs.length ≤ 1000000) :
    Calls Try.prog 38 #[p] w (fun e w' => ∃ ao c, e = .returned (.slice ao xs.length c) ∧ Sep w w' [row 36 7 (.slice ao xs.length c) xs.length (fl rc xs)]) := by
  obtain ⟨i0, hi, hz0, hz1, hz2⟩ := info_parts rec_info8
  obtain ⟨ao, c, rfl, h1, h2, h3, h4, _⟩ := id hp
  have hn := Lib.run_eql_slice_nil (P := Try.prog) w 46 36 ao xs.length c 0 0 Try.underlying46
  cases ao with
  | none =>
    have h0 := (h4 rfl).1
    obtain rfl : xs = [] := List.eq_nil_of_length_eq_zero h0
    obtain rfl : c = 0 := (h4 rfl).2
    simp only [Option.isNone_none, List.length_nil] at hn ⊢
    clear hp h1 h2 h3 h4 h0 hl
    go_enter Try.func38, Try.ntmps38
    go_wp2
    go_ret
    exact ⟨_, _, rfl, (Sep.nil w).rown _ _⟩
  | some a =>
    simp only [Option.isNone_some] at hn
    have hs := hp.off (Only.alloc w (.cells #[] 36) []) (fun _ _ _ => by simp)
    have hown : (w.alloc (.cells #[] 36)).ownsRow 0 36 7 (.slice (some ⟨w.heap.size, 0, none⟩) 0 0) 0 [] := World.ownsRow_made w #[] 0 (Nat.zero_le _) (Nat.zero_le _) rfl
    have s0 : Sep w (w.alloc (.cells #[] 36)) [row 36 7 (.slice (some ⟨w.heap.size, 0, none⟩) 0 0) 0 []] := (Sep.nil w).add (Only.alloc w _ []) hown (fun k hk => by simp [row, Value.ownBlock] at hk; omega)
    clear hp hown h1 h2 h3 h4
    go_enter Try.func38, Try.ntmps38
    go_wp2_with (at_builtin; refine wpList_append_sep rfl _ _ 46 rfl 36 i0 _ 7 88 Try.underlying46 hi hz0 hz1 hz2 rfl (by decide) (.slice (some ⟨w.heap.size, 0, none⟩) 0 0) 0 [] rfl s0 _ xs.length _ rfl hs (fl_one rc_one _) (by unfold maxLen; omega) (by omega) ?_; intro a7 c7 w7 o7 s7; simp only [Nat.zero_add, List.nil_append] at s7 ⊢)
    go_ret
    exact ⟨a7, c7, rfl, s7⟩

theorem all_any {w0 : World} {rs : List Res} (B : Nat) (l : List Re) (v : Value) (w : World) (h : Sep w0 w (row 36 7 v l.length (fl rc l) :: blk B [v] 68 :: rs)) (hl : l.length ≤ 1000000) :
    Calls Try.prog 20 #[.pointer (some ⟨B, 0, none⟩)] w fun e w' => ∃ ao c, e = .returned (.slice ao l.length c) ∧ Sep w w' [row 36 7 (.slice ao l.length c) l.length (fl rc l)] := by
  have hBc := cell_of_one h.tail.head
  have hS := own_src (show w.ownsRow 0 36 7 v l.length (fl rc l) from h.head)
  clear h
  go_enter Try.func20, Try.ntmps20
  go_wp2_with fail
  refine (rclone_any v l _ hS hl).mono ?_
  rintro e w1 ⟨ao, c, rfl, s1⟩
  clear hS hBc
  go_wp2_with fail
  go_ret
  exact ⟨ao, c, rfl, s1⟩
end Go.Proofs.Ytdlbkdnpbcpjfaa
