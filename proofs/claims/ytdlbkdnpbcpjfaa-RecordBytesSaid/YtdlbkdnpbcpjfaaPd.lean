/- Several texts in one: Bk8, Bk9. -/
import Derived.Test.YtdlbkdnpbcpjfaaPc
import Derived.Test.YtdlbkdnpbcpjfaaPk
set_option linter.unusedSimpArgs false
set_option linter.unusedVariables false
/- Queue.Len, All of layer 16's book. Ours. -/
namespace Go.Proofs.Ytdlbkdnpbcpjfaa
open Go.RowKit Go.Pw
set_option linter.unusedVariables false

theorem qlen_any (B : Nat) (ao : Option Addr) (n c : Nat) (w : World) (h : w.heap[B]? = some (.cells #[.slice ao n c] 74 (0, 0))) : Calls Try.prog 41 #[.pointer (some ⟨B, 0, none⟩)] w fun e w' => e = .returned (.int .i64 n) ∧ w' = w := by
  have hc0 := cell_of_one h
  go_enter Try.func41, Try.ntmps41
  go_wp2
  go_ret
  exact ⟨rfl, rfl⟩

theorem rec_info8 : (Try.prog.info? 36).map (fun i => (i.zero, i.size, i.bytes)) = some (some rv0, 7, 88) := by kernel_rfl
set_option maxRecDepth 100000 in
set_option maxHeartbeats 1600000 in
/-- rclone. -/
theorem rclone_any (p : Value) (xs : List Re) (w : World) (hp : Pw.Src w p 7 xs.length (fl rc xs)) (hl : xs.length ≤ 1000000) :
    Calls Try.prog 38 #[p] w (fun e w' => ∃ ao c, e = .returned (.slice ao xs.length c) ∧ Sep w w' [row 36 7 (.slice ao xs.length c) xs.length (fl rc xs)]) := by
  obtain ⟨i0, hi, hz0, hz1, hz2⟩ := info_parts rec_info8
  obtain ⟨ao, c, rfl, h1, h2, h3, h4, _⟩ := id hp
  have hn := Lib.run_eql_slice_nil (P := Try.prog) w 46 36 ao xs.length c 0 0 Try.underlying46
  cases ao with
  | none =>
    have h0 := (h4 rfl).1
    obtain rfl : xs = [] := List.eq_nil_of_length_eq_zero h0
    obtain rfl : c = 0 := (h4 rfl).2
    simp only [Option.isNone_none, List.length_nil] at hn ⊢
    clear hp h1 h2 h3 h4 h0 hl
    go_enter Try.func38, Try.ntmps38
    go_wp2
    go_ret
    exact ⟨_, _, rfl, (Sep.nil w).rown _ _⟩
  | some a =>
    simp only [Option.isNone_some] at hn
    have hs := hp.off (Only.alloc w (.cells #[] 36) []) (fun _ _ _ => by simp)
    have hown : (w.alloc (.cells #[] 36)).ownsRow 0 36 7 (.slice (some ⟨w.heap.size, 0, none⟩) 0 0) 0 [] := World.ownsRow_made w #[] 0 (Nat.zero_le _) (Nat.zero_le _) rfl
    have s0 : Sep w (w.alloc (.cells #[] 36)) [row 36 7 (.slice (some ⟨w.heap.size, 0, none⟩) 0 0) 0 []] := (Sep.nil w).add (Only.alloc w _ []) hown (fun k hk => by simp [row, Value.ownBlock] at hk; omega)
    clear hp hown h1 h2 h3 h4
    go_enter Try.func38, Try.ntmps38
    go_wp2_with (at_builtin; refine wpList_append_sep rfl _ _ 46 rfl 36 i0 _ 7 88 Try.underlying46 hi hz0 hz1 hz2 rfl (by decide) (.slice (some ⟨w.heap.size, 0, none⟩) 0 0) 0 [] rfl s0 _ xs.length _ rfl hs (fl_one rc_one _) (by unfold maxLen; omega) (by omega) ?_; intro a7 c7 w7 o7 s7; simp only [Nat.zero_add, List.nil_append] at s7 ⊢)
    go_ret
    exact ⟨a7, c7, rfl, s7⟩

theorem all_any {w0 : World} {rs : List Res} (B : Nat) (l : List Re) (v : Value) (w : World) (h : Sep w0 w (row 36 7 v l.length (fl rc l) :: blk B [v] 68 :: rs)) (hl : l.length ≤ 1000000) :
    Calls Try.prog 20 #[.pointer (some ⟨B, 0, none⟩)] w fun e w' => ∃ ao c, e = .returned (.slice ao l.length c) ∧ Sep w w' [row 36 7 (.slice ao l.length c) l.length (fl rc l)] := by
  have hBc := cell_of_one h.tail.head
  have hS := own_src (show w.ownsRow 0 36 7 v l.length (fl rc l) from h.head)
  clear h
  go_enter Try.func20, Try.ntmps20
  go_wp2_with fail
  refine (rclone_any v l _ hS hl).mono ?_
  rintro e w1 ⟨ao, c, rfl, s1⟩
  clear hS hBc
  go_wp2_with fail
  go_ret
  exact ⟨ao, c, rfl, s1⟩
end Go.Proofs.Ytdlbkdnpbcpjfaa

/- List of layer 16's book. Ours. -/
namespace Go.Pw
open Go.RowKit
set_option linter.unusedVariables false
theorem rec_range {w : World} {e k g c : Nat} {α : Type} {enc : α → List Value} (hk : ∀ x, (enc x).length = k) {l : List α} (h : w.ownsRow 0 e k (.slice (some ⟨g, 0, none⟩) l.length c) l.length (fl enc l)) {m : Nat} (hm : m < l.length) : w.rangeAt g (m * k) (enc l[m]) := fun j v hj => by
  have hj' : j < k := by have := (List.getElem?_eq_some_iff.1 hj).1; rwa [hk] at this
  have hlt : m * k + j < l.length * k := by
    have : (m + 1) * k ≤ l.length * k := Nat.mul_le_mul_right _ hm
    rw [Nat.add_mul] at this
    omega
  rw [h.cellAt (m * k + j) hlt, fl_at hk hm hj']
  exact hj
theorem rec_cell {w : World} {e k g c : Nat} {α : Type} {enc : α → List Value} (hk : ∀ x, (enc x).length = k) {l : List α} (h : w.ownsRow 0 e k (.slice (some ⟨g, 0, none⟩) l.length c) l.length (fl enc l)) {m : Nat} (hm : m < l.length) (j : Nat) {v : Value} (hj : (enc l[m])[j]? = some v) : w.cell? ⟨g, m * k + j, none⟩ = some v :=
  rec_range hk h hm j v hj
end Go.Pw
namespace Go.Proofs.Ytdlbkdnpbcpjfaa
open Go.RowKit Go.Pw
set_option linter.unusedVariables false
theorem who_info : (Try.prog.info? 26).map (fun i => (i.zero, i.size, i.bytes)) = some (some (.agg #[.int .i64 0, .int .i64 0]), 2, 16) := by kernel_rfl
def key (r : Re) : Int × Int := (r.u, r.d)
/-- The devices that List tells. -/
def inL (user : Int) (r : Re) : Bool := r.u == user && !r.st
def lstL (l : List Re) (user : Int) : List (Int × Int) := (l.filter (inL user)).map key
theorem lst_snoc (l : List Re) (user : Int) (r : Re) : lstL (l ++ [r]) user = lstL l user ++ (if inL user r = true then [key r] else []) := by
  unfold lstL
  rw [List.filter_append]
  cases h : inL user r <;> simp [h]
theorem lst_len (l : List Re) (user : Int) : (lstL l user).length ≤ l.length := by
  unfold lstL
  rw [List.length_map]
  exact List.length_filter_le _ _

set_option maxRecDepth 100000 in
set_option maxHeartbeats 1600000 in
theorem list_any {w0 : World} {rs : List Res} (B : Nat) (l : List Re) (v : Value) (user : Int) (w : World) (h : Sep w0 w (row 36 7 v l.length (fl rc l) :: blk B [v] 68 :: rs)) (hl : l.length ≤ 1000000) :
    Calls Try.prog 21 #[.pointer (some ⟨B, 0, none⟩), .int .i64 user] w fun e w' => ∃ ao c, e = .returned (.slice ao (lstL l user).length c) ∧ Sep w w' [row 26 2 (.slice ao (lstL l user).length c) (lstL l user).length (fl wc (lstL l user))] := by
  obtain ⟨i0, hi, hz0', hz1', hz2'⟩ := info_parts who_info
  have Hall := all_any B l v w h hl
  clear h
  go_enter Try.func21, Try.ntmps21
  go_wp2_with fail
  refine Hall.mono ?_
  rintro e w1 ⟨aA, cA, rfl, sA⟩
  have s0 : Sep w w1 (row 26 2 (.slice none 0 0) 0 [] :: row 36 7 (.slice aA l.length cA) l.length (fl rc l) :: []) := sA.rown _ _
  clear Hall sA
  go_wp2_with fail
  go_loopw [5, 7, 11] (fun x _ y wr => ∃ (k : Nat) (a1 : Option Addr) (c1 : Nat), x = .slice a1 (lstL (l.take k) user).length c1 ∧ y = .int .i64 k ∧ k ≤ l.length ∧ Pw.Sep w wr (row 26 2 (.slice a1 (lstL (l.take k) user).length c1) (lstL (l.take k) user).length (fl wc (lstL (l.take k) user)) :: row 36 7 (.slice aA l.length cA) l.length (fl rc l) :: [])) (fun _ _ y _ => l.length - (intOf y).toNat)
  case atStart => exact ⟨0, none, 0, rfl, rfl, Nat.zero_le _, s0⟩
  case round =>
    clear s0
    obtain ⟨k, a1, c1, rfl, rfl, hk, hs⟩ := hrel
    by_cases hkk : k < l.length
    · have d1 : decide ((k : Int) < l.length) = true := by simpa using hkk
      have hA : wr.ownsRow 0 36 7 (.slice aA l.length cA) l.length (fl rc l) := (hs.sel 2 [1]).head
      obtain ⟨gA, rfl, _⟩ := own_some hA (by omega)
      have hrng := rec_range rc_len hA hkk
      have htk : lstL (l.take (k + 1)) user = lstL (l.take k) user ++ (if inL user l[k] = true then [key l[k]] else []) := by
        rw [List.take_succ_eq_append_getElem hkk, lst_snoc]
      have hql : (lstL (l.take k) user).length ≤ 1000000 := by have := lst_len (l.take k) user; rw [List.length_take] at this; omega
      generalize l[k] = x at *
      generalize hq : lstL (l.take k) user = q at *
      have g0 : (rc x).toArray[0]? = some (.int .i64 x.u) := rfl
      have g1 : (rc x).toArray[1]? = some (.int .i64 x.d) := rfl
      have g5 : (rc x).toArray[5]? = some (.bool x.st) := rfl
      have hcl := rc_len x
      have h1c : (rc x).toArray.all (·.oneCell') = true := all_oneCell_toArray (rc_one x)
      have Hx : Hid (inL user x = (x.u == user && !x.st) ∧ key x = (x.u, x.d)) := ⟨rfl, rfl⟩
      generalize rc x = cs at *
      generalize x.u = xu at *
      generalize x.d = xd at *
      generalize x.st = xs at *
      clear hq hA
      go_upto_region 5 with (first
        | (refine wpList_load_mid rfl 36 _ rfl gA (k * 7) rfl cs _ hrng Try.underlying36 (by rfl) (by rw [hcl]; kernel_rfl) ?_)
        | (refine wpList_alloc_new rfl 36 rfl rv0 (fun _ => by kernel_rfl) ?_; intro X wX oX hXl hX)
        | (refine wpList_store_blk rfl 36 _ _ rfl X cs rfl rfl hX (by rw [hcl]; rfl) (by rw [hcl]; kernel_rfl) h1c ?_; intro wY oY hY; have hs2 := hs.quiet (oX.new oY (fun i hi => by simp only [List.mem_singleton] at hi; omega)); have y0 := (cell_in hY 0).trans g0; have y1 := (cell_in hY 1).trans g1; have y5 := (cell_in hY 5).trans g5; clear hs hX oX oY hrng))
      obtain ⟨hI, hK⟩ := Hx.out
      clear Hx
      by_cases b1 : (xu == user) = true
      · cases xs with
        | false =>
          obtain rfl : xu = user := by simpa using b1
          replace htk : Hid (fl wc q ++ wc (xu, xd) = fl wc (lstL (l.take (k + 1)) xu) ∧ (lstL (l.take (k + 1)) xu).length = q.length + 1) := by
            show _ ∧ _
            rw [htk, if_pos (by rw [hI]; simp), hK, fl_app]
            exact ⟨rfl, by simp⟩
          clear hI hK b1
          go_wp2_with (at_builtin; refine wpList_append_sep rfl _ _ 48 rfl 26 i0 _ 2 16 Try.underlying48 hi hz0' hz1' hz2' rfl (by decide) (.slice a1 q.length c1) q.length _ rfl (hs2.quiet (Only.alloc _ (.cells #[.int .i64 xu, .int .i64 xd] 26) [])) _ 1 (wc (xu, xd)) rfl (src_lit _ [.int .i64 xu, .int .i64 xd] _ 1 2 rfl) (wc_one _) (by unfold maxLen; omega) (by omega) ?_; intro a7 c7 w7 o7 s7; rw [htk.out.1] at s7)
          refine ⟨⟨k + 1, a7, c7, by rw [htk.out.2], by simp, by omega, by rw [htk.out.2]; exact s7⟩, by simp [intOf]; omega⟩
        | true =>
          obtain rfl : xu = user := by simpa using b1
          replace htk : Hid (lstL (l.take (k + 1)) xu = q) := by
            show _ = _
            rw [htk, if_neg (by rw [hI]; simp), List.append_nil]
          clear hI hK b1
          go_wp2_with fail
          refine ⟨⟨k + 1, a1, c1, by rw [htk.out], by simp, by omega, by rw [htk.out]; exact hs2⟩, by simp [intOf]; omega⟩
      · have b2 : (xu == user) = false := by simpa using b1
        replace htk : Hid (lstL (l.take (k + 1)) user = q) := by
          show _ = _
          rw [htk, if_neg (by rw [hI, b2]; simp), List.append_nil]
        clear hI hK b1
        go_wp2_with fail
        refine ⟨⟨k + 1, a1, c1, by rw [htk.out], by simp, by omega, by rw [htk.out]; exact hs2⟩, by simp [intOf]; omega⟩
    · obtain rfl : k = l.length := by omega
      have d1 : decide ((l.length : Int) < l.length) = false := by simp
      rw [List.take_length] at hs
      rw [List.take_length]
      have s3 := hs.sel 2 [0]
      clear hs
      go_wp2_with fail
      go_ret
      exact ⟨a1, c1, rfl, s3⟩
end Go.Proofs.Ytdlbkdnpbcpjfaa

