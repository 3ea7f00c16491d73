/- List of layer 16's book. Ours. -/
import Derived.Test.YtdlbkdnpbcpjfaaBk8
namespace Go.Pw
open Go.RowKit
set_option linter.unusedVariables false
theorem rec_range {w : World} {e k g c : Nat} {α : Type} {enc : α → List Value} (hk : ∀ x, (enc x).length = k) {l : List α} (h : w.ownsRow 0 e k (.slice (some ⟨g, 0, none⟩) l.length c) l.length (fl enc l)) {m : Nat} (hm : m < l.length) : w.rangeAt g (m * k) (enc l[m]) := fun j v hj => by
  have hj' : j < k := by have := (List.getElem?_eq_some_iff.1 hj).1; rwa [hk] at this
  have hlt : m * k + j < l.length * k := by
    have : (m + 1) * k ≤ l.length * k := Nat.mul_le_mul_right _ hm
    rw [Nat.add_mul] at this
    omega
  rw [h.cellAt (m * k + j) hlt, fl_at hk hm hj']
  exact hj
theorem rec_cell {w : World} {e k g c : Nat} {α : Type} {enc : α → List Value} (hk : ∀ x, (enc x).length = k) {l : List α} (h : w.ownsRow 0 e k (.slice (some ⟨g, 0, none⟩) l.length c) l.length (fl enc l)) {m : Nat} (hm : m < l.length) (j : Nat) {v : Value} (hj : (enc l[m])[j]? = some v) : w.cell? ⟨g, m * k + j, none⟩ = some v :=
  rec_range hk h hm j v hj
end Go.Pw
namespace Go.Proofs.Ytdlbkdnpbcpjfaa
open Go.RowKit Go.Pw
set_option linter.unusedVariables false
theorem who_info : (Try.prog.info? 26).map (fun i => (i.zero, i.size, i.bytes)) = some (some (.agg #[.int .i64 0, .int .i64 0]), 2, 16) := by kernel_rfl
def key (r : Re) : Int × Int := (r.u, r.d)
/-- The devices that List tells. -/
def inL (user : Int) (r : Re) : Bool := r.u == user && !r.st
def lstL (l : List Re) (user : Int) : List (Int × Int) := (l.filter (inL user)).map key
theorem lst_snoc (l : List Re) (user : Int) (r : Re) : lstL (l ++ [r]) user = lstL l user ++ (if inL user r = true then [key r] else []) := by
  unfold lstL
  rw [List.filter_append]
  cases h : inL user r <;> simp [h]
theorem lst_len (l : List Re) (user : Int) : (lstL l user).length ≤ l.length := by
  unfold lstL
  rw [List.length_map]
  exact List.length_filter_le _ _

set_option maxRecDepth 100000 in
set_option maxHeartbeats 1600000 in
theorem list_any {w0 : World} {rs : List Res} (B : Nat) (l : List Re) (v : Value) (user : Int) (w : World) (h : Sep w0 w (row 36 7 v l.length (fl rc l) :: blk B [v] 68 :: rs)) (hl : l.length ≤ 1000000) :
    Calls Try.prog 21 #[.pointer (some ⟨B, 0, none⟩), .int .i64 user] w fun e w' => ∃ ao c, e = .returned (.slice ao (lstL l user).length c) ∧ Sep w w' [row 26 2 (.slice ao (lstL l user).length c) (lstL l user).length (fl wc (lstL l user))] := by
  obtain ⟨i0, hi, hz0', hz1', hz2'⟩ := info_parts who_info
  have Hall := all_any B l v w h hl
  clear h
  go_enter Try.func21, Try.ntmps21
  go_wp2_with fail
  refine Hall.mono ?_
  rintro e w1 ⟨aA, cA, rfl, sA⟩
  have s0 : Sep w w1 (row 26 2 (.slice none 0 0) 0 [] :: row 36 7 (.slice aA l.length cA) l.length (fl rc l) :: []) := sA.rown _ _
  clear Hall sA
  go_wp2_with fail
  go_loopw [5, 7, 11] (fun x _ y wr => ∃ (k : Nat) (a1 : Option Addr) (c1 : Nat), x = .slice a1 (lstL (l.take k) user).length c1 ∧ y = .int .i64 k ∧ k ≤ l.length ∧ Pw.Sep w wr (row 26 2 (.slice a1 (lstL (l.take k) user).length c1) (lstL (l.take k) user).length (fl wc (lstL (l.take k) user)) :: row 36 7 (.slice aA l.length cA) l.length (fl rc l) :: [])) (fun _ _ y _ => l.length - (intOf y).toNat)
  case atStart => exact ⟨0, none, 0, rfl, rfl, Nat.zero_le _, s0⟩
  case round =>
    clear s0
    obtain ⟨k, a1, c1, rfl, rfl, hk, hs⟩ := hrel
    by_cases hkk : k < l.length
    · have d1 : decide ((k : Int) < l.length) = true := by simpa using hkk
      have hA : wr.ownsRow 0 36 7 (.slice aA l.length cA) l.length (fl rc l) := (hs.sel 2 [1]).head
      obtain ⟨gA, rfl, _⟩ := own_some hA (by omega)
      have hrng := rec_range rc_len hA hkk
      have htk : lstL (l.take (k + 1)) user = lstL (l.take k) user ++ (if inL user l[k] = true then [key l[k]] else []) := by
        rw [List.take_succ_eq_append_getElem hkk, lst_snoc]
      have hql : (lstL (l.take k) user).length ≤ 1000000 := by have := lst_len (l.take k) user; rw [List.length_take] at this; omega
      generalize l[k] = x at *
      generalize hq : lstL (l.take k) user = q at *
      have g0 : (rc x).toArray[0]? = some (.int .i64 x.u) := rfl
      have g1 : (rc x).toArray[1]? = some (.int .i64 x.d) := rfl
      have g5 : (rc x).toArray[5]? = some (.bool x.st) := rfl
      have hcl := rc_len x
      have h1c : (rc x).toArray.all (·.oneCell') = true := all_oneCell_toArray (rc_one x)
      have Hx : Hid (inL user x = (x.u == user && !x.st) ∧ key x = (x.u, x.d)) := ⟨rfl, rfl⟩
      generalize rc x = cs at *
      generalize x.u = xu at *
      generalize x.d = xd at *
      generalize x.st = xs at *
      clear hq hA
      go_upto_region 5 with (first
        | (refine wpList_load_mid rfl 36 _ rfl gA (k * 7) rfl cs _ hrng Try.underlying36 (by rfl) (by rw [hcl]; kernel_rfl) ?_)
        | (refine wpList_alloc_new rfl 36 rfl rv0 (fun _ => by kernel_rfl) ?_; intro X wX oX hXl hX)
        | (refine wpList_store_blk rfl 36 _ _ rfl X cs rfl rfl hX (by rw [hcl]; rfl) (by rw [hcl]; kernel_rfl) h1c ?_; intro wY oY hY; have hs2 := hs.quiet (oX.new oY (fun i hi => by simp only [List.mem_singleton] at hi; omega)); have y0 := (cell_in hY 0).trans g0; have y1 := (cell_in hY 1).trans g1; have y5 := (cell_in hY 5).trans g5; clear hs hX oX oY hrng))
      obtain ⟨hI, hK⟩ := Hx.out
      clear Hx
      by_cases b1 : (xu == user) = true
      · cases xs with
        | false =>
          obtain rfl : xu = user := by simpa using b1
          replace htk : Hid (fl wc q ++ wc (xu, xd) = fl wc (lstL (l.take (k + 1)) xu) ∧ (lstL (l.take (k + 1)) xu).length = q.length + 1) := by
            show _ ∧ _
            rw [htk, if_pos (by rw [hI]; simp), hK, fl_app]
            exact ⟨rfl, by simp⟩
          clear hI hK b1
          go_wp2_with (at_builtin; refine wpList_append_sep rfl _ _ 48 rfl 26 i0 _ 2 16 Try.underlying48 hi hz0' hz1' hz2' rfl (by decide) (.slice a1 q.length c1) q.length _ rfl (hs2.quiet (Only.alloc _ (.cells #[.int .i64 xu, .int .i64 xd] 26) [])) _ 1 (wc (xu, xd)) rfl (src_lit _ [.int .i64 xu, .int .i64 xd] _ 1 2 rfl) (wc_one _) (by unfold maxLen; omega) (by omega) ?_; intro a7 c7 w7 o7 s7; rw [htk.out.1] at s7)
          refine ⟨⟨k + 1, a7, c7, by rw [htk.out.2], by simp, by omega, by rw [htk.out.2]; exact s7⟩, by simp [intOf]; omega⟩
        | true =>
          obtain rfl : xu = user := by simpa using b1
          replace htk : Hid (lstL (l.take (k + 1)) xu = q) := by
            show _ = _
            rw [htk, if_neg (by rw [hI]; simp), List.append_nil]
          clear hI hK b1
          go_wp2_with fail
          refine ⟨⟨k + 1, a1, c1, by rw [htk.out], by simp, by omega, by rw [htk.out]; exact hs2⟩, by simp [intOf]; omega⟩
      · have b2 : (xu == user) = false := by simpa using b1
        replace htk : Hid (lstL (l.take (k + 1)) user = q) := by
          show _ = _
          rw [htk, if_neg (by rw [hI, b2]; simp), List.append_nil]
        clear hI hK b1
        go_wp2_with fail
        refine ⟨⟨k + 1, a1, c1, by rw [htk.out], by simp, by omega, by rw [htk.out]; exact hs2⟩, by simp [intOf]; omega⟩
    · obtain rfl : k = l.length := by omega
      have d1 : decide ((l.length : Int) < l.length) = false := by simp
      rw [List.take_length] at hs
      rw [List.take_length]
      have s3 := hs.sel 2 [0]
      clear hs
      go_wp2_with fail
      go_ret
      exact ⟨a1, c1, rfl, s3⟩
end Go.Proofs.Ytdlbkdnpbcpjfaa
