/- List, Next, Audience of layer 17 (registry). Printed by gen_rg3.py. -/
import Derived.Test.YteljkfihmbddaaaRg2
namespace Go.Proofs.Yteljkfihmbddaaa
open Go.RowKit Go.Pw
set_option linter.unusedVariables false

/-- A user's devices that are. -/
def listL (l : List Li) (user : Int) : List (Int × Int) := (keys l).filter fun p => p.1 == user && isL l p.1 p.2

theorem filter_snoc {α : Type} (f : α → Bool) (l : List α) (x : α) : (l ++ [x]).filter f = l.filter f ++ (if f x = true then [x] else []) := by
  rw [List.filter_append]
  cases h : f x <;> simp [h]
theorem keys_len (l : List Li) : (keys l).length = l.length := by simp [keys]

theorem list_nil (user : Int) (w : World) :
    Calls Try.prog 10 #[.pointer none, .int .i64 user] w fun e w' => e = .returned (.slice none 0 0) ∧ Only w w' [] := by
  go_enter Try.func10, Try.ntmps10
  go_wp2_with fail
  refine (all_nil _).mono ?_
  rintro e w1 ⟨rfl, o⟩
  go_wp2_with fail
  go_loopw [5, 11] (fun x y wr => x = .slice none 0 0 ∧ y = .int .i64 0 ∧ Only w wr []) (fun _ _ _ => 0)
  case atStart => exact ⟨rfl, rfl, o⟩
  case round =>
    obtain ⟨rfl, rfl, o⟩ := hrel
    go_wp2_with fail
    go_ret
    exact ⟨rfl, o⟩
theorem audience_nil (u d to : Int) (w : World) :
    Calls Try.prog 27 #[.pointer none, wv u d, .int .i64 to] w fun e w' => e = .returned (.slice none 0 0) ∧ Only w w' [] := by
  simp only [wv]
  go_enter Try.func27, Try.ntmps27
  go_wp2_with fail
  refine (all_nil _).mono ?_
  rintro e w1 ⟨rfl, o⟩
  go_wp2_with fail
  go_loopw [7, 13] (fun x y wr => x = .slice none 0 0 ∧ y = .int .i64 0 ∧ Only w wr []) (fun _ _ _ => 0)
  case atStart => exact ⟨rfl, rfl, (Only.alloc _ _ _).trans o⟩
  case round =>
    obtain ⟨rfl, rfl, o⟩ := hrel
    go_wp2_with fail
    go_ret
    exact ⟨rfl, o⟩

set_option maxRecDepth 100000 in
set_option maxHeartbeats 3200000 in
theorem list_any {w0 : World} {rs : List Res} (B : Nat) (l : List Li) (v : Value) (user : Int) (w : World) (h : Sep w0 w (row 76 14 v l.length (fl lc l) :: blk B [v] 72 :: rs)) (hl : l.length ≤ 1000000) (hr : Rise l) :
    Calls Try.prog 10 #[.pointer (some ⟨B, 0, none⟩), .int .i64 user] w (Whos (listL l user) w) := by
  obtain ⟨i0, hi, hz0, hz1, hz2⟩ := info_parts who_info
  have Hall := all_any B l v w h hl
  have His := fun (u d : Int) (w' : World) (o : Only w w' []) => is_any B l v u d w' (h.quiet o) hl hr
  have hkl := keys_len l
  have hLL : listL l user = (keys l).filter fun p => p.1 == user && isL l p.1 p.2 := rfl
  rw [hLL]
  clear hLL
  generalize keys l = ks at *
  clear h hr
  obtain ⟨F, hF⟩ : ∃ F : Int × Int → Bool, F = fun p => p.1 == user && isL l p.1 p.2 := ⟨_, rfl⟩
  rw [← hF]
  have HF := Lib.hid (fun p : Int × Int => show F p = (p.1 == user && isL l p.1 p.2) by rw [hF])
  clear hF
  go_enter Try.func10, Try.ntmps10
  go_wp2_with fail
  refine Hall.mono ?_
  rintro e w1 ⟨aA, cA, rfl, sA⟩
  clear Hall
  go_wp2_with fail
  go_loopw [5, 11] (fun x y wr => ∃ (k : Nat) (a1 : Option Addr) (c1 : Nat), x = .slice a1 ((ks.take k).filter F).length c1 ∧ y = .int .i64 k ∧ k ≤ ks.length ∧ Sep w wr [row 30 2 (.slice a1 ((ks.take k).filter F).length c1) ((ks.take k).filter F).length (fl wc ((ks.take k).filter F)), row 30 2 (.slice aA ks.length cA) ks.length (fl wc ks)]) (fun _ y _ => ks.length - (intOf y).toNat)
  case atStart => exact ⟨0, none, 0, rfl, rfl, Nat.zero_le _, sA.rown _ _⟩
  case round =>
    clear sA
    obtain ⟨k, a1, c1, rfl, rfl, hk, hs⟩ := hrel
    by_cases hkk : k < ks.length
    · have d1 : decide ((k : Int) < ks.length) = true := by simpa using hkk
      have hA : wr.ownsRow 0 30 2 (.slice aA ks.length cA) ks.length (fl wc ks) := hs.tail.head
      obtain ⟨gA, rfl, _⟩ := own_some hA (by omega)
      have e0 := rec_cell wc_len hA hkk 0 (v := .int .i64 ks[k].1) rfl
      have e1 := rec_cell wc_len hA hkk 1 (v := .int .i64 ks[k].2) rfl
      rw [Nat.add_zero] at e0
      have htk : (ks.take (k + 1)).filter F = (ks.take k).filter F ++ (if F ks[k] = true then [ks[k]] else []) := by
        rw [List.take_succ_eq_append_getElem hkk, filter_snoc]
      have hFk := HF.out ks[k]
      generalize ks[k] = p at *
      obtain ⟨pu, pd⟩ := p
      simp only at e0 e1 hFk
      have hql : ((ks.take k).filter F).length ≤ 1000000 := by have := List.length_filter_le F (ks.take k); rw [List.length_take] at this; omega
      generalize hq : (ks.take k).filter F = q at *
      have h1c : ([.int .i64 pu, .int .i64 pd] : List Value).toArray.all (·.oneCell') = true := by simp [Value.oneCell']
      clear hq hA
      by_cases hu : pu = user
      · have du : (pu == user) = true := by simpa using hu
        rw [du, Bool.true_and] at hFk
        clear hu
        go_wp2_with (first
          | (refine wpList_alloc_new rfl 30 rfl (.agg #[.int .i64 0, .int .i64 0]) (fun _ => by kernel_rfl) ?_; intro X wX oX hXl hX)
          | (refine wpList_store_blk rfl 30 _ _ rfl X [.int .i64 pu, .int .i64 pd] rfl rfl hX rfl (by kernel_rfl) h1c ?_; intro wY oY hY; have hs2 := hs.quiet (oX.new oY (fun i hi => by simp only [List.mem_singleton] at hi; omega)); have hy0 := cell_two0 hY; have hy1 := cell_two1 hY; clear hs hX oX oY e0 e1))
        refine (His pu pd _ hs2.only).mono ?_
        cases hI : isL l pu pd with
        | true =>
          rintro e w3 ⟨rfl, o3⟩
          rw [hI] at hFk
          have htk : Hid (fl wc q ++ wc (pu, pd) = fl wc ((ks.take (k + 1)).filter F) ∧ ((ks.take (k + 1)).filter F).length = q.length + 1) := by
            show _ ∧ _
            rw [htk, if_pos hFk, fl_app]
            exact ⟨rfl, by simp⟩
          clear hFk hI du
          have hs3 := hs2.quiet o3
          have hY3 := o3.at hY (by simp)
          clear hs2 o3 hY hy0 hy1
          have hy0 := cell_two0 hY3
          have hy1 := cell_two1 hY3
          go_wp2_with (at_builtin; refine wpList_append_sep rfl _ _ 31 rfl 30 i0 _ 2 16 Try.underlying31 hi hz0 hz1 hz2 rfl (by decide) (.slice a1 q.length c1) q.length _ rfl (hs3.quiet (Only.alloc _ (.cells #[.int .i64 pu, .int .i64 pd] 30) [])) _ 1 (wc (pu, pd)) rfl (src_lit _ [.int .i64 pu, .int .i64 pd] _ 1 2 rfl) (wc_one _) (by unfold maxLen; omega) (by omega) ?_; intro a7 c7 w7 o7 s7; rw [htk.out.1] at s7)
          refine ⟨⟨k + 1, a7, c7, by rw [htk.out.2], by simp, by omega, by rw [htk.out.2]; exact s7⟩, by simp [intOf]; omega⟩
        | false =>
          rintro e w3 ⟨rfl, o3⟩
          rw [hI] at hFk
          have htk : Hid ((ks.take (k + 1)).filter F = q) := by
            show _ = _
            rw [htk, if_neg (by rw [hFk]; simp), List.append_nil]
          clear hFk hI du
          have hs3 := hs2.quiet o3
          clear hs2 o3 hY hy0 hy1
          go_wp2_with fail
          refine ⟨⟨k + 1, a1, c1, by rw [htk.out], by simp, by omega, by rw [htk.out]; exact hs3⟩, by simp [intOf]; omega⟩
      · have du : (pu == user) = false := by simpa using hu
        rw [du, Bool.false_and] at hFk
        have htk : Hid ((ks.take (k + 1)).filter F = q) := by
          show _ = _
          rw [htk, if_neg (by rw [hFk]; simp), List.append_nil]
        clear hu hFk
        go_wp2_with (first
          | (refine wpList_alloc_new rfl 30 rfl (.agg #[.int .i64 0, .int .i64 0]) (fun _ => by kernel_rfl) ?_; intro X wX oX hXl hX)
          | (refine wpList_store_blk rfl 30 _ _ rfl X [.int .i64 pu, .int .i64 pd] rfl rfl hX rfl (by kernel_rfl) h1c ?_; intro wY oY hY; have hs2 := hs.quiet (oX.new oY (fun i hi => by simp only [List.mem_singleton] at hi; omega)); have hy0 := cell_two0 hY; have hy1 := cell_two1 hY; clear hs hX oX oY e0 e1))
        refine ⟨⟨k + 1, a1, c1, by rw [htk.out], by simp, by omega, by rw [htk.out]; exact hs2⟩, by simp [intOf]; omega⟩
    · obtain rfl : k = ks.length := by omega
      have d1 : decide ((ks.length : Int) < ks.length) = false := by simp
      rw [List.take_length] at hs ⊢
      go_wp2_with fail
      go_ret
      exact ⟨a1, c1, rfl, hs.sel 2 [0]⟩
end Go.Proofs.Yteljkfihmbddaaa
