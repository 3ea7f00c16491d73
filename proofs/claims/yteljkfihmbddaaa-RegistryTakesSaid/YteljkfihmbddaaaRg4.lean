/- Next, Left, Ident of layer 17 (registry). Printed by gen_rg4.py. -/
import Derived.Test.YteljkfihmbddaaaRg3
namespace Go.Proofs.Yteljkfihmbddaaa
open Go.RowKit Go.Pw
set_option linter.unusedVariables false

theorem next_nil (user : Int) (w : World) :
    Calls Try.prog 11 #[.pointer none, .int .i64 user] w fun e w' => e = .returned (.tuple #[wv 0 0, .int .i64 1]) ∧ Only w w' [] := by
  have h1c : ([.int .i64 0, .int .i64 0] : List Value).toArray.all (·.oneCell') = true := by simp [Value.oneCell']
  go_enter Try.func11, Try.ntmps11
  go_wp2_with (first
    | (refine wpList_alloc_new rfl 30 rfl (.agg #[.int .i64 0, .int .i64 0]) (fun _ => by kernel_rfl) ?_; intro X wX oX hXl hX)
    | (refine wpList_store_blk rfl 30 _ _ rfl X [.int .i64 0, .int .i64 0] rfl rfl hX rfl (by kernel_rfl) h1c ?_; intro wY oY hY; have oF := oX.new oY (fun i hi => by simp only [List.mem_singleton] at hi; omega); have hy0 := cell_two0 hY; have hy1 := cell_two1 hY))
  refine bodyPost_ret (v := .tuple #[.agg #[.int .i64 0, .int .i64 0], .int .i64 1]) (by simp [results, Try.results11, go_sem, hy0, hy1]) rfl ?_
  exact ⟨rfl, oF⟩

/-- What Next tells. -/
def cntL (l : List Li) (user : Int) : Nat := ((keys l).filter fun p => p.1 == user).length
def nextD (l : List Li) (user : Int) : (Int × Int) × Int :=
  if user < 0 ∨ 8 ≤ user then ((0, 0), 1) else if 4 ≤ (listL l user).length then ((0, 0), 3) else ((user, cntL l user + 1), 0)

set_option maxRecDepth 100000 in
set_option maxHeartbeats 3200000 in
theorem next_any {w0 : World} {rs : List Res} (B : Nat) (l : List Li) (v : Value) (user : Int) (w : World) (h : Sep w0 w (row 76 14 v l.length (fl lc l) :: blk B [v] 72 :: rs)) (hl : l.length ≤ 1000000) (hr : Rise l) :
    Calls Try.prog 11 #[.pointer (some ⟨B, 0, none⟩), .int .i64 user] w fun e w' => e = .returned (.tuple #[wv (nextD l user).1.1 (nextD l user).1.2, .int .i64 (nextD l user).2]) ∧ Only w w' [] := by
  have Hlist := fun (w' : World) (o : Only w w' []) => list_any B l v user w' (h.quiet o) hl hr
  have h1z : ([.int .i64 0, .int .i64 0] : List Value).toArray.all (·.oneCell') = true := by simp [Value.oneCell']
  by_cases hu : user < 0 ∨ 8 ≤ user
  · have e : nextD l user = ((0, 0), 1) := if_pos hu
    rw [e]
    by_cases hn : user < 0
    · have d1 : decide (user < 0) = true := by simpa using hn
      clear e hu Hlist h
      go_enter Try.func11, Try.ntmps11
      go_wp2_with (first
        | (refine wpList_alloc_new rfl 30 rfl (.agg #[.int .i64 0, .int .i64 0]) (fun _ => by kernel_rfl) ?_; intro X wX oX hXl hX)
        | (refine wpList_store_blk rfl 30 _ _ rfl X [.int .i64 0, .int .i64 0] rfl rfl hX rfl (by kernel_rfl) h1z ?_; intro wY oY hY; have oF := oX.new oY (fun i hi => by simp only [List.mem_singleton] at hi; omega); have hy0 := cell_two0 hY; have hy1 := cell_two1 hY))
      refine bodyPost_ret (v := .tuple #[.agg #[.int .i64 0, .int .i64 0], .int .i64 1]) (by simp [results, Try.results11, go_sem, hy0, hy1]) rfl ?_
      exact ⟨rfl, oF⟩
    · have d1 : decide (user < 0) = false := by simpa using hn
      have d2 : decide (8 ≤ user) = true := by simp; omega
      clear e hu Hlist h
      go_enter Try.func11, Try.ntmps11
      go_wp2_with (first
        | (refine wpList_alloc_new rfl 30 rfl (.agg #[.int .i64 0, .int .i64 0]) (fun _ => by kernel_rfl) ?_; intro X wX oX hXl hX)
        | (refine wpList_store_blk rfl 30 _ _ rfl X [.int .i64 0, .int .i64 0] rfl rfl hX rfl (by kernel_rfl) h1z ?_; intro wY oY hY; have oF := oX.new oY (fun i hi => by simp only [List.mem_singleton] at hi; omega); have hy0 := cell_two0 hY; have hy1 := cell_two1 hY))
      refine bodyPost_ret (v := .tuple #[.agg #[.int .i64 0, .int .i64 0], .int .i64 1]) (by simp [results, Try.results11, go_sem, hy0, hy1]) rfl ?_
      exact ⟨rfl, oF⟩
  · have d1 : decide (user < 0) = false := by simp; omega
    have d2 : decide (8 ≤ user) = false := by simp; omega
    have hll : (listL l user).length ≤ 1000000 := by have h1 := List.length_filter_le (fun p : Int × Int => p.1 == user && isL l p.1 p.2) (keys l); rw [keys_len] at h1; unfold listL; omega
    by_cases h4 : 4 ≤ (listL l user).length
    · have e : nextD l user = ((0, 0), 3) := by unfold nextD; rw [if_neg hu, if_pos h4]
      rw [e]
      have d3 : decide ((4 : Int) ≤ (listL l user).length) = true := by simp; omega
      generalize listL l user = q at *
      clear e hu h hr
      go_enter Try.func11, Try.ntmps11
      go_wp2_with (refine wpList_alloc_new rfl 30 rfl (.agg #[.int .i64 0, .int .i64 0]) (fun _ => by kernel_rfl) ?_; intro X wX oX hXl hX)
      refine (Hlist _ oX).mono ?_
      rintro e w1 ⟨aA, cA, rfl, sA⟩
      have hX1 := sA.only.at hX (by simp)
      have o1 := oX.trans sA.only
      clear Hlist hX oX sA h4
      go_wp2_with (refine wpList_store_blk rfl 30 _ _ rfl X [.int .i64 0, .int .i64 0] rfl rfl hX1 rfl (by kernel_rfl) h1z ?_; intro wY oY hY; have oF := o1.new oY (fun i hi => by simp only [List.mem_singleton] at hi; omega); have hy0 := cell_two0 hY; have hy1 := cell_two1 hY)
      refine bodyPost_ret (v := .tuple #[.agg #[.int .i64 0, .int .i64 0], .int .i64 3]) (by simp [results, Try.results11, go_sem, hy0, hy1]) rfl ?_
      exact ⟨rfl, oF⟩
    · have e : nextD l user = ((user, (cntL l user : Int) + 1), 0) := by unfold nextD; rw [if_neg hu, if_neg h4]
      rw [e]
      have d3 : decide ((4 : Int) ≤ (listL l user).length) = false := by simp; omega
      have hc : cntL l user = ((keys (l.take l.length)).filter fun p => p.1 == user).length := by rw [List.take_length]; rfl
      have hcl : cntL l user ≤ 1000000 := by have h1 := List.length_filter_le (fun p : Int × Int => p.1 == user) (keys l); rw [keys_len] at h1; unfold cntL; omega
      generalize listL l user = q at *
      have HC := Lib.hid hc
      clear hc
      generalize cntL l user = cn at *
      have h1u : ([.int .i64 user, .int .i64 ((cn : Int) + 1)] : List Value).toArray.all (·.oneCell') = true := by simp [Value.oneCell']
      obtain ⟨ao, c, rfl⟩ := own_slice (show w.ownsRow 0 _ 14 v l.length (fl lc l) from h.head)
      clear e hu hr
      go_enter Try.func11, Try.ntmps11
      go_wp2_with (refine wpList_alloc_new rfl 30 rfl (.agg #[.int .i64 0, .int .i64 0]) (fun _ => by kernel_rfl) ?_; intro X wX oX hXl hX)
      refine (Hlist _ oX).mono ?_
      rintro e w1 ⟨aA, cA, rfl, sA⟩
      have hX1 := sA.only.at hX (by simp)
      have o1 := oX.trans sA.only
      have h1 := h.quiet o1
      have hBc := cell_of_one h1.tail.head
      clear Hlist hX oX sA h4 h
      go_wp2_with fail
      clear hBc
      go_loopw [6, 31] (fun x y wr => ∃ (k : Nat), x = .int .i64 (((keys (l.take k)).filter fun p => p.1 == user).length : Nat) ∧ y = .int .i64 k ∧ k ≤ l.length ∧ Only w1 wr []) (fun _ y _ => l.length - (intOf y).toNat)
      case atStart => exact ⟨0, rfl, rfl, Nat.zero_le _, Only.refl _ _⟩
      case round =>
        obtain ⟨k, rfl, rfl, hk, hs⟩ := hrel
        by_cases hkl : k < l.length
        · have dk : decide ((k : Int) < l.length) = true := by simpa using hkl
          obtain ⟨g, rfl, _⟩ := own_some (show w1.ownsRow 0 _ 14 (.slice ao l.length c) l.length (fl lc l) from h1.head) (by omega)
          have hrng : wr.rangeAt g (k * 14) (lc l[k]) := rec_range lc_len (h1.quiet hs).head hkl
          have htk : ((keys (l.take (k + 1))).filter fun p => p.1 == user) = ((keys (l.take k)).filter fun p => p.1 == user) ++ (if (l[k].u == user) = true then [(l[k].u, l[k].d)] else []) := by
            rw [List.take_succ_eq_append_getElem hkl, keys, keys, List.map_append, List.map_singleton, filter_snoc]
          have hml : ((keys (l.take k)).filter fun p => p.1 == user).length ≤ 1000000 := by
            have h1 := List.length_filter_le (fun p : Int × Int => p.1 == user) (keys (l.take k)); rw [keys_len, List.length_take] at h1; omega
          generalize hm : (keys (l.take k)).filter (fun p => p.1 == user) = m at *
          clear hm
          generalize l[k] = x at *
          have h1c := lc_arr x
          have g0 : (lc x).toArray[0]? = some (.int .i64 x.u) := rfl
          have hll2 := lc_len x
          generalize lc x = cs at *
          by_cases hxu : x.u = user
          · have dx : (x.u == user) = true := by simpa using hxu
            rw [dx, if_pos rfl] at htk
            have Htk : Hid (((keys (l.take (k + 1))).filter fun p => p.1 == user).length = m.length + 1) := by show _ = _; rw [htk]; simp
            clear htk hxu
            go_wp2_with (first
              | (refine wpList_load_mid rfl 76 _ rfl g (k * 14) rfl cs _ hrng Try.underlying76 (by rfl) (by rw [hll2]; kernel_rfl) ?_)
              | (refine wpList_alloc_new rfl 76 rfl lineZ (fun _ => by kernel_rfl) ?_; intro Z wZ oZ hZl hZ)
              | (refine wpList_store_blk rfl 76 _ _ rfl Z cs rfl rfl hZ hll2.symm (by rw [hll2]; kernel_rfl) h1c ?_; intro wY oY hY; have hs2 := hs.trans (oZ.new oY (fun i hi => by simp only [List.mem_singleton] at hi; omega)); have hy0 := (cell_in hY 0).trans g0; clear hs hZ oZ oY hY))
            refine ⟨⟨k + 1, by rw [Htk.out]; simp, by simp, by omega, hs2⟩, by simp [intOf]; omega⟩
          · have dx : (x.u == user) = false := by simpa using hxu
            rw [dx, if_neg (by simp), List.append_nil] at htk
            have Htk : Hid (((keys (l.take (k + 1))).filter fun p => p.1 == user).length = m.length) := by show _ = _; rw [htk]
            clear htk hxu
            go_wp2_with (first
              | (refine wpList_load_mid rfl 76 _ rfl g (k * 14) rfl cs _ hrng Try.underlying76 (by rfl) (by rw [hll2]; kernel_rfl) ?_)
              | (refine wpList_alloc_new rfl 76 rfl lineZ (fun _ => by kernel_rfl) ?_; intro Z wZ oZ hZl hZ)
              | (refine wpList_store_blk rfl 76 _ _ rfl Z cs rfl rfl hZ hll2.symm (by rw [hll2]; kernel_rfl) h1c ?_; intro wY oY hY; have hs2 := hs.trans (oZ.new oY (fun i hi => by simp only [List.mem_singleton] at hi; omega)); have hy0 := (cell_in hY 0).trans g0; clear hs hZ oZ oY hY))
            refine ⟨⟨k + 1, by rw [Htk.out], by simp, by omega, hs2⟩, by simp [intOf]; omega⟩
        · obtain rfl : k = l.length := by omega
          have dk : decide ((l.length : Int) < l.length) = false := by simp
          rw [← HC.out]
          have hX2 := hs.at hX1 (by simp)
          have o2 := o1.trans hs
          clear hs hX1 o1 h1 HC
          go_wp2_with (refine wpList_store_blk rfl 30 _ _ rfl X [.int .i64 user, .int .i64 ((cn : Int) + 1)] rfl rfl hX2 rfl (by kernel_rfl) h1u ?_; intro wY oY hY; have oF := o2.new oY (fun i hi => by simp only [List.mem_singleton] at hi; omega); have hy0 := cell_two0 hY; have hy1 := cell_two1 hY)
          refine bodyPost_ret (v := .tuple #[.agg #[.int .i64 user, .int .i64 ((cn : Int) + 1)], .int .i64 0]) (by simp [results, Try.results11, go_sem, hy0, hy1]) rfl ?_
          exact ⟨rfl, oF⟩
end Go.Proofs.Yteljkfihmbddaaa
