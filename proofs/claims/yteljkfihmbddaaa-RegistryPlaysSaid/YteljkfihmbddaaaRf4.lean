/- The reference's Next (layer 17). Printed by gen_rf4.py. -/
import Derived.Test.YteljkfihmbddaaaRf3
set_option linter.unusedSimpArgs false
set_option linter.unusedVariables false
namespace Go.Proofs.Yteljkfihmbddaaa
open Go.RowKit Go.Pw
set_option linter.unusedVariables false

def rcn (ms : List Rl) (user : Int) : Nat := (ms.filter fun x => x.u == user).length
def rnx (ms : List Rl) (user : Int) : (Int × Int) × Int :=
  if user < 0 ∨ 8 ≤ user then ((0, 0), 1) else if 4 ≤ (riseL (rkl ms user)).length then ((0, 0), 3) else ((user, rcn ms user + 1), 0)
theorem rcn_snoc (ms : List Rl) (x : Rl) (user : Int) : rcn (ms ++ [x]) user = rcn ms user + (if (x.u == user) = true then 1 else 0) := by
  unfold rcn
  rw [List.filter_append, List.length_append]
  cases h : (x.u == user) <;> simp [h]
theorem rcn_len (ms : List Rl) (user : Int) : rcn ms user ≤ ms.length := List.length_filter_le _ _

set_option maxRecDepth 100000 in
set_option maxHeartbeats 3200000 in
theorem rnext_any {w0 : World} {rs : List Res} (S : Nat) (ms : List Rl) (v : Value) (user : Int) (w : World) (h : Sep w0 w (row 85 18 v ms.length (fl rlc ms) :: blk S [v, .slice none 0 0] 53 :: rs)) (hl : ms.length ≤ 1000) :
    Calls Try.prog 16 #[.pointer (some ⟨S, 0, none⟩), .int .i64 user] w fun e w' => e = .returned (.tuple #[wv (rnx ms user).1.1 (rnx ms user).1.2, .int .i64 (rnx ms user).2]) ∧ Only w w' [] := by
  have Hlist := fun (w' : World) (o : Only w w' []) => rlist_any S ms v user w' (h.quiet o) hl
  have h1z : ([.int .i64 0, .int .i64 0] : List Value).toArray.all (·.oneCell') = true := by simp [Value.oneCell']
  obtain ⟨ao, c, rfl⟩ := own_slice (show w.ownsRow 0 _ 18 v ms.length (fl rlc ms) from h.head)
  have hrow0 := show w.ownsRow 0 85 18 (.slice ao ms.length c) ms.length (fl rlc ms) from h.head
  have hS0 : w.heap[S]? = some (.cells #[.slice ao ms.length c, .slice none 0 0] 53 (0, 0)) := (h.sel 2 [1]).head
  have HM := fun (hp : 0 < ms.length) => own_some hrow0 hp
  clear h
  by_cases hu : user < 0 ∨ 8 ≤ user
  · have e : rnx ms user = ((0, 0), 1) := if_pos hu
    rw [e]
    by_cases hn : user < 0
    · have d1 : decide (user < 0) = true := by simpa using hn
      clear e hu Hlist HM
      go_enter Try.func16, Try.ntmps16
      go_wp2_with (first
        | (refine wpList_alloc_new rfl 30 rfl (.agg #[.int .i64 0, .int .i64 0]) (fun _ => by kernel_rfl) ?_; intro X wX oX hXl hX)
        | (refine wpList_store_blk rfl 30 _ _ rfl X [.int .i64 0, .int .i64 0] rfl rfl hX rfl (by kernel_rfl) h1z ?_; intro wY oY hY; have oF := oX.new oY (fun i hi => by simp only [List.mem_singleton] at hi; omega); have hy0 := cell_two0 hY; have hy1 := cell_two1 hY))
      refine bodyPost_ret (v := .tuple #[.agg #[.int .i64 0, .int .i64 0], .int .i64 1]) (by simp [results, Try.results16, go_sem, hy0, hy1]) rfl ?_
      exact ⟨rfl, oF⟩
    · have d1 : decide (user < 0) = false := by simpa using hn
      have d2 : decide (8 ≤ user) = true := by simp; omega
      clear e hu Hlist HM
      go_enter Try.func16, Try.ntmps16
      go_wp2_with (first
        | (refine wpList_alloc_new rfl 30 rfl (.agg #[.int .i64 0, .int .i64 0]) (fun _ => by kernel_rfl) ?_; intro X wX oX hXl hX)
        | (refine wpList_store_blk rfl 30 _ _ rfl X [.int .i64 0, .int .i64 0] rfl rfl hX rfl (by kernel_rfl) h1z ?_; intro wY oY hY; have oF := oX.new oY (fun i hi => by simp only [List.mem_singleton] at hi; omega); have hy0 := cell_two0 hY; have hy1 := cell_two1 hY))
      refine bodyPost_ret (v := .tuple #[.agg #[.int .i64 0, .int .i64 0], .int .i64 1]) (by simp [results, Try.results16, go_sem, hy0, hy1]) rfl ?_
      exact ⟨rfl, oF⟩
  · have d1 : decide (user < 0) = false := by simp; omega
    have d2 : decide (8 ≤ user) = false := by simp; omega
    have hll : (riseL (rkl ms user)).length ≤ 1000 := by rw [riseL_len]; have := rsel_len (fun x => x.on && x.u == user) ms; unfold rkl; omega
    by_cases h4 : 4 ≤ (riseL (rkl ms user)).length
    · have e : rnx ms user = ((0, 0), 3) := by unfold rnx; rw [if_neg hu, if_pos h4]
      rw [e]
      have d3 : decide ((4 : Int) ≤ (riseL (rkl ms user)).length) = true := by simp; omega
      generalize riseL (rkl ms user) = q at *
      clear e hu HM
      go_enter Try.func16, Try.ntmps16
      go_wp2_with (refine wpList_alloc_new rfl 30 rfl (.agg #[.int .i64 0, .int .i64 0]) (fun _ => by kernel_rfl) ?_; intro X wX oX hXl hX)
      refine (Hlist _ oX).mono ?_
      rintro e w1 ⟨aA, cA, rfl, sA⟩
      have hX1 := sA.only.at hX (by simp)
      have o1 := oX.trans sA.only
      clear Hlist hX oX sA h4
      go_wp2_with (refine wpList_store_blk rfl 30 _ _ rfl X [.int .i64 0, .int .i64 0] rfl rfl hX1 rfl (by kernel_rfl) h1z ?_; intro wY oY hY; have oF := o1.new oY (fun i hi => by simp only [List.mem_singleton] at hi; omega); have hy0 := cell_two0 hY; have hy1 := cell_two1 hY)
      refine bodyPost_ret (v := .tuple #[.agg #[.int .i64 0, .int .i64 0], .int .i64 3]) (by simp [results, Try.results16, go_sem, hy0, hy1]) rfl ?_
      exact ⟨rfl, oF⟩
    · have e : rnx ms user = ((user, (rcn ms user : Int) + 1), 0) := by unfold rnx; rw [if_neg hu, if_neg h4]
      rw [e]
      have d3 : decide ((4 : Int) ≤ (riseL (rkl ms user)).length) = false := by simp; omega
      generalize riseL (rkl ms user) = q at *
      clear e hu
      go_enter Try.func16, Try.ntmps16
      go_wp2_with (refine wpList_alloc_new rfl 30 rfl (.agg #[.int .i64 0, .int .i64 0]) (fun _ => by kernel_rfl) ?_; intro X wX oX hXl hX)
      refine (Hlist _ oX).mono ?_
      rintro e w1 ⟨aA, cA, rfl, sA⟩
      have hX1 := sA.only.at hX (by simp)
      have o1 := oX.trans sA.only
      clear Hlist hX oX sA h4
      go_wp2_with fail
      go_loopw [6, 7] (fun x y wr => ∃ (k : Nat), x = .int .i64 ((rcn (ms.take k) user : Int) + 1) ∧ y = .int .i64 k ∧ k ≤ ms.length ∧ Only w1 wr []) (fun _ y _ => ms.length - (intOf y).toNat)
      case atStart => exact ⟨0, rfl, rfl, Nat.zero_le _, Only.refl _ _⟩
      case round =>
        obtain ⟨k, rfl, rfl, hk, hs⟩ := hrel
        have oA := o1.trans hs
        have hs0 := cell_two0 (oA.at hS0 (by simp))
        by_cases hkl : k < ms.length
        · have dk : decide ((k : Int) < ms.length) = true := by simpa using hkl
          obtain ⟨mg, rfl, _⟩ := HM (by omega)
          have e0 : World.cell? _ ⟨mg, k * 18, none⟩ = some (.int .i64 ms[k].u) := rec_cell rlc_len (own_only hrow0 oA (fun _ _ => by simp)) hkl 0 rfl
          have htk : rcn (ms.take (k + 1)) user = rcn (ms.take k) user + (if (ms[k].u == user) = true then 1 else 0) := by
            rw [List.take_succ_eq_append_getElem hkl, rcn_snoc]
          have hml : rcn (ms.take k) user ≤ 1000 := by have := rcn_len (ms.take k) user; rw [List.length_take] at this; omega
          generalize rcn (ms.take k) user = m at *
          generalize ms[k].u = xu at *
          have hw : IntKind.i64.wrap ((m : Int) + 1 + 1) = (m : Int) + 1 + 1 := by rw [IntKind.wrap_i64]; omega
          clear HM
          by_cases hxu : xu = user
          · have dx : decide (xu = user) = true := by simpa using hxu
            have Htk : Hid (rcn (ms.take (k + 1)) user = m + 1) := by show _ = _; rw [htk, if_pos (by simpa using hxu)]
            rw [hxu] at e0
            clear htk hxu dx
            go_wp2_with fail
            refine ⟨⟨k + 1, by rw [Htk.out]; simp, by simp, by omega, hs⟩, by simp [intOf]; omega⟩
          · have dx : decide (xu = user) = false := by simpa using hxu
            have dx2 : (xu == user) = false := by simpa using hxu
            have Htk : Hid (rcn (ms.take (k + 1)) user = m) := by show _ = _; rw [htk, if_neg (by simpa using hxu)]; rfl
            clear htk
            go_wp2_with fail
            refine ⟨⟨k + 1, by rw [Htk.out], by simp, by omega, hs⟩, by simp [intOf]; omega⟩
        · obtain rfl : k = ms.length := by omega
          have dk : decide ((ms.length : Int) < ms.length) = false := by simp
          rw [List.take_length]
          have hX2 := hs.at hX1 (by simp)
          obtain ⟨cn, hcn⟩ : ∃ cn, cn = rcn ms user := ⟨_, rfl⟩
          rw [← hcn]
          have HCN := Lib.hid hcn
          clear hcn
          have h1u : ([.int .i64 user, .int .i64 ((cn : Int) + 1)] : List Value).toArray.all (·.oneCell') = true := by simp [Value.oneCell']
          clear hs hX1 o1 HM
          go_wp2_with (refine wpList_store_blk rfl 30 _ _ rfl X [.int .i64 user, .int .i64 ((cn : Int) + 1)] rfl rfl hX2 rfl (by kernel_rfl) h1u ?_; intro wY oY hY; have oF := oA.new oY (fun i hi => by simp only [List.mem_singleton] at hi; omega); have hy0 := cell_two0 hY; have hy1 := cell_two1 hY)
          refine bodyPost_ret (v := .tuple #[.agg #[.int .i64 user, .int .i64 ((cn : Int) + 1)], .int .i64 0]) (by simp [results, Try.results16, go_sem, hy0, hy1]) rfl ?_
          exact ⟨by rw [HCN.out]; rfl, oF⟩
end Go.Proofs.Yteljkfihmbddaaa
