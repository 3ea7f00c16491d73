/- WireKeeps returns true for every slice of bytes: what was laid, and what was read, may be written over. No condition. -/
import Derived.Test.YtemlpjfngaemdaaWireA
import Derived.Test.YtemlpjfngaemdaaSWireKeeps
namespace Go.Proofs.Ytemlpjfngaemdaa
open Go.RowKit Go.Pw

set_option maxRecDepth 100000 in
set_option maxHeartbeats 2000000 in
theorem keeps_walk (ao : Option Addr) (c : Nat) (ps : List Int) (w : World) (hp : Src w (.slice ao ps.length c) 1 ps.length (ps.map (Value.int .u8))) (hb : Byt ps) :
    Calls Try.prog 3 #[.slice ao ps.length c] w fun e w' => e = .returned (.bool true) ∧ Below w.heap.size w w' := by
  obtain ⟨i0, hi, hz0, hz1, hz2⟩ := info_parts Try.info5
  have hbel : ∀ w', Only w w' [] → Below w.heap.size w w' := fun w' h => h.below (Nat.le_refl _) (by simp)
  by_cases hl : 500 < ps.length
  · have d0 : decide ((500 : Int) < ps.length) = true := by simp; omega
    go_enter Try.func3, Try.ntmps3
    go_wp2_with fail
    refine (awake9 _).mono ?_
    rintro e w1 ⟨rfl, h1⟩
    go_wp2_with fail
    refine (awake9 _).mono ?_
    rintro e w2 ⟨rfl, h2⟩
    go_wp2_with fail
    go_ret
    exact ⟨rfl, hbel _ (h1.trans h2)⟩
  · have d0 : decide ((500 : Int) < ps.length) = false := by simp; omega
    go_enter Try.func3, Try.ntmps3
    go_wp2_with fail
    refine (awake9 _).mono ?_
    rintro e w1 ⟨rfl, h1⟩
    have hp1 := hp.off h1 (fun _ _ _ => by simp)
    go_wp2_with (at_builtin; refine wpList_append_src rfl _ _ 22 rfl 5 i0 (.int .u8 0) 1 1 Try.underlying22 hi hz0 hz1 hz2 rfl (by decide) (.slice none 0 0) 0 [] rfl (World.ownsRow_nil _ _ _ _) _ ps.length _ rfl hp1 (one_ints _ _) (by unfold maxLen; omega) (by omega) ?_; intro v' w2 g1 g2 g3; simp only [Nat.zero_add, List.nil_append] at g1; obtain ⟨aq, cq, rfl⟩ := own_slice g1)
    have h2 : Only w1 w2 [] := Only.grown g2 (by simp [Value.ownBlock])
    have hq2 := (own_src g1)
    refine (wbytes_any w2.heap.size (.slice none 0 0) _ [] ps _ ⟨heap_alloc_new w2 _, World.ownsRow_nil _ _ _ _⟩ (by simp) (hq2.off (Only.alloc w2 _ []) (fun _ _ _ => by simp)) (by omega) (hq2.off_new (by decide) (by simp [Value.ownBlock]))).mono ?_
    rintro e w3 ⟨rfl, v3, hw3, hs3, ho3⟩
    have h3 : Only w2 w3 [] := (Only.alloc w2 _ []).new ho3 (by simp [Value.ownBlock])
    go_wp2_with fail
    refine (wdone_any w2.heap.size v3 _ _ hw3 (by simp [be_len]; omega)).mono ?_
    rintro e w4 ⟨vb, rfl, hb4, hsb, ho4⟩
    obtain ⟨E, hE⟩ : ∃ E, E = be ps.length 4 ++ ps := ⟨_, rfl⟩
    rw [show [] ++ be ps.length 4 ++ ps = E by rw [hE]; rfl] at hb4
    have hEl : E.length ≤ 504 := by rw [hE]; simp [be_len]; omega
    have hEb : Byt E := by rw [hE]; exact (be_byt _ _).app hb
    have hE' : be ps.length 4 ++ ps ++ [] = E := by rw [hE, List.append_nil]
    obtain ⟨ab, cb, rfl⟩ := own_slice hb4
    have h04 : Only w w4 [] := ((h1.trans h2).trans h3).trans ho4
    have hq4 : w4.ownsRow 0 5 1 (.slice aq ps.length cq) ps.length (ps.map (Value.int .u8)) := own_new (own_new g1 h3 (by simp)) ho4 (by simp)
    have hqb : ∀ k, (Value.slice aq ps.length cq).ownBlock = some k → k < w3.heap.size ∧ w.heap.size ≤ k := fun k hk => by
      have a1 := (g1.lt k hk).2
      have a2 := h3.size
      have a3 := h1.size
      rcases g3 k hk with h | h
      · simp [Value.ownBlock] at h
      · omega
    have hbb : ∀ k, (Value.slice ab E.length cb).ownBlock = some k → w3.heap.size ≤ k := fun k hk => by
      rcases hsb k hk with h | h
      · simp [Value.ownBlock] at h
      · exact h
    clear hsb hw3 hs3 ho3 hq2 hp1 g2 g3
    have HE := Lib.hid hE
    have HE' := Lib.hid hE'
    clear hE hE'
    go_wp2_with fail
    go_loopw [6] (fun i wr => ∃ j : Nat, i = .int .i64 j ∧ j ≤ ps.length ∧ Only w4 wr (Value.slice aq ps.length cq).ownBlock.toList ∧ ∃ qs : List Int, qs.length = ps.length ∧ wr.ownsRow 0 5 1 (.slice aq ps.length cq) ps.length (qs.map (Value.int .u8))) (fun i _ => ps.length - (intOf i).toNat)
    case atStart => exact ⟨0, rfl, Nat.zero_le _, Only.refl _ _, ps, rfl, hq4⟩
    case round =>
      obtain ⟨j, rfl, hj, hor, qs, hqs, hqr⟩ := hrel
      by_cases hjl : j < ps.length
      · obtain ⟨g, rfl, _⟩ := own_some hqr (by omega)
        have hcj := hqr.cellAt j (by omega)
        rw [List.getElem?_map, List.getElem?_eq_getElem (show j < qs.length by omega), Option.map_some] at hcj
        have hfj := hqr.frozenAt j
        generalize qs[j] = x at hcj
        have hst := hqr.stored j (.int .u8 (IntKind.u8.wrap (x + 1)))
        have Hend : Hid (∃ qs' : List Int, qs'.length = ps.length ∧ (wr.setCell ⟨g, j, none⟩ (.int .u8 (IntKind.u8.wrap (x + 1)))).ownsRow 0 5 1 (.slice (some ⟨g, 0, none⟩) ps.length cq) ps.length (qs'.map (Value.int .u8))) :=
          ⟨qs.set j (IntKind.u8.wrap (x + 1)), by simpa using hqs, by rw [List.map_set]; exact hst.1⟩
        have Ho : Hid (Only w4 (wr.setCell ⟨g, j, none⟩ (.int .u8 (IntKind.u8.wrap (x + 1)))) (Value.slice (some ⟨g, 0, none⟩) ps.length cq).ownBlock.toList) :=
          hor.trans (Only.setCell _ _ _ _ (by simp [Value.ownBlock]))
        clear hst hqr hor hq4 hqs
        go_wp2_with fail
        go_roundw
        case rel => exact ⟨j + 1, by go_num, by omega, Ho.out, Hend.out⟩
        case measure => simp [intOf]; omega
      · have hr0 : Only w wr [] := h04.new hor (fun k hk => (hqb k (by simpa using hk)).2)
        have hbr : wr.ownsRow 0 5 1 (.slice ab E.length cb) E.length (E.map (Value.int .u8)) := own_only hb4 hor (fun k hk hm => by
          have a1 := hqb k (by simpa using hm)
          have a2 := hbb k hk
          omega)
        clear hqr hqs hb4 hq4 g1 hor
        go_wp2_with fail
        refine (rread_any _ _ _ _).mono ?_
        rintro e w5 ⟨rfl, rfl⟩
        go_wp2_with fail
        refine (rback_any wr.heap.size (.slice ab E.length cb) ps [] 500 _ ⟨heap_alloc_new wr _, by rw [HE'.out]; exact (own_src hbr).off (Only.alloc wr _ []) (fun _ _ _ => by simp), by rw [HE'.out]; exact hEb⟩ (by rw [HE'.out]; omega) (by omega)).mono ?_
        rintro e w6 ⟨va, rfl, hva, hsa, ⟨_, _, _⟩, ho6⟩
        obtain ⟨aa, ca, rfl⟩ := own_slice hva
        have hr6 : Only wr w6 [] := (Only.alloc wr _ []).new ho6 (by simp)
        have hp6 := hp.off (hr0.trans hr6) (fun _ _ _ => by simp)
        have hst1 := run_str (P := Try.prog) (S := 22) (T := 9) Try.underlying22 Try.underlying5 Try.underlying9 (own_src hva) rfl
        have hst2 := run_str (P := Try.prog) (S := 22) (T := 9) Try.underlying22 Try.underlying5 Try.underlying9 hp6 rfl
        go_wp2_with fail
        have hab : ∀ k, (Value.slice aa ps.length ca).ownBlock = some k → wr.heap.size ≤ k := fun k hk => by
          rcases hsa k hk with h | h
          · simp [Value.ownBlock] at h
          · simp at h; omega
        have hb6 : w6.ownsRow 0 5 1 (.slice ab E.length cb) E.length (E.map (Value.int .u8)) := own_new hbr hr6 (by simp)
        have hbw : ∀ k, (Value.slice ab E.length cb).ownBlock = some k → k < wr.heap.size := fun k hk => (hbr.lt k hk).2
        have h06 : Only w w6 [] := hr0.trans hr6
        have hsz6 := hr6.size
        have hszw := hr0.size
        clear hst1 hst2 ho6 hbr hsa hp6 hr6 hr0
        obtain ⟨wo, hwo⟩ : ∃ wo : World, wo = wr := ⟨_, rfl⟩
        subst hwo
        go_loopw [8] (fun i wr2 => ∃ j : Nat, i = .int .i64 j ∧ j ≤ ps.length ∧ Only w6 wr2 (Value.slice aa ps.length ca).ownBlock.toList ∧ ∃ qs : List Int, qs.length = ps.length ∧ wr2.ownsRow 0 5 1 (.slice aa ps.length ca) ps.length (qs.map (Value.int .u8))) (fun i _ => ps.length - (intOf i).toNat)
        case atStart => exact ⟨0, rfl, Nat.zero_le _, Only.refl _ _, ps, rfl, hva⟩
        case round =>
          clear hva
          obtain ⟨j2, rfl, hj2, hor, qs, hqs, hqr⟩ := hrel
          by_cases hjl2 : j2 < ps.length
          · obtain ⟨g, rfl, _⟩ := own_some hqr (by omega)
            have hcj := hqr.cellAt j2 (by omega)
            rw [List.getElem?_map, List.getElem?_eq_getElem (show j2 < qs.length by omega), Option.map_some] at hcj
            have hfj := hqr.frozenAt j2
            generalize qs[j2] = x at hcj
            have hst := hqr.stored j2 (.int .u8 0)
            have Hend : Hid (∃ qs' : List Int, qs'.length = ps.length ∧ (wr.setCell ⟨g, j2, none⟩ (.int .u8 0)).ownsRow 0 5 1 (.slice (some ⟨g, 0, none⟩) ps.length ca) ps.length (qs'.map (Value.int .u8))) :=
              ⟨qs.set j2 0, by simpa using hqs, by rw [List.map_set]; exact hst.1⟩
            have Ho : Hid (Only w6 (wr.setCell ⟨g, j2, none⟩ (.int .u8 0)) (Value.slice (some ⟨g, 0, none⟩) ps.length ca).ownBlock.toList) :=
              hor.trans (Only.setCell _ _ _ _ (by simp [Value.ownBlock]))
            clear hst hqr hor hqs
            go_wp2_with fail
            go_roundw
            case rel => exact ⟨j2 + 1, by go_num, by omega, Ho.out, Hend.out⟩
            case measure => simp [intOf]; omega
          · have hr0 : Only w wr [] := h06.new hor (fun k hk => by have := hab k (by simpa using hk); omega)
            have hbr : wr.ownsRow 0 5 1 (.slice ab E.length cb) E.length (E.map (Value.int .u8)) := own_only hb6 hor (fun k hk hm => by
              have a1 := hab k (by simpa using hm)
              have a2 := hbw k hk
              omega)
            clear hqr hqs hor hb6 
            have hpr := hp.off hr0 (fun _ _ _ => by simp)
            have hstA := run_str (P := Try.prog) (w := wr.drew) (S := 22) (T := 9) Try.underlying22 Try.underlying5 Try.underlying9 hpr.drew rfl
            have hstB := run_str (P := Try.prog) (w := (wr.alloc (.cells #[.slice ab E.length cb, .bool false] 87)).drew) (S := 22) (T := 9) Try.underlying22 Try.underlying5 Try.underlying9 (hpr.off (Only.alloc wr _ []) (fun _ _ _ => by simp)).drew rfl
            have hq : ((strOfNums ps).toList == (strOfNums ps).toList) = true := by simp
            go_wp2_with fail
            go_region_with (first | (go_at_call 16; refine (rread_any _ _ _ _).mono ?_; rintro e w5 ⟨rfl, rfl⟩) | (go_at_call 17; refine (rback_any wr.heap.size (.slice ab E.length cb) ps [] 500 (wr.alloc (.cells #[.slice ab E.length cb, .bool false] 87)).drew ⟨heap_alloc_new wr _, by rw [HE'.out]; exact ((own_src hbr).off (Only.alloc wr _ []) (fun _ _ _ => by simp)).drew, by rw [HE'.out]; exact hEb⟩ (by rw [HE'.out]; omega) (by omega)).mono ?_; rintro e w7 ⟨va, rfl, hva, hsa, ⟨_, _, _⟩, ho7⟩; obtain ⟨aa2, ca2, rfl⟩ := own_slice hva; have hr7 : Only w w7 [] := hr0.trans (((Only.alloc wr _ []).trans (Only.drew _ [])).new ho7 (by simp)); have hst1 := run_str (P := Try.prog) (S := 22) (T := 9) Try.underlying22 Try.underlying5 Try.underlying9 (own_src hva) rfl; have hst2 := run_str (P := Try.prog) (S := 22) (T := 9) Try.underlying22 Try.underlying5 Try.underlying9 (hp.off hr7 (fun _ _ _ => by simp)) rfl))
            all_goals go_wp2_with fail
            all_goals (go_ret; exact ⟨rfl, hbel _ hr7⟩)

theorem cells_u8 : Try.prog.cellsOf 5 = 1 := by kernel_rfl

theorem wireKeeps_holds : Rows.WireKeepsSaid := wireKeeps.said fun H enc base W v0 d0 p0 h0 h1 => by
  obtain ⟨ao, c, xs, rfl, hs, hb⟩ := open_bytes Try.underlying22 Try.underlying5 cells_u8 h0 h1
  exact keeps_walk ao c xs W hs hb
end Go.Proofs.Ytemlpjfngaemdaa
