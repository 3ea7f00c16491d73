/- envelope.Decode, one of its four ways. -/
import Derived.Test.YticojdepepkdlaaPg
set_option linter.unusedSimpArgs false
set_option linter.unusedVariables false
namespace Go.Proofs.Yticojdepepkdlaa
open Go.RowKit Go.Pw
set_option linter.unusedVariables false

set_option maxRecDepth 100000 in
set_option maxHeartbeats 12800000 in
theorem decode_tt (p : Value) (ps : List Int) (w : World) (hp : Rd w p ps) (hb : Byt ps) (hl : ps.length ≤ 1000000000) (hflag : (pF (pB (pW (pW (ps, false)).2).2).2).1 = true) (hend : Ends (pEnv (ps, false)).2 = true) :
    Calls Try.prog 58 #[p] w (DecE ps w) := by
  obtain ⟨ao, c, rfl⟩ := hp.slice
  go_enter Try.func58, Try.ntmps58
  go_wp2_with fail
  obtain ⟨W0, X, hW, hX, hbX, hoW, hX1, hX2⟩ := new_block w (.cells #[.int .i64 0, .int .i64 0, .int .i64 0, .int .i64 0, .slice none 0 0, .bool false, .slice none 0 0, .slice none 0 0, .slice none 0 0, .int .u32 0, .bool false, .int .u32 0, .slice none 0 0, .int .u32 0, .int .u32 0, .slice none 0 0] 41)
  rw [← hW, ← hX]
  have hs0 : W0.heap.size = X + 1 := by rw [hW, hX]; simp
  clear hW hX
  refine (rread_any _ _ _ _).mono ?_
  rintro e W1' ⟨rfl, rfl⟩
  obtain ⟨W1, R, hW, hR, hbR, hoR, hR1, hR2⟩ := new_block W0 (.cells #[.slice ao ps.length c, .bool false] 151)
  rw [← hW, ← hR]
  clear hW hR
  have r0 := rt_new hp hb hl (hoW.trans hoR) hbR
  have hXR : X ≠ R := by omega
  have hX0 : X ∉ [R] := by simpa using hXR
  have hX1b := hoR.at hbX (by simp)
  clear hp hb hbX
  go_wp2_with fail
  refine (readwho_rt r0).mono ?_
  rintro e w1 ⟨⟨fu, fd⟩, s1, v1, H1, rfl, ⟨rfl, ufu, ufd⟩, r1⟩
  have H1 := Lib.hid H1
  dsimp only at ufu ufd ⊢
  go_wp2_with fail
  refine (readwho_rt r1.here).mono ?_
  rintro e w2 ⟨⟨tu, td⟩, s2, v2, H2, rfl, ⟨rfl, utu, utd⟩, r2⟩
  have H2 := Lib.hid H2
  dsimp only at utu utd ⊢
  go_wp2_with fail
  refine (rbytes_rt r2.here).mono ?_
  rintro e w3 ⟨v3, x3, s3, H3, rfl, g3, l3, r3⟩
  obtain ⟨⟨a3, c3, rfl⟩, _⟩ := id g3
  go_wp2_with fail
  refine (rflag_rt r3.here).mono ?_
  rintro e w4 ⟨b4, s4, H4, rfl, r4⟩
  have r04 : RT R _ s4 W1 w4 := ((r1.back r2).back r3).back r4
  have hRW := r0.rlt
  have z1 := r1.only.size
  have z2 := r2.only.size
  have z3 := r3.only.size
  have z4 := r4.only.size
  have g3 := (g3.next r4.only (fun k hk => by simp at hk; subst hk; omega)).mono (W' := W1) (by omega)
  have hX4 := r04.only.at hX1b hX0
  have hzW : W1.heap.size ≤ w4.heap.size := by omega
  have hwW : w.heap.size ≤ W1.heap.size := (hoW.trans hoR).size
  have hXW : X < W1.heap.size := by have := hoR.size; omega
  have hXX : ∀ k ∈ [X], w.heap.size ≤ k := by simpa using hX1
  have hXX' : ∀ k ∈ [X], k < W1.heap.size := by simpa using hXW
  have hRw : w.heap.size ≤ R := Nat.le_trans hoW.size hR1
  have ho4 : Only w w4 [] := (hoW.trans hoR).step r04.only (fun k hk => .inr (by simp at hk; subst hk; exact hRw))
  clear r1 r2 r3 r4 z1 z2 z3 z4 hX1b
  have hbv : b4 = true := by have h := hflag; rw [H1.out] at h; simp only at h; rw [H2.out] at h; simp only at h; rw [H3.out] at h; simp only at h; rw [H4.out] at h; exact h
  subst hbv
  go_wp2_with fail
  obtain ⟨W5, Y, hW, hY, hy, hoY, hY1, hY2⟩ := new_block w4 (.cells #[.int .i64 fu, .int .i64 fd, .int .i64 tu, .int .i64 td, .slice a3 x3.length c3, .bool true, .slice none 0 0, .slice none 0 0, .slice none 0 0, .int .u32 0, .bool false, .int .u32 0, .slice none 0 0, .int .u32 0, .int .u32 0, .slice none 0 0] 41)
  rw [← hW, ← hY]
  clear hW hY
  have hYR : Y ∉ [R] := by simp; omega
  have hYW : ∀ k ∈ [Y], W1.heap.size ≤ k := by simp; omega
  have r5 := r04.new hoY
  have zY := hoY.size
  have o4 : Only w4 W5 [R, Y] := hoY.mono (by simp)
  refine (readhello_rt r5.here).mono ?_
  rintro e w6 ⟨h, s6, v6, H6, rfl, ⟨va, vg, vk, rfl, g6⟩, r6⟩
  obtain ⟨⟨aa, ca, rfl⟩, _⟩ := id g6.ga
  obtain ⟨⟨ag, cg, rfl⟩, _⟩ := id g6.gs
  obtain ⟨⟨ak, ck, rfl⟩, _⟩ := id g6.gk
  have H6 := Lib.hid H6
  have o4 := o4.trans (r6.only.mono (fun k _ hk => by simp at hk; simp [hk]))
  have hy6 := r6.only.at hy hYR
  have r5 := r5.back r6
  have z6 := r6.only.size
  have y6 := cell_in hy6 6
  have f6 := free_in hy6 6
  have y7 := cell_in hy6 7
  have f7 := free_in hy6 7
  have y8 := cell_in hy6 8
  have f8 := free_in hy6 8
  have y9 := cell_in hy6 9
  have f9 := free_in hy6 9
  have y10 := cell_in hy6 10
  have f10 := free_in hy6 10
  have y11 := cell_in hy6 11
  have f11 := free_in hy6 11
  go_wp2_with fail
  have q6 : (w6.setCell ⟨Y, 6, none⟩ (.slice aa h.ag.length ca)).heap[Y]? = some (.cells #[.int .i64 fu, .int .i64 fd, .int .i64 tu, .int .i64 td, .slice a3 x3.length c3, .bool true, .slice aa h.ag.length ca, .slice none 0 0, .slice none 0 0, .int .u32 0, .bool false, .int .u32 0, .slice none 0 0, .int .u32 0, .int .u32 0, .slice none 0 0] 41 (0, 0)) := set_at hy6 _
  have q7 : ((w6.setCell ⟨Y, 6, none⟩ (.slice aa h.ag.length ca)).setCell ⟨Y, 7, none⟩ (.slice ag h.sg.length cg)).heap[Y]? = some (.cells #[.int .i64 fu, .int .i64 fd, .int .i64 tu, .int .i64 td, .slice a3 x3.length c3, .bool true, .slice aa h.ag.length ca, .slice ag h.sg.length cg, .slice none 0 0, .int .u32 0, .bool false, .int .u32 0, .slice none 0 0, .int .u32 0, .int .u32 0, .slice none 0 0] 41 (0, 0)) := set_at q6 _
  have q8 : (((w6.setCell ⟨Y, 6, none⟩ (.slice aa h.ag.length ca)).setCell ⟨Y, 7, none⟩ (.slice ag h.sg.length cg)).setCell ⟨Y, 8, none⟩ (.slice ak h.key.length ck)).heap[Y]? = some (.cells #[.int .i64 fu, .int .i64 fd, .int .i64 tu, .int .i64 td, .slice a3 x3.length c3, .bool true, .slice aa h.ag.length ca, .slice ag h.sg.length cg, .slice ak h.key.length ck, .int .u32 0, .bool false, .int .u32 0, .slice none 0 0, .int .u32 0, .int .u32 0, .slice none 0 0] 41 (0, 0)) := set_at q7 _
  have q9 : ((((w6.setCell ⟨Y, 6, none⟩ (.slice aa h.ag.length ca)).setCell ⟨Y, 7, none⟩ (.slice ag h.sg.length cg)).setCell ⟨Y, 8, none⟩ (.slice ak h.key.length ck)).setCell ⟨Y, 9, none⟩ (.int .u32 h.signed)).heap[Y]? = some (.cells #[.int .i64 fu, .int .i64 fd, .int .i64 tu, .int .i64 td, .slice a3 x3.length c3, .bool true, .slice aa h.ag.length ca, .slice ag h.sg.length cg, .slice ak h.key.length ck, .int .u32 h.signed, .bool false, .int .u32 0, .slice none 0 0, .int .u32 0, .int .u32 0, .slice none 0 0] 41 (0, 0)) := set_at q8 _
  have q10 : (((((w6.setCell ⟨Y, 6, none⟩ (.slice aa h.ag.length ca)).setCell ⟨Y, 7, none⟩ (.slice ag h.sg.length cg)).setCell ⟨Y, 8, none⟩ (.slice ak h.key.length ck)).setCell ⟨Y, 9, none⟩ (.int .u32 h.signed)).setCell ⟨Y, 10, none⟩ (.bool h.has)).heap[Y]? = some (.cells #[.int .i64 fu, .int .i64 fd, .int .i64 tu, .int .i64 td, .slice a3 x3.length c3, .bool true, .slice aa h.ag.length ca, .slice ag h.sg.length cg, .slice ak h.key.length ck, .int .u32 h.signed, .bool h.has, .int .u32 0, .slice none 0 0, .int .u32 0, .int .u32 0, .slice none 0 0] 41 (0, 0)) := set_at q9 _
  have q11 : ((((((w6.setCell ⟨Y, 6, none⟩ (.slice aa h.ag.length ca)).setCell ⟨Y, 7, none⟩ (.slice ag h.sg.length cg)).setCell ⟨Y, 8, none⟩ (.slice ak h.key.length ck)).setCell ⟨Y, 9, none⟩ (.int .u32 h.signed)).setCell ⟨Y, 10, none⟩ (.bool h.has)).setCell ⟨Y, 11, none⟩ (.int .u32 h.once)).heap[Y]? = some (.cells #[.int .i64 fu, .int .i64 fd, .int .i64 tu, .int .i64 td, .slice a3 x3.length c3, .bool true, .slice aa h.ag.length ca, .slice ag h.sg.length cg, .slice ak h.key.length ck, .int .u32 h.signed, .bool h.has, .int .u32 h.once, .slice none 0 0, .int .u32 0, .int .u32 0, .slice none 0 0] 41 (0, 0)) := set_at q10 _
  have oS : Only w6 ((((((w6.setCell ⟨Y, 6, none⟩ (.slice aa h.ag.length ca)).setCell ⟨Y, 7, none⟩ (.slice ag h.sg.length cg)).setCell ⟨Y, 8, none⟩ (.slice ak h.key.length ck)).setCell ⟨Y, 9, none⟩ (.int .u32 h.signed)).setCell ⟨Y, 10, none⟩ (.bool h.has)).setCell ⟨Y, 11, none⟩ (.int .u32 h.once)) [Y] := ((((((Only.setCell _ _ _ _ (by simp)).trans (Only.setCell _ _ _ _ (by simp))).trans (Only.setCell _ _ _ _ (by simp))).trans (Only.setCell _ _ _ _ (by simp))).trans (Only.setCell _ _ _ _ (by simp))).trans (Only.setCell _ _ _ _ (by simp)))
  have oh : Only w6 w6 [R, Y] := Only.refl _ _
  have o4 := o4.trans (oS.mono (fun k _ hk => by simp at hk; simp [hk]))
  have oh := oh.trans (oS.mono (fun k _ hk => by simp at hk; simp [hk]))
  have r5 := r5.keep oS hYW
  have hy7 := q11
  clear y6 f6 y7 f7 y8 f8 y9 f9 y10 f10 y11 f11 q6 q7 q8 q9 q10 q11
  have zS := oS.size
  clear oS
  generalize ((((((w6.setCell ⟨Y, 6, none⟩ (.slice aa h.ag.length ca)).setCell ⟨Y, 7, none⟩ (.slice ag h.sg.length cg)).setCell ⟨Y, 8, none⟩ (.slice ak h.key.length ck)).setCell ⟨Y, 9, none⟩ (.int .u32 h.signed)).setCell ⟨Y, 10, none⟩ (.bool h.has)).setCell ⟨Y, 11, none⟩ (.int .u32 h.once)) = W7 at *
  refine (rbytes_rt r5.here).mono ?_
  rintro e w8 ⟨v8, x8, s8, H8, rfl, g8, l8, r8⟩
  obtain ⟨⟨a8, c8, rfl⟩, _⟩ := id g8
  have o4 := o4.trans (r8.only.mono (fun k _ hk => by simp at hk; simp [hk]))
  have oh := oh.trans (r8.only.mono (fun k _ hk => by simp at hk; simp [hk]))
  have o8 : Only w8 w8 [R, Y] := Only.refl _ _
  have r5 := r5.back r8
  have hy8 := r8.only.at hy7 hYR
  have z8 := r8.only.size
  go_wp2_with fail
  refine (rnum_rt r5.here).mono ?_
  rintro e w9 ⟨n9, s9, H9, rfl, lo9, hi9, r9⟩
  have o4 := o4.trans (r9.only.mono (fun k _ hk => by simp at hk; simp [hk]))
  have oh := oh.trans (r9.only.mono (fun k _ hk => by simp at hk; simp [hk]))
  have o8 := o8.trans (r9.only.mono (fun k _ hk => by simp at hk; simp [hk]))
  have r5 := r5.back r9
  have hy9 := r9.only.at hy8 hYR
  have z9 := r9.only.size
  go_wp2_with fail
  refine (rnum_rt r5.here).mono ?_
  rintro e w10 ⟨n10, s10, H10, rfl, lo10, hi10, r10⟩
  have o4 := o4.trans (r10.only.mono (fun k _ hk => by simp at hk; simp [hk]))
  have oh := oh.trans (r10.only.mono (fun k _ hk => by simp at hk; simp [hk]))
  have o8 := o8.trans (r10.only.mono (fun k _ hk => by simp at hk; simp [hk]))
  have r5 := r5.back r10
  have hy10 := r10.only.at hy9 hYR
  have z10 := r10.only.size
  have y12 := cell_in hy10 12
  have f12 := free_in hy10 12
  have y13 := cell_in hy10 13
  have f13 := free_in hy10 13
  have y14 := cell_in hy10 14
  have f14 := free_in hy10 14
  go_wp2_with fail
  have q12 : (w10.setCell ⟨Y, 12, none⟩ (.slice a8 x8.length c8)).heap[Y]? = some (.cells #[.int .i64 fu, .int .i64 fd, .int .i64 tu, .int .i64 td, .slice a3 x3.length c3, .bool true, .slice aa h.ag.length ca, .slice ag h.sg.length cg, .slice ak h.key.length ck, .int .u32 h.signed, .bool h.has, .int .u32 h.once, .slice a8 x8.length c8, .int .u32 0, .int .u32 0, .slice none 0 0] 41 (0, 0)) := set_at hy10 _
  have q13 : ((w10.setCell ⟨Y, 12, none⟩ (.slice a8 x8.length c8)).setCell ⟨Y, 13, none⟩ (.int .u32 n9)).heap[Y]? = some (.cells #[.int .i64 fu, .int .i64 fd, .int .i64 tu, .int .i64 td, .slice a3 x3.length c3, .bool true, .slice aa h.ag.length ca, .slice ag h.sg.length cg, .slice ak h.key.length ck, .int .u32 h.signed, .bool h.has, .int .u32 h.once, .slice a8 x8.length c8, .int .u32 n9, .int .u32 0, .slice none 0 0] 41 (0, 0)) := set_at q12 _
  have q14 : (((w10.setCell ⟨Y, 12, none⟩ (.slice a8 x8.length c8)).setCell ⟨Y, 13, none⟩ (.int .u32 n9)).setCell ⟨Y, 14, none⟩ (.int .u32 n10)).heap[Y]? = some (.cells #[.int .i64 fu, .int .i64 fd, .int .i64 tu, .int .i64 td, .slice a3 x3.length c3, .bool true, .slice aa h.ag.length ca, .slice ag h.sg.length cg, .slice ak h.key.length ck, .int .u32 h.signed, .bool h.has, .int .u32 h.once, .slice a8 x8.length c8, .int .u32 n9, .int .u32 n10, .slice none 0 0] 41 (0, 0)) := set_at q13 _
  have oS : Only w10 (((w10.setCell ⟨Y, 12, none⟩ (.slice a8 x8.length c8)).setCell ⟨Y, 13, none⟩ (.int .u32 n9)).setCell ⟨Y, 14, none⟩ (.int .u32 n10)) [Y] := (((Only.setCell _ _ _ _ (by simp)).trans (Only.setCell _ _ _ _ (by simp))).trans (Only.setCell _ _ _ _ (by simp)))
  have o4 := o4.trans (oS.mono (fun k _ hk => by simp at hk; simp [hk]))
  have oh := oh.trans (oS.mono (fun k _ hk => by simp at hk; simp [hk]))
  have o8 := o8.trans (oS.mono (fun k _ hk => by simp at hk; simp [hk]))
  have r5 := r5.keep oS hYW
  have hy11 := q14
  clear y12 f12 q12 y13 f13 q13 y14 f14 q14
  have zS2 := oS.size
  clear oS
  generalize (((w10.setCell ⟨Y, 12, none⟩ (.slice a8 x8.length c8)).setCell ⟨Y, 13, none⟩ (.int .u32 n9)).setCell ⟨Y, 14, none⟩ (.int .u32 n10)) = W11 at *
  refine (rbytes_rt r5.here).mono ?_
  rintro e w12 ⟨v12, x12, s12, H12, rfl, g12, l12, r12⟩
  obtain ⟨⟨a12, c12, rfl⟩, _⟩ := id g12
  have o4 := o4.trans (r12.only.mono (fun k _ hk => by simp at hk; simp [hk]))
  have oh := oh.trans (r12.only.mono (fun k _ hk => by simp at hk; simp [hk]))
  have o8 := o8.trans (r12.only.mono (fun k _ hk => by simp at hk; simp [hk]))
  have o12 : Only w12 w12 [R, Y] := Only.refl _ _
  have r5 := r5.back r12
  have hy12 := r12.only.at hy11 hYR
  have z12 := r12.only.size
  have y15 := cell_in hy12 15
  have f15 := free_in hy12 15
  go_wp2_with fail
  have q15 : (w12.setCell ⟨Y, 15, none⟩ (.slice a12 x12.length c12)).heap[Y]? = some (.cells #[.int .i64 fu, .int .i64 fd, .int .i64 tu, .int .i64 td, .slice a3 x3.length c3, .bool true, .slice aa h.ag.length ca, .slice ag h.sg.length cg, .slice ak h.key.length ck, .int .u32 h.signed, .bool h.has, .int .u32 h.once, .slice a8 x8.length c8, .int .u32 n9, .int .u32 n10, .slice a12 x12.length c12] 41 (0, 0)) := set_at hy12 _
  have oS : Only w12 (w12.setCell ⟨Y, 15, none⟩ (.slice a12 x12.length c12)) [Y] := (Only.setCell _ _ _ _ (by simp))
  have o4 := o4.trans (oS.mono (fun k _ hk => by simp at hk; simp [hk]))
  have oh := oh.trans (oS.mono (fun k _ hk => by simp at hk; simp [hk]))
  have o8 := o8.trans (oS.mono (fun k _ hk => by simp at hk; simp [hk]))
  have o12 := o12.trans (oS.mono (fun k _ hk => by simp at hk; simp [hk]))
  have rV := r5.keep oS hYW
  have hyV := q15
  clear y15 f15 q15 oS
  generalize (w12.setCell ⟨Y, 15, none⟩ (.slice a12 x12.length c12)) = V at *
  have hne : X ≠ Y := by omega
  have hne' : Y ≠ X := fun h => hne h.symm
  have hXV := o4.at hX4 (by simp; omega)
  have hoV : Only w V [] := ho4.step o4 (fun k hk => .inr (by simp at hk; rcases hk with rfl | rfl; exact hRw; omega))
  have gV : GotE W1 V ⟨fu, fd, tu, td, x3, true, h, x8, n9, n10, x12⟩ _ _ _ _ _ _ := ⟨g3.keep o4 (by simp; omega), (g6.keep oh (by simp; omega)).mono (by omega), (g8.keep o8 (by simp; omega)).mono (by omega), (g12.keep o12 (by simp; omega)).mono (by omega), l3, l8, l12, ufu, ufd, utu, utd, ⟨lo9, hi9⟩, ⟨lo10, hi10⟩⟩
  have HT : Hid (pEnv (ps, false) = (⟨fu, fd, tu, td, x3, true, h, x8, n9, n10, x12⟩, s12)) := show _ = _ by simp [pEnv, pOH, H1.out, H2.out, H3.out, H4.out, H6.out, H8.out, H9.out, H10.out, H12.out]
  clear g3 g8 g12 g6 r04 r5 r8 r9 r10 r12 r6 hX4 hoY hbR o4 oh o8 o12
  refine (rend_rt rV).mono ?_
  rintro e wE0 ⟨rfl, rfl⟩
  obtain ⟨eb, heb⟩ : ∃ eb, eb = (!s12.2 && decide (s12.1.length = 0)) := ⟨_, rfl⟩
  rw [← heb]
  have Heb := Lib.hid heb
  clear heb
  have y0 := cell_in hyV 0
  have y1 := cell_in hyV 1
  have y2 := cell_in hyV 2
  have y3 := cell_in hyV 3
  have y4 := cell_in hyV 4
  have y5 := cell_in hyV 5
  have y6 := cell_in hyV 6
  have y7 := cell_in hyV 7
  have y8 := cell_in hyV 8
  have y9 := cell_in hyV 9
  have y10 := cell_in hyV 10
  have y11 := cell_in hyV 11
  have y12 := cell_in hyV 12
  have y13 := cell_in hyV 13
  have y14 := cell_in hyV 14
  have y15 := cell_in hyV 15
  have x_0 := cell_in hXV 0
  have x_1 := cell_in hXV 1
  have x_2 := cell_in hXV 2
  have x_3 := cell_in hXV 3
  have x_4 := cell_in hXV 4
  have x_5 := cell_in hXV 5
  have x_6 := cell_in hXV 6
  have x_7 := cell_in hXV 7
  have x_8 := cell_in hXV 8
  have x_9 := cell_in hXV 9
  have x_10 := cell_in hXV 10
  have x_11 := cell_in hXV 11
  have x_12 := cell_in hXV 12
  have x_13 := cell_in hXV 13
  have x_14 := cell_in hXV 14
  have x_15 := cell_in hXV 15
  have xf0 := free_in hXV 0
  have xf1 := free_in hXV 1
  have xf2 := free_in hXV 2
  have xf3 := free_in hXV 3
  have xf4 := free_in hXV 4
  have xf5 := free_in hXV 5
  have xf6 := free_in hXV 6
  have xf7 := free_in hXV 7
  have xf8 := free_in hXV 8
  have xf9 := free_in hXV 9
  have xf10 := free_in hXV 10
  have xf11 := free_in hXV 11
  have xf12 := free_in hXV 12
  have xf13 := free_in hXV 13
  have xf14 := free_in hXV 14
  have xf15 := free_in hXV 15
  have hev : eb = true := by rw [Heb.out]; have h := hend; rw [HT.out] at h; exact h
  subst hev
  clear hend hflag
  go_wp2_with fail
  have hE0 : ((((((((((((((((V.setCell ⟨X, 0, none⟩ (.int .i64 fu)).setCell ⟨X, 1, none⟩ (.int .i64 fd)).setCell ⟨X, 2, none⟩ (.int .i64 tu)).setCell ⟨X, 3, none⟩ (.int .i64 td)).setCell ⟨X, 4, none⟩ (.slice a3 x3.length c3)).setCell ⟨X, 5, none⟩ (.bool true)).setCell ⟨X, 6, none⟩ (.slice aa h.ag.length ca)).setCell ⟨X, 7, none⟩ (.slice ag h.sg.length cg)).setCell ⟨X, 8, none⟩ (.slice ak h.key.length ck)).setCell ⟨X, 9, none⟩ (.int .u32 h.signed)).setCell ⟨X, 10, none⟩ (.bool h.has)).setCell ⟨X, 11, none⟩ (.int .u32 h.once)).setCell ⟨X, 12, none⟩ (.slice a8 x8.length c8)).setCell ⟨X, 13, none⟩ (.int .u32 n9)).setCell ⟨X, 14, none⟩ (.int .u32 n10)).setCell ⟨X, 15, none⟩ (.slice a12 x12.length c12)) = setAll V X 0 [.int .i64 fu, .int .i64 fd, .int .i64 tu, .int .i64 td, .slice a3 x3.length c3, .bool true, .slice aa h.ag.length ca, .slice ag h.sg.length cg, .slice ak h.key.length ck, .int .u32 h.signed, .bool h.has, .int .u32 h.once, .slice a8 x8.length c8, .int .u32 n9, .int .u32 n10, .slice a12 x12.length c12] := rfl
  obtain ⟨wE, hE⟩ : ∃ z, z = setAll V X 0 [.int .i64 fu, .int .i64 fd, .int .i64 tu, .int .i64 td, .slice a3 x3.length c3, .bool true, .slice aa h.ag.length ca, .slice ag h.sg.length cg, .slice ak h.key.length ck, .int .u32 h.signed, .bool h.has, .int .u32 h.once, .slice a8 x8.length c8, .int .u32 n9, .int .u32 n10, .slice a12 x12.length c12] := ⟨_, rfl⟩
  rw [hE0, ← hE]
  have hoE : Only V wE [X] := by rw [hE]; exact setAll_only X _ V 0
  have hbE := setAll_lit [.int .i64 fu, .int .i64 fd, .int .i64 tu, .int .i64 td, .slice a3 x3.length c3, .bool true, .slice aa h.ag.length ca, .slice ag h.sg.length cg, .slice ak h.key.length ck, .int .u32 h.signed, .bool h.has, .int .u32 h.once, .slice a8 x8.length c8, .int .u32 n9, .int .u32 n10, .slice a12 x12.length c12] hXV rfl
  rw [← hE] at hbE
  clear hE
  have d0 : wE.cell? ⟨X, 0, none⟩ = some (.int .i64 fu) := (cell_in hbE 0).trans rfl
  have d1 : wE.cell? ⟨X, 1, none⟩ = some (.int .i64 fd) := (cell_in hbE 1).trans rfl
  have d2 : wE.cell? ⟨X, 2, none⟩ = some (.int .i64 tu) := (cell_in hbE 2).trans rfl
  have d3 : wE.cell? ⟨X, 3, none⟩ = some (.int .i64 td) := (cell_in hbE 3).trans rfl
  have d4 : wE.cell? ⟨X, 4, none⟩ = some (.slice a3 x3.length c3) := (cell_in hbE 4).trans rfl
  have d5 : wE.cell? ⟨X, 5, none⟩ = some (.bool true) := (cell_in hbE 5).trans rfl
  have d6 : wE.cell? ⟨X, 6, none⟩ = some (.slice aa h.ag.length ca) := (cell_in hbE 6).trans rfl
  have d7 : wE.cell? ⟨X, 7, none⟩ = some (.slice ag h.sg.length cg) := (cell_in hbE 7).trans rfl
  have d8 : wE.cell? ⟨X, 8, none⟩ = some (.slice ak h.key.length ck) := (cell_in hbE 8).trans rfl
  have d9 : wE.cell? ⟨X, 9, none⟩ = some (.int .u32 h.signed) := (cell_in hbE 9).trans rfl
  have d10 : wE.cell? ⟨X, 10, none⟩ = some (.bool h.has) := (cell_in hbE 10).trans rfl
  have d11 : wE.cell? ⟨X, 11, none⟩ = some (.int .u32 h.once) := (cell_in hbE 11).trans rfl
  have d12 : wE.cell? ⟨X, 12, none⟩ = some (.slice a8 x8.length c8) := (cell_in hbE 12).trans rfl
  have d13 : wE.cell? ⟨X, 13, none⟩ = some (.int .u32 n9) := (cell_in hbE 13).trans rfl
  have d14 : wE.cell? ⟨X, 14, none⟩ = some (.int .u32 n10) := (cell_in hbE 14).trans rfl
  have d15 : wE.cell? ⟨X, 15, none⟩ = some (.slice a12 x12.length c12) := (cell_in hbE 15).trans rfl
  clear hE0
  refine bodyPost_ret (v := .tuple #[.agg #[.int .i64 fu, .int .i64 fd, .int .i64 tu, .int .i64 td, .slice a3 x3.length c3, .bool true, .slice aa h.ag.length ca, .slice ag h.sg.length cg, .slice ak h.key.length ck, .int .u32 h.signed, .bool h.has, .int .u32 h.once, .slice a8 x8.length c8, .int .u32 n9, .int .u32 n10, .slice a12 x12.length c12], .int .i64 0]) (by simp [results, Try.results58, go_sem, d0, d1, d2, d3, d4, d5, d6, d7, d8, d9, d10, d11, d12, d13, d14, d15]) rfl ?_
  exact ⟨⟨fu, fd, tu, td, x3, true, h, x8, n9, n10, x12⟩, s12, HT.out, hoV.new hoE hXX, .inl ⟨Heb.out.symm, _, _, _, _, _, _, rfl, (gV.next hoE hXX').mono hwW⟩⟩

end Go.Proofs.Yticojdepepkdlaa
