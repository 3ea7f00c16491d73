/- EnvelopeInners returns true for every Inner: its bytes are the document's and are read back; too long it isn't. No condition. -/
import Derived.Test.YtemlpjfngaemdaaEnvP
import Derived.Test.YtemlpjfngaemdaaSEnvelopeInners
namespace Go.Proofs.Ytemlpjfngaemdaa
open Go.RowKit Go.Pw

set_option maxRecDepth 100000 in
set_option maxHeartbeats 3200000 in
theorem inners_walk (u n : Int) (ao : Option Addr) (c : Nat) (ts : List Int) (w : World) (hp : Rd w (.slice ao ts.length c) ts) (hb : Byt ts) (hn : U32 n) :
    Calls Try.prog 5 #[.agg #[.int .i64 u, .int .u32 n, .slice ao ts.length c]] w fun e w' => e = .returned (.bool true) ∧ Below w.heap.size w w' := by
  have hbel : ∀ w', Only w w' [] → Below w.heap.size w w' := fun w' h => h.below (Nat.le_refl _) (by simp)
  by_cases hl : 2000 < ts.length
  · have d0 : decide ((2000 : Int) < ts.length) = true := by simp; omega
    go_enter Try.func5, Try.ntmps5
    go_wp2_with fail
    obtain ⟨W, X, hW, hX, hbX, hoW, hX1, hX2⟩ := new_block w (.cells #[.int .i64 u, .int .u32 n, .slice ao ts.length c] 49)
    rw [← hW, ← hX]
    clear hW hX
    refine (awake14 _).mono ?_
    rintro e w1 ⟨rfl, h1⟩
    have c2 := cell_in (h1.at hbX (by simp)) 2
    go_wp2_with fail
    refine (awake14 _).mono ?_
    rintro e w2 ⟨rfl, h2⟩
    go_wp2_with fail
    go_ret
    exact ⟨rfl, hbel _ ((hoW.trans h1).trans h2)⟩
  · have d0 : decide ((2000 : Int) < ts.length) = false := by simp; omega
    go_enter Try.func5, Try.ntmps5
    go_wp2_with fail
    obtain ⟨W, X, hW, hX, hbX, hoW, hX1, hX2⟩ := new_block w (.cells #[.int .i64 u, .int .u32 n, .slice ao ts.length c] 49)
    rw [← hW, ← hX]
    clear hW hX
    refine (awake14 _).mono ?_
    rintro e w1 ⟨rfl, h1⟩
    have hX1' := h1.at hbX (by simp)
    have c0 := cell_in hX1' 0
    have c1 := cell_in hX1' 1
    have c2 := cell_in hX1' 2
    go_wp2_with fail
    have hp1 := hp.new (hoW.trans h1)
    refine (encinner_any u n _ ts _ hp1 hn (by omega)).mono fun e w2 hq => ?_
    obtain ⟨ys, a1, k1, Hys, rfl, g1, g2, g3⟩ := hq.name
    clear hq c0 c1 c2
    have hyb : Byt ys := by rw [Hys.out]; exact innerB_byt u n ts hb
    have hyl : ys.length ≤ 2012 := by rw [Hys.out, innerB_len]; omega
    go_wp2_with fail
    refine (decinner_any _ ys w2 (own_rd g1) hyb (by omega)).mono ?_
    rintro e w3 ⟨u', n', ts', s', hd, hu', hn', hbt, ho3, hcase⟩
    rw [Hys.out, pInner_be u n ts hn (by omega)] at hd
    simp only [Prod.mk.injEq] at hd
    obtain ⟨⟨hu0, rfl, rfl⟩, rfl, rfl⟩ := hd
    have Hu := Lib.hid hu0
    clear hu0
    rcases hcase with ⟨_, h256, vt, rfl, hg⟩ | ⟨_, h256, rfl⟩ | ⟨h0, _⟩
    · obtain ⟨⟨az', kt, rfl⟩, hgr, _, _⟩ := id hg
      have d1 : decide ((256 : Int) < ts.length) = false := by simp; omega
      go_wp2_with fail
      obtain ⟨W5, Y, hW, hY, hy, hoY, hY1, hY2⟩ := new_block w3 (.cells #[.int .i64 u', .int .u32 n, .slice az' ts.length kt] 49)
      rw [← hW, ← hY]
      clear hW hY
      have hoT : Only w W5 [] := ((hoW.trans h1).trans g3).trans (ho3.trans hoY)
      have hX5 := ((g3.trans ho3).trans hoY).at hX1' (by simp)
      have hod := Only.drew W5 []
      have Sk : ∀ w', Only W5 w' [] → w'.cell? ⟨X, 0, none⟩ = some (.int .i64 u) ∧ w'.cell? ⟨X, 1, none⟩ = some (.int .u32 n) ∧ w'.cell? ⟨X, 2, none⟩ = some (.slice ao ts.length c) := fun w' ho => ⟨ho.cell_in hX5 (by simp) 0, ho.cell_in hX5 (by simp) 1, ho.cell_in hX5 (by simp) 2⟩
      have hst0 := Lib.hid (run_str (P := Try.prog) (w := W5.drew) (S := 22) (T := 9) Try.underlying22 Try.underlying5 Try.underlying9 ((own_rd g1).new ((ho3.trans hoY).trans hod)) rfl)
      have hsA := hst0.out
      have hp5 := hp.new (hoT.trans hod)
      have hq : Hid (((strOfNums ys).toList == (strOfNums ys).toList) = true) := show _ = _ by simp
      clear hX1'
      have hS0 := Sk _ hod
      go_region_with
        (first
          | (go_at_call 24; (with_reducible refine (rfinner_any u n (.slice ao ts.length c) ts _ hp5 hn (by omega)).mono fun e w6 hq6 => ?_); obtain ⟨zs, a6, k6, Hzs, rfl, q1, q2, q3⟩ := hq6.name; (have hzy : zs = ys := Hzs.out.trans Hys.out.symm); subst hzy; have hqq := hq.out; (have hnq : (!((strOfNums zs).toList == (strOfNums zs).toList)) = false := by simp); have q4 := hod.trans q3; have hS6 := Sk _ q4; have hsB := run_str (P := Try.prog) (S := 22) (T := 9) Try.underlying22 Try.underlying5 Try.underlying9 (own_src q1) rfl; have hsC := run_str (P := Try.prog) (w := w6) (S := 22) (T := 9) Try.underlying22 Try.underlying5 Try.underlying9 ((own_rd g1).new ((ho3.trans hoY).trans q4)) rfl))
      all_goals
        have hy6 := q4.at hy (by simp)
        have y0 := cell_in hy6 0
        have y1 := cell_in hy6 1
        have y2 := cell_in hy6 2
        have hu4 : (u' == u % 4294967296) = true := by
          have := Hu.out
          simp [IntKind.wrap, IntKind.bits, IntKind.signed] at this
          simp [this]
        have hsD := run_str (P := Try.prog) (w := w6) (S := 22) (T := 9) Try.underlying22 Try.underlying5 Try.underlying9 (Rd.new hgr (hoY.trans q4)) rfl
        have hsE := run_str (P := Try.prog) (w := w6) (S := 22) (T := 9) Try.underlying22 Try.underlying5 Try.underlying9 (hp.new (hoT.trans q4)) rfl
        go_wp2_with fail
        all_goals
          go_ret
          exact ⟨rfl, hbel _ (hoT.trans q4)⟩
    · have d1 : decide ((256 : Int) < ts.length) = true := by simp; omega
      go_wp2_with fail
      obtain ⟨W5, Y, hW, hY, hy, hoY, hY1, hY2⟩ := new_block w3 (.cells #[.int .i64 0, .int .u32 0, .slice none 0 0] 49)
      rw [← hW, ← hY]
      clear hW hY
      have hoT : Only w W5 [] := ((hoW.trans h1).trans g3).trans (ho3.trans hoY)
      have hX5 := ((g3.trans ho3).trans hoY).at hX1' (by simp)
      have hod := Only.drew W5 []
      have Sk : ∀ w', Only W5 w' [] → w'.cell? ⟨X, 0, none⟩ = some (.int .i64 u) ∧ w'.cell? ⟨X, 1, none⟩ = some (.int .u32 n) ∧ w'.cell? ⟨X, 2, none⟩ = some (.slice ao ts.length c) := fun w' ho => ⟨ho.cell_in hX5 (by simp) 0, ho.cell_in hX5 (by simp) 1, ho.cell_in hX5 (by simp) 2⟩
      have hst0 := Lib.hid (run_str (P := Try.prog) (w := W5.drew) (S := 22) (T := 9) Try.underlying22 Try.underlying5 Try.underlying9 ((own_rd g1).new ((ho3.trans hoY).trans hod)) rfl)
      have hsA := hst0.out
      have hp5 := hp.new (hoT.trans hod)
      have hq : Hid (((strOfNums ys).toList == (strOfNums ys).toList) = true) := show _ = _ by simp
      clear hX1'
      have hS0 := Sk _ hod
      go_region_with
        (first
          | (go_at_call 24; (with_reducible refine (rfinner_any u n (.slice ao ts.length c) ts _ hp5 hn (by omega)).mono fun e w6 hq6 => ?_); obtain ⟨zs, a6, k6, Hzs, rfl, q1, q2, q3⟩ := hq6.name; (have hzy : zs = ys := Hzs.out.trans Hys.out.symm); subst hzy; have hqq := hq.out; (have hnq : (!((strOfNums zs).toList == (strOfNums zs).toList)) = false := by simp); have q4 := hod.trans q3; have hS6 := Sk _ q4; have hsB := run_str (P := Try.prog) (S := 22) (T := 9) Try.underlying22 Try.underlying5 Try.underlying9 (own_src q1) rfl; have hsC := run_str (P := Try.prog) (w := w6) (S := 22) (T := 9) Try.underlying22 Try.underlying5 Try.underlying9 ((own_rd g1).new ((ho3.trans hoY).trans q4)) rfl))
      all_goals
        have hy6 := q4.at hy (by simp)
        have y0 := cell_in hy6 0
        have y1 := cell_in hy6 1
        have y2 := cell_in hy6 2
        go_wp2_with fail
        all_goals
          go_ret
          exact ⟨rfl, hbel _ (hoT.trans q4)⟩
    · simp [Ends] at h0

theorem cellsI : Try.prog.cellsOf 49 = 3 := by kernel_rfl
theorem cells3 : Try.prog.cellsOf 3 = 1 := by kernel_rfl
theorem cells37 : Try.prog.cellsOf 37 = 1 := by kernel_rfl
theorem cells22 : Try.prog.cellsOf 22 = 1 := by kernel_rfl
theorem cells5 : Try.prog.cellsOf 5 = 1 := by kernel_rfl

theorem envelopeInners_holds : Rows.EnvelopeInnersSaid := envelopeInners.said fun H enc base W v0 d0 p0 h0 h1 => by
  obtain ⟨cs, rfl, hsz⟩ := Go.WideShapes.okWide_struct Try.underlying49 h0
  obtain ⟨a0, a1, a2, hl⟩ := list3 cs.toList (by simpa using hsz.trans cellsI)
  have hr := reads_of h1
  rw [show (Value.agg cs).cells.toList = cs.toList from rfl, hl] at hr
  obtain rfl : cs = #[a0, a1, a2] := by rw [← Array.toArray_toList (xs := cs), hl]
  obtain ⟨u, hu, _⟩ := reads_int Try.underlying3 (reads_field Try.underlying49 hr 0 _ rfl 0 1 3 rfl rfl cells3)
  obtain ⟨n, hn, hn'⟩ := reads_int Try.underlying37 (reads_field Try.underlying49 hr 1 _ rfl 1 1 37 rfl rfl cells37)
  obtain ⟨ao, c, xs, hx, hs, hb⟩ := reads_bytes Try.underlying22 Try.underlying5 cells5 (reads_field Try.underlying49 hr 2 _ rfl 2 1 22 rfl rfl cells22)
  simp at hu hn hx
  subst hu hn hx
  exact inners_walk u n ao c xs W hs hb (u32_wf hn')
end Go.Proofs.Ytemlpjfngaemdaa
