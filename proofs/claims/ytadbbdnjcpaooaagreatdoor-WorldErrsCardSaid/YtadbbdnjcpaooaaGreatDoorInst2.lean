/- The contracts of layer 1 (instant) that add: Pass, Over, Is; and of its reference. -/
import Derived.Test.YtadbbdnjcpaooaaGreatDoorInst
set_option linter.all false
namespace Go.Proofs.YtadbbdnjcpaooaaGreatDoor
open Go.RowKit Go.Pw Go.Pw.Fl

theorem arch_min (y : Nat) (h : NaN y = false) (hy : y < 18446744073709551616) (w : World) : (callFunc 91 #[.float .f64 9218868437227405311, .float .f64 y]).run Tryz.prog w = .ok (.value (.float .f64 (mn y))) w := by
  rw [run_callFunc_extern Tryz.func91 (by kernel_rfl) (by kernel_rfl) (by kernel_rfl) (e := Extern.MathDim.pick "math.archMin" true .lt) (by kernel_rfl), ← pick_min y h hy]
  rfl
theorem arch_max (y : Nat) (h : NaN y = false) (hy : y < 18446744073709551616) (w : World) : (callFunc 89 #[.float .f64 18442240474082181119, .float .f64 y]).run Tryz.prog w = .ok (.value (.float .f64 (mx y))) w := by
  rw [run_callFunc_extern Tryz.func89 (by kernel_rfl) (by kernel_rfl) (by kernel_rfl) (e := Extern.MathDim.pick "math.archMax" false .gt) (by kernel_rfl), ← pick_max y h hy]
  rfl

set_option maxHeartbeats 400000 in
theorem min_any (y z : Nat) (h : NaN y = false) (hy : y < 18446744073709551616) (hz : mn y = z) (w : World) :
    Calls Tryz.prog 54 #[.float .f64 9218868437227405311, .float .f64 y] w fun e w' => e = .returned (.float .f64 z) ∧ w = w' := by
  have hr := arch_min y h hy
  rw [hz] at hr
  clear hz h hy
  go_enter Tryz.func54, Tryz.ntmps54
  go_wp2
  go_ret
  exact ⟨rfl, rfl⟩

set_option maxHeartbeats 400000 in
theorem max_any (y z : Nat) (h : NaN y = false) (hy : y < 18446744073709551616) (hz : mx y = z) (w : World) :
    Calls Tryz.prog 53 #[.float .f64 18442240474082181119, .float .f64 y] w fun e w' => e = .returned (.float .f64 z) ∧ w = w' := by
  have hr := arch_max y h hy
  rw [hz] at hr
  clear hz h hy
  go_enter Tryz.func53, Tryz.ntmps53
  go_wp2
  go_ret
  exact ⟨rfl, rfl⟩

set_option maxHeartbeats 400000 in
theorem abs_any (x : Nat) (hx : x < 18446744073709551616) (w : World) :
    Calls Tryz.prog 234 #[.float .f64 x] w fun e w' => e = .returned (.float .f64 (rg x)) ∧ w = w' := by
  have hb := f64bits x
  have hf := f64from
  have Hx := Lib.hid (andNot_abs x hx)
  clear hx
  go_enter Tryz.func234, Tryz.ntmps234
  go_wp2_with fail
  go_ret
  refine ⟨?_, rfl⟩
  have : (bits .andNot .u64 (x : Int) 9223372036854775808).toNat = rg x := by rw [Hx.out, Int.toNat_natCast]
  rw [← this]
  rfl

theorem rg_rg (x : Nat) : rg (rg x) = rg x ∧ sr (rg x) = rg x := by
  have h : rg x < 9223372036854775808 := Nat.mod_lt _ (by decide)
  rcases W (rg x) (by omega) with ⟨a, b, c, d⟩ | ⟨a, b, c, d⟩
  · exact ⟨c, d⟩
  · omega

/-- IsInf(x, 0) of what is no NaN. -/
theorem isinf0_any (x : Nat) (hx : x < 18446744073709551616) (h : NaN x = false) (w : World) :
    Calls Tryz.prog 156 #[.float .f64 x, .int .i64 0] w fun e w' => e = .returned (.bool (!FinW x)) ∧ w = w' := by
  have ha := Lib.hid (abs_any x hx)
  obtain ⟨q1, q2⟩ := rg_rg x
  have hn : NaN (rg x) = false := nan_of (by rw [q1]; exact nan_no h)
  have Hend : Hid ((FloatKind.f64.format.order (rg x) 9218868437227405311 == some .gt) = !FinW x) := show _ = _ by
    rw [order_no hn nan_max, q2, sr_max, ord, Bool.eq_iff_iff]
    have := nan_no h
    by_cases c : rg x < 9218868437227405312
    · rcases Nat.lt_or_eq_of_le (show rg x ≤ 9218868437227405311 by omega) with c1 | c1
      · rw [if_pos (by omega)]; simp [FinW, c]
      · rw [if_neg (by omega), if_pos (by omega)]; simp [FinW, c]
    · rw [if_neg (by omega), if_neg (by omega)]; simp [FinW]; omega
  clear q1 q2 hx h hn
  go_enter Tryz.func156, Tryz.ntmps156
  go_wp2_with fail
  refine (ha.out _).mono ?_
  rintro e w' ⟨rfl, rfl⟩
  go_wp2_with fail
  go_ret
  exact ⟨by rw [← Hend.out]; rfl, rfl⟩

theorem isinf1_any (x : Nat) (h : NaN x = false) (w : World) :
    Calls Tryz.prog 156 #[.float .f64 x, .int .i64 1] w fun e w' => e = .returned (.bool (decide (9218868437227405311 < sr x))) ∧ w = w' := by
  have Hend : Hid ((FloatKind.f64.format.order x 9218868437227405311 == some .gt) = decide (9218868437227405311 < sr x)) := show _ = _ by
    rw [order_no h nan_max, sr_max, ord, Bool.eq_iff_iff]
    rcases Int.lt_trichotomy (sr x) 9218868437227405311 with c | c | c
    · rw [if_pos c]; simp; omega
    · rw [if_neg (by omega), if_pos c]; simp; omega
    · rw [if_neg (by omega), if_neg (by omega)]; simp; omega
  clear h
  go_enter Tryz.func156, Tryz.ntmps156
  go_wp2_with fail
  go_ret
  exact ⟨by rw [← Hend.out]; rfl, rfl⟩

theorem under_f : (Tryz.prog.underlying 22) = some (.float .f64) := Tryz.underlying22

set_option maxHeartbeats 800000 in
theorem pass_any (x d : Nat) (hx : x < 18446744073709551616) (hd : d < 18446744073709551616) (w : World) :
    Calls Tryz.prog 20 #[.float .f64 x, .float .f64 d] w fun e w' => e = .returned (.float .f64 (passV x d)) ∧ w = w' := by
  have hn := isnan_any x
  have hfin := held_fin (x := x)
  have hhl := held_lt hx
  -- the time held
  have key : ∃ y, (NaN x = true → y = 0) ∧ (NaN x = false → y = x) ∧ NaN y = false ∧ y < 18446744073709551616 ∧ mx (mn y) = heldV x := by
    rcases nan_both x with h | h
    · refine ⟨0, fun _ => rfl, fun k => by simp [h] at k, nan_zero, by decide, ?_⟩
      rw [mx_mn 0 nan_zero, heldV, heldV, if_pos h]
      decide
    · exact ⟨x, fun k => by simp [h] at k, fun _ => rfl, h, hx, mx_mn x h⟩
  obtain ⟨y, hy1, hy2, hyn, hyl, hym⟩ := key
  obtain ⟨hmn, _⟩ := mn_of hyn
  have hml : mn y < 18446744073709551616 := by unfold mn; split; decide; exact hyl
  have Hmin := Lib.hid (min_any y (mn y) hyn hyl rfl)
  have Hmax := Lib.hid (max_any (mn y) (heldV x) hmn hml hym)
  by_cases hp : Pos d = true
  · obtain ⟨k1, k2⟩ := pos_yes hp
    obtain ⟨e1, e2, e3, e4⟩ := plus_eq hfin k1 k2 hd
    have ho := pos_order hp
    have hadd := fun w => run_float_arith (P := Tryz.prog) w .add 22 .f64 (heldV x) d (plus (heldV x) d) e1
    have Hmin2 := Lib.hid (min_any (plus (heldV x) d) (mn (plus (heldV x) d)) e2 e4 rfl)
    have Hend : Hid (passV x d = mn (plus (heldV x) d)) := if_pos hp
    clear hp k1 k2 e1 e2 e3 e4 hd hhl hfin hml hmn hym hyl hyn hx
    rcases nan_both x with h | h
    · rw [h] at hn
      have Hn := Lib.hid hn
      obtain rfl := hy1 h
      clear hn h hy1 hy2
      generalize heldV x = H at *
      generalize plus H d = r at *
      go_enter Tryz.func20, Tryz.ntmps20
      go_wp2_with fail
      refine (Hn.out _).mono ?_
      rintro e w' ⟨rfl, rfl⟩
      go_wp2_with fail
      refine (Hmin.out _).mono ?_
      rintro e w' ⟨rfl, rfl⟩
      go_wp2_with fail
      refine (Hmax.out _).mono ?_
      rintro e w' ⟨rfl, rfl⟩
      go_wp2_with fail
      refine (Hmin2.out _).mono ?_
      rintro e w' ⟨rfl, rfl⟩
      go_wp2_with fail
      go_ret
      exact ⟨by rw [Hend.out]; rfl, rfl⟩
    · rw [h] at hn
      have Hn := Lib.hid hn
      obtain rfl := hy2 h
      clear hn h hy1 hy2
      generalize heldV y = H at *
      generalize plus H d = r at *
      go_enter Tryz.func20, Tryz.ntmps20
      go_wp2_with fail
      refine (Hn.out _).mono ?_
      rintro e w' ⟨rfl, rfl⟩
      go_wp2_with fail
      refine (Hmin.out _).mono ?_
      rintro e w' ⟨rfl, rfl⟩
      go_wp2_with fail
      refine (Hmax.out _).mono ?_
      rintro e w' ⟨rfl, rfl⟩
      go_wp2_with fail
      refine (Hmin2.out _).mono ?_
      rintro e w' ⟨rfl, rfl⟩
      go_wp2_with fail
      go_ret
      exact ⟨by rw [Hend.out]; rfl, rfl⟩
  · have ho := pos_order_no (by simpa using hp)
    have Hend : Hid (passV x d = heldV x) := if_neg hp
    clear hp hd hhl hfin hml hmn hym hyl hyn hx
    rcases nan_both x with h | h
    · rw [h] at hn
      have Hn := Lib.hid hn
      obtain rfl := hy1 h
      clear hn h hy1 hy2
      generalize heldV x = H at *
      go_enter Tryz.func20, Tryz.ntmps20
      go_wp2_with fail
      refine (Hn.out _).mono ?_
      rintro e w' ⟨rfl, rfl⟩
      go_wp2_with fail
      refine (Hmin.out _).mono ?_
      rintro e w' ⟨rfl, rfl⟩
      go_wp2_with fail
      refine (Hmax.out _).mono ?_
      rintro e w' ⟨rfl, rfl⟩
      go_wp2_with fail
      go_ret
      exact ⟨by rw [Hend.out]; rfl, rfl⟩
    · rw [h] at hn
      have Hn := Lib.hid hn
      obtain rfl := hy2 h
      clear hn h hy1 hy2
      generalize heldV y = H at *
      go_enter Tryz.func20, Tryz.ntmps20
      go_wp2_with fail
      refine (Hn.out _).mono ?_
      rintro e w' ⟨rfl, rfl⟩
      go_wp2_with fail
      refine (Hmin.out _).mono ?_
      rintro e w' ⟨rfl, rfl⟩
      go_wp2_with fail
      refine (Hmax.out _).mono ?_
      rintro e w' ⟨rfl, rfl⟩
      go_wp2_with fail
      go_ret
      exact ⟨by rw [Hend.out]; rfl, rfl⟩

theorem neg_max (w : World) : (Op.unary .neg (.float .f64 9218868437227405311)).run Tryz.prog w = .ok (.float .f64 18442240474082181119) w := by kernel_rfl

end Go.Proofs.YtadbbdnjcpaooaaGreatDoor
