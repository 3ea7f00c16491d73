/- WorldInjects: the tied card of the law. No condition beyond the row's own. -/
import Derived.Test.YtfkbookaceckhaaGreatDoorXWiXh
import Derived.Test.YtfkbookaceckhaaGreatDoorXWiXr0
import Derived.Test.YtfkbookaceckhaaGreatDoorXWiXr1
import Derived.Test.YtfkbookaceckhaaGreatDoorXWiXr2
import Derived.Test.YtfkbookaceckhaaGreatDoorXWiXr3
import Derived.Test.YtfkbookaceckhaaGreatDoorXWiXr4
import Derived.Test.YtfkbookaceckhaaGreatDoorXWiXr5
import Derived.Test.YtfkbookaceckhaaGreatDoorXWiXr6
import Derived.Test.YtfkbookaceckhaaGreatDoorXWiXr7
import Derived.Test.YtfkbookaceckhaaGreatDoorXWiDInjects0
import Derived.Test.YtfkbookaceckhaaGreatDoorXWiDInjects1
import Derived.Test.YtfkbookaceckhaaGreatDoorXWiDInjects2
import Derived.Test.YtfkbookaceckhaaGreatDoorXWiDInjects3
import Derived.Test.YtfkbookaceckhaaGreatDoorXWiDInjects4
import Derived.Test.YtfkbookaceckhaaGreatDoorXWiDInjects5
import Derived.ChangeSlices
import Derived.Test.YtfkbookaceckhaaGreatDoorXWiCt
set_option linter.all false
section
open Go Go.Sx Go.Proofs
set_option linter.all false
namespace Go.Proofs.YtfkbookaceckhaaGreatDoor
set_option maxRecDepth 1000000
theorem gq0 : HkGood Tryz.prog q0.hook := hgI run_q0 (by kernel_rfl) (HkGood.or (hooks_good nq) hCM_good)
theorem gq1 : HkGood Tryz.prog q1.hook := hgI run_q1 (by kernel_rfl) (HkGood.or (hooks_good nq) hCM_good)
theorem gq2 : HkGood Tryz.prog q2.hook := hgI run_q2 (by kernel_rfl) (HkGood.or (hooks_good nq) hCM_good)
theorem gq3 : HkGood Tryz.prog q3.hook := hgI run_q3 (by kernel_rfl) (HkGood.or (hooks_good nq) hCM_good)
theorem hk4_good : HkGood Tryz.prog hk4 := HkGood.or (hooks_good (cq gq0 (cq gq1 (cq gq2 (cq gq3 nq))))) hCM_good
theorem gq4 : HkGood Tryz.prog q4.hook := hgI run_q4 (by kernel_rfl) hk4_good
theorem gq5 : HkGood Tryz.prog q5.hook := hgI run_q5 (by kernel_rfl) (HkGood.or (hooks_good nq) hCM_good)
theorem gq6 : HkGood Tryz.prog q6.hook := hgI run_q6 (by kernel_rfl) (HkGood.or (hooks_good nq) hCM_good)
theorem gq7 : HkGood Tryz.prog q7.hook := hgI run_q7 (by kernel_rfl) (HkGood.or (hooks_good (cq gq6 nq)) hCM_good)
theorem gq8 : HkGood Tryz.prog q8.hook := hgI run_q8 (by kernel_rfl) (HkGood.or (hooks_good nq) hCM_good)
theorem gq9 : HkGood Tryz.prog q9.hook := hgI run_q9 (by kernel_rfl) (HkGood.or (hooks_good nq) hCM_good)
theorem gq10 : HkGood Tryz.prog q10.hook := hgI run_q10 (by kernel_rfl) (HkGood.or (hooks_good (cq gq9 nq)) hCM_good)
theorem gq11 : HkGood Tryz.prog q11.hook := hgI run_q11 (by kernel_rfl) (HkGood.or (hooks_good (cq gq8 (cq gq10 nq))) hCM_good)
theorem hk12_good : HkGood Tryz.prog hk12 := HkGood.or (hooks_good (cq gq5 (cq gq7 (cq gq11 nq)))) hCM_good
theorem gq12 : HkGood Tryz.prog (q12.parHook 2 0) := par_good okt2 callsOK mixed hk12_good dhC_good q12 (by kernel_rfl) (by kernel_rfl) run_q12
theorem gq13 : HkGood Tryz.prog q13.hook := hgI run_q13 (by kernel_rfl) (HkGood.or (hooks_good nq) hCM_good)
theorem gq14 : HkGood Tryz.prog q14.hook := hgI run_q14 (by kernel_rfl) (HkGood.or (hooks_good (cq gq13 nq)) hCM_good)
theorem gq15 : HkGood Tryz.prog q15.hook := hgI run_q15 (by kernel_rfl) (HkGood.or (hooks_good nq) hCM_good)
theorem gq16 : HkGood Tryz.prog q16.hook := hgI run_q16 (by kernel_rfl) (HkGood.or (hooks_good (cq gq15 nq)) hCM_good)
theorem gq17 : HkGood Tryz.prog q17.hook := hgI run_q17 (by kernel_rfl) (HkGood.or (hooks_good nq) hCM_good)
theorem gq18 : HkGood Tryz.prog q18.hook := hgI run_q18 (by kernel_rfl) (HkGood.or (hooks_good (cq gq17 nq)) hCM_good)
theorem gq19 : HkGood Tryz.prog q19.hook := hgI run_q19 (by kernel_rfl) (HkGood.or (hooks_good (cq gq18 nq)) hCM_good)
theorem gq20 : HkGood Tryz.prog q20.hook := hgI run_q20 (by kernel_rfl) (HkGood.or (hooks_good (cq gq19 nq)) hCM_good)
theorem gq21 : HkGood Tryz.prog q21.hook := hgI run_q21 (by kernel_rfl) (HkGood.or (hooks_good (cq gq14 (cq gq16 (cq gq20 nq)))) hCM_good)
theorem gq22 : HkGood Tryz.prog q22.hook := hgI run_q22 (by kernel_rfl) (HkGood.or (hooks_good nq) hCM_good)
theorem gq23 : HkGood Tryz.prog q23.hook := hgI run_q23 (by kernel_rfl) (HkGood.or (hooks_good nq) hCM_good)
theorem gq24 : HkGood Tryz.prog q24.hook := hgI run_q24 (by kernel_rfl) (HkGood.or (hooks_good nq) hCM_good)
theorem gq25 : HkGood Tryz.prog q25.hook := hgI run_q25 (by kernel_rfl) (HkGood.or (hooks_good nq) hCM_good)
theorem gq26 : HkGood Tryz.prog q26.hook := hgI run_q26 (by kernel_rfl) (HkGood.or (hooks_good (cq gq22 (cq gq23 (cq gq24 (cq gq25 nq))))) hCM_good)
theorem gq27 : HkGood Tryz.prog q27.hook := hgI run_q27 (by kernel_rfl) (HkGood.or (hooks_good nq) hCM_good)
theorem hk28_good : HkGood Tryz.prog hk28 := HkGood.or (hooks_good (cq gq27 nq)) hCM_good
theorem gq28 : HkGood Tryz.prog (q28.parHook 2 1) := par_good okt2 callsOK mixed hk28_good dhC_good q28 (by kernel_rfl) (by kernel_rfl) run_q28
theorem gq29 : HkGood Tryz.prog q29.hook := hgI run_q29 (by kernel_rfl) (HkGood.or (hooks_good nq) hCM_good)
theorem gq30 : HkGood Tryz.prog q30.hook := hgI run_q30 (by kernel_rfl) (HkGood.or (hooks_good nq) hCM_good)
theorem gq31 : HkGood Tryz.prog q31.hook := hgI run_q31 (by kernel_rfl) (HkGood.or (hooks_good (cq gq29 (cq gq30 nq))) hCM_good)
theorem gq32 : HkGood Tryz.prog q32.hook := hgI run_q32 (by kernel_rfl) (HkGood.or (hooks_good nq) hCM_good)
theorem gq33 : HkGood Tryz.prog q33.hook := hgI run_q33 (by kernel_rfl) (HkGood.or (hooks_good nq) hCM_good)
theorem gq34 : HkGood Tryz.prog q34.hook := hgI run_q34 (by kernel_rfl) (HkGood.or (hooks_good nq) hCM_good)
theorem gq35 : HkGood Tryz.prog q35.hook := hgI run_q35 (by kernel_rfl) (HkGood.or (hooks_good nq) hCM_good)
theorem gq36 : HkGood Tryz.prog q36.hook := hgI run_q36 (by kernel_rfl) (HkGood.or (hooks_good nq) hCM_good)
theorem closed_w : HkGood Tryz.prog aK.closed := closed_good okt2 callsOK mixed hk4_good dhC_good q4 (by kernel_rfl) (by kernel_rfl) rfl (by kernel_rfl) (by kernel_rfl) (by kernel_rfl) run_q4
theorem hP_good : HkGood Tryz.prog hP := HkGood.or gq28 (HkGood.or gq12 (HkGood.or (hooks_good (cq gq4 (cq gq21 (cq gq26 (cq gq31 (cq gq32 (cq gq33 (cq gq34 (cq gq35 (cq gq36 nq)))))))))) hCM_good))
theorem hW_good : HkGood Tryz.prog hW := HkGood.or hP_good (HkGood.or closed_w hT_good)
end Go.Proofs.YtfkbookaceckhaaGreatDoor
end
section
open Go Go.Sx Go.Proofs Go.RowKit
set_option linter.all false
namespace Go.Proofs.YtfkbookaceckhaaGreatDoor
set_option maxRecDepth 1000000
def nmW (ls : List Sx.Loc) : Nat → Option Sx.Loc := fun id => if id < 200 then none else ls[id - 200]?
theorem hroW : (roW.all fun p => Nat.blt p.1 roN && Nat.blt p.1 Tryz.prog.globals.size) = true := by kernel_rfl
theorem hglW : Nat.ble Tryz.prog.globals.size 200 = true := by kernel_rfl
structure Ctx (W : World) (E : Nat → Nat) (ls : List Sx.Loc) (k d t i : Int) (x : Nat) (ao : Option Addr) (n c : Nat) : Prop where
  hW : ∀ id c, (id, c) ∈ roW → BlkOK (env0 Tryz.prog) W id (.mk (E id) 0 c)
  kr : 0 ≤ k ∧ k < 256
  dr : -9223372036854775808 ≤ d ∧ d ≤ 9223372036854775807
  tr : -9223372036854775808 ≤ t ∧ t ≤ 9223372036854775807
  ir : -9223372036854775808 ≤ i ∧ i ≤ 9223372036854775807
  hx : x < 18446744073709551616
  li : ∃ l, nmW ls 204 = some l ∧ l.int = i
  lk : ∃ l, nmW ls 205 = some l ∧ l.int = k
  ld : ∃ l, nmW ls 206 = some l ∧ l.int = d
  lt : ∃ l, nmW ls 207 = some l ∧ l.int = t
  lx : ∃ l, nmW ls 208 = some l ∧ l.cap = x
  nr : n ≤ 9223372036854775807
  tu : n = 0 → den (envN Tryz.prog (nmW ls)) (.slcU 200) = some (.slice ao n c)
  tt : ∀ lo hi, 1 ≤ lo → lo ≤ n → n ≤ hi → den (envN Tryz.prog (nmW ls)) (.slcT 200 lo hi) = some (.slice ao n c)
  t1 : 1 ≤ n → ∃ T, Rep (envN Tryz.prog (nmW ls)) (stX roW E T pre1).get W
  t2 : 2 ≤ n → ∃ T, Rep (envN Tryz.prog (nmW ls)) (stX roW E T pre2).get W
  t3 : 3 ≤ n → ∃ T, Rep (envN Tryz.prog (nmW ls)) (stX roW E T pre3).get W
theorem nm_at {ls : List Sx.Loc} {id : Nat} (h1 : 200 ≤ id) (h2 : id < 256) : envN Tryz.prog (nmW ls) id = nmW ls id := envN_at _ _ (Nat.le_trans (Nat.le_of_ble_eq_true hglW) h1) h2
section
variable {W : World} {E : Nat → Nat} {ls : List Sx.Loc} {k d t i : Int} {x : Nat} {ao : Option Addr} {n c : Nat}
theorem wrap_i64 {z : Int} (h1 : -9223372036854775808 ≤ z) (h2 : z ≤ 9223372036854775807) : IntKind.i64.wrap z = z := by
  simp [IntKind.wrap, IntKind.bits, IntKind.signed]; omega
theorem wrap_u8 {z : Int} (h1 : 0 ≤ z) (h2 : z < 256) : IntKind.u8.wrap z = z := by
  simp [IntKind.wrap, IntKind.bits, IntKind.signed]; omega
theorem Ctx.k_a (C : Ctx W E ls k d t i x ao n c) : den (envN Tryz.prog (nmW ls)) (.vint .u8 205 (.ofNat 0) (.ofNat 255) 0 0) = some (.int .u8 k) := by
  obtain ⟨l, h1, h2⟩ := C.lk
  have hr := C.kr
  exact den_vint ((nm_at (by decide) (by decide)).trans h1) h2 (wrap_u8 hr.1 hr.2) (show (0 : Int) ≤ k by omega) (show k ≤ (255 : Int) by omega) (fun h => absurd rfl h)
theorem Ctx.d_a (C : Ctx W E ls k d t i x ao n c) : den (envN Tryz.prog (nmW ls)) (.vint .i64 206 (.negSucc 9223372036854775807) (.ofNat 9223372036854775807) 0 0) = some (.int .i64 d) := by
  obtain ⟨l, h1, h2⟩ := C.ld
  have hr := C.dr
  exact den_vint ((nm_at (by decide) (by decide)).trans h1) h2 (wrap_i64 hr.1 hr.2) (show (-9223372036854775808 : Int) ≤ d by omega) (show d ≤ (9223372036854775807 : Int) by omega) (fun h => absurd rfl h)
theorem Ctx.t_n (C : Ctx W E ls k d t i x ao n c) (h : t < 0) : den (envN Tryz.prog (nmW ls)) (.vint .i64 207 (.negSucc 9223372036854775807) (.negSucc 0) 0 0) = some (.int .i64 t) := by
  obtain ⟨l, h1, h2⟩ := C.lt
  have hr := C.tr
  exact den_vint ((nm_at (by decide) (by decide)).trans h1) h2 (wrap_i64 hr.1 hr.2) (show (-9223372036854775808 : Int) ≤ t by omega) (show t ≤ (-1 : Int) by omega) (fun h => absurd rfl h)
theorem Ctx.t_2 (C : Ctx W E ls k d t i x ao n c) (h : 2 ≤ t) : den (envN Tryz.prog (nmW ls)) (.vint .i64 207 (.ofNat 2) (.ofNat 9223372036854775807) 0 0) = some (.int .i64 t) := by
  obtain ⟨l, h1, h2⟩ := C.lt
  have hr := C.tr
  exact den_vint ((nm_at (by decide) (by decide)).trans h1) h2 (wrap_i64 hr.1 hr.2) (show (2 : Int) ≤ t by omega) (show t ≤ (9223372036854775807 : Int) by omega) (fun h => absurd rfl h)
theorem Ctx.t_a (C : Ctx W E ls k d t i x ao n c) : den (envN Tryz.prog (nmW ls)) (.vint .i64 207 (.negSucc 9223372036854775807) (.ofNat 9223372036854775807) 0 0) = some (.int .i64 t) := by
  obtain ⟨l, h1, h2⟩ := C.lt
  have hr := C.tr
  exact den_vint ((nm_at (by decide) (by decide)).trans h1) h2 (wrap_i64 hr.1 hr.2) (show (-9223372036854775808 : Int) ≤ t by omega) (show t ≤ (9223372036854775807 : Int) by omega) (fun h => absurd rfl h)
theorem Ctx.i_a (C : Ctx W E ls k d t i x ao n c) : den (envN Tryz.prog (nmW ls)) (.vint .i64 204 (.negSucc 9223372036854775807) (.ofNat 9223372036854775807) 0 0) = some (.int .i64 i) := by
  obtain ⟨l, h1, h2⟩ := C.li
  have hr := C.ir
  exact den_vint ((nm_at (by decide) (by decide)).trans h1) h2 (wrap_i64 hr.1 hr.2) (show (-9223372036854775808 : Int) ≤ i by omega) (show i ≤ (9223372036854775807 : Int) by omega) (fun h => absurd rfl h)
theorem Ctx.i_m (C : Ctx W E ls k d t i x ao n c) {r : Nat} (h : (IntKind.u64.wrap i).toNat % 5 = r) : den (envN Tryz.prog (nmW ls)) (.vint .i64 204 (.negSucc 9223372036854775807) (.ofNat 9223372036854775807) 5 r) = some (.int .i64 i) := by
  obtain ⟨l, h1, h2⟩ := C.li
  have hr := C.ir
  exact den_vint ((nm_at (by decide) (by decide)).trans h1) h2 (wrap_i64 hr.1 hr.2) (show (-9223372036854775808 : Int) ≤ i by omega) (show i ≤ (9223372036854775807 : Int) by omega) (fun _ => h)
theorem Ctx.x_v (C : Ctx W E ls k d t i x ao n c) : den (envN Tryz.prog (nmW ls)) (.vflt 208) = some (.float .f64 x) := by
  obtain ⟨l, h1, h2⟩ := C.lx
  rw [den_vflt ((nm_at (by decide) (by decide)).trans h1), h2]
theorem op_den {σ : Env} {a1 a2 a3 a4 a5 a6 : AV} {u1 u2 u3 u4 u5 u6 : Value} (h1 : den σ a1 = some u1) (h2 : den σ a2 = some u2) (h3 : den σ a3 = some u3) (h4 : den σ a4 = some u4) (h5 : den σ a5 = some u5) (h6 : den σ a6 = some u6) : den σ (.agg [a1, a2, a3, a4, a5, a6]) = some (.agg #[u1, u2, u3, u4, u5, u6]) :=
  den_agg (denL_cons' h1 (denL_cons' h2 (denL_cons' h3 (denL_cons' h4 (denL_cons' h5 (denL_cons' h6 denL_nil'))))))
def opV (k d t i : Int) (x : Nat) (ao : Option Addr) (n c : Nat) : Value := .agg #[.int .u8 k, .int .i64 d, .int .i64 t, .int .i64 i, .float .f64 x, .slice ao n c]
def Good (W : World) (m : Nat) (v : Value) : Prop := Calls Tryz.prog 3 #[.int .u8 m, v] W fun e W' => e = .returned (.bool true) ∧ Below W.heap.size W W'
theorem law_names (C : Ctx W E ls k d t i x ao n c) {m r : Nat} {hm : m % 2 = r ∧ m < 256} {op : AV} {v : Value} (hd : den (envN Tryz.prog (nmW ls)) op = some v) {st : St} (hn : st.n = roN) (hrep : Rep (envN Tryz.prog (nmW ls)) st.get W) (hro : ∀ id b, st.get id = some b → id < roN) (h : (rX st (.par .u8 m 2 r hm) op).isTrue = true) : Good W m v :=
  law_env okt callsOK mixed hW_good dhC_good cW_fn (args := [.par .u8 m 2 r hm, op]) (us := [.int .u8 m, v]) (denL_cons' rfl (denL_cons' hd denL_nil')) (Nat.le_of_eq hn.symm) (envN_hi _ _ (Nat.le_trans (Nat.le_of_ble_eq_true hglW) (by decide))) (envN_glob _ _) hrep hro h
theorem law_o (C : Ctx W E ls k d t i x ao n c) {m r : Nat} {hm : m % 2 = r ∧ m < 256} {op : AV} {v : Value} (h : (rX (st0 roW E) (.par .u8 m 2 r hm) op).isTrue = true) (hd : den (envN Tryz.prog (nmW ls)) op = some v) : Good W m v :=
  law_names C hd rfl ((rep_st0 hroW C.hW).1.names (envN_le _ _)) (fun id b e => ((rep_st0 hroW C.hW).2 id b e).1) h
theorem law_t (C : Ctx W E ls k d t i x ao n c) {T : Nat} {pre : List AV} (hrep : Rep (envN Tryz.prog (nmW ls)) (stX roW E T pre).get W) {m r : Nat} {hm : m % 2 = r ∧ m < 256} {op : AV} {v : Value} (h : (rX (stX roW E T pre) (.par .u8 m 2 r hm) op).isTrue = true) (hd : den (envN Tryz.prog (nmW ls)) op = some v) : Good W m v :=
  law_names C hd stX_n hrep (stX_small hroW) h
theorem mods (i : Int) : (IntKind.u64.wrap i).toNat % 5 = 0 ∨ (IntKind.u64.wrap i).toNat % 5 = 1 ∨ (IntKind.u64.wrap i).toNat % 5 = 2 ∨ (IntKind.u64.wrap i).toNat % 5 = 3 ∨ (IntKind.u64.wrap i).toNat % 5 = 4 := by omega
theorem law_all (C : Ctx W E ls k d t i x ao n c) (m : Nat) (hm : m < 256) : Good W m (opV k d t i x ao n c) := by
  have h2 := Nat.mod_two_eq_zero_or_one m
  by_cases hw : 201 ≤ n
  · rcases h2 with h | h
    · exact law_o C (wl0 E m ⟨h, hm⟩ ao n c ⟨hw, C.nr⟩) (op_den C.k_a C.d_a C.t_a C.i_a C.x_v rfl)
    · exact law_o C (wl1 E m ⟨h, hm⟩ ao n c ⟨hw, C.nr⟩) (op_den C.k_a C.d_a C.t_a C.i_a C.x_v rfl)
  have hn : 0 ≤ n ∧ n ≤ 200 := ⟨Nat.zero_le _, by omega⟩
  rcases h2 with h | h
  · exact law_o C (w0a E m ⟨h, hm⟩ ao n c hn) (op_den C.k_a C.d_a C.t_a C.i_a C.x_v rfl)
  rcases (show t < 0 ∨ 2 ≤ t ∨ t = 0 ∨ t = 1 by omega) with g | g | g | g
  · exact law_o C (w1n E m ⟨h, hm⟩ ao n c hn) (op_den C.k_a C.d_a (C.t_n g) C.i_a C.x_v rfl)
  · exact law_o C (w1p E m ⟨h, hm⟩ ao n c hn) (op_den C.k_a C.d_a (C.t_2 g) C.i_a C.x_v rfl)
  · subst g
    rcases mods i with q | q | q | q | q
    · rcases (show n = 0 ∨ n = 1 ∨ n = 2 ∨ 3 ≤ n by omega) with j | j | j | j
      · exact law_o C (w100u E m ⟨h, hm⟩) (op_den C.k_a C.d_a rfl (C.i_m q) C.x_v (C.tu j))
      · obtain ⟨T, hT⟩ := C.t1 (by omega)
        exact law_t C hT (w1001 E m ⟨h, hm⟩ T) (op_den C.k_a C.d_a rfl (C.i_m q) C.x_v (C.tt 1 1 (by decide) (by omega) (by omega)))
      · obtain ⟨T, hT⟩ := C.t2 (by omega)
        exact law_t C hT (w1002 E m ⟨h, hm⟩ T) (op_den C.k_a C.d_a rfl (C.i_m q) C.x_v (C.tt 2 2 (by decide) (by omega) (by omega)))
      · obtain ⟨T, hT⟩ := C.t3 (by omega)
        exact law_t C hT (w1003 E m ⟨h, hm⟩ T) (op_den C.k_a C.d_a rfl (C.i_m q) C.x_v (C.tt 3 200 (by decide) (by omega) (by omega)))
    · rcases (show n = 0 ∨ n = 1 ∨ n = 2 ∨ 3 ≤ n by omega) with j | j | j | j
      · exact law_o C (w101u E m ⟨h, hm⟩) (op_den C.k_a C.d_a rfl (C.i_m q) C.x_v (C.tu j))
      · obtain ⟨T, hT⟩ := C.t1 (by omega)
        exact law_t C hT (w1011 E m ⟨h, hm⟩ T) (op_den C.k_a C.d_a rfl (C.i_m q) C.x_v (C.tt 1 1 (by decide) (by omega) (by omega)))
      · obtain ⟨T, hT⟩ := C.t2 (by omega)
        exact law_t C hT (w1012 E m ⟨h, hm⟩ T) (op_den C.k_a C.d_a rfl (C.i_m q) C.x_v (C.tt 2 2 (by decide) (by omega) (by omega)))
      · obtain ⟨T, hT⟩ := C.t3 (by omega)
        exact law_t C hT (w1013 E m ⟨h, hm⟩ T) (op_den C.k_a C.d_a rfl (C.i_m q) C.x_v (C.tt 3 200 (by decide) (by omega) (by omega)))
    · rcases (show n = 0 ∨ n = 1 ∨ n = 2 ∨ 3 ≤ n by omega) with j | j | j | j
      · exact law_o C (w102u E m ⟨h, hm⟩) (op_den C.k_a C.d_a rfl (C.i_m q) C.x_v (C.tu j))
      · obtain ⟨T, hT⟩ := C.t1 (by omega)
        exact law_t C hT (w1021 E m ⟨h, hm⟩ T) (op_den C.k_a C.d_a rfl (C.i_m q) C.x_v (C.tt 1 1 (by decide) (by omega) (by omega)))
      · obtain ⟨T, hT⟩ := C.t2 (by omega)
        exact law_t C hT (w1022 E m ⟨h, hm⟩ T) (op_den C.k_a C.d_a rfl (C.i_m q) C.x_v (C.tt 2 2 (by decide) (by omega) (by omega)))
      · obtain ⟨T, hT⟩ := C.t3 (by omega)
        exact law_t C hT (w1023 E m ⟨h, hm⟩ T) (op_den C.k_a C.d_a rfl (C.i_m q) C.x_v (C.tt 3 200 (by decide) (by omega) (by omega)))
    · rcases (show n = 0 ∨ n = 1 ∨ n = 2 ∨ 3 ≤ n by omega) with j | j | j | j
      · exact law_o C (w103u E m ⟨h, hm⟩) (op_den C.k_a C.d_a rfl (C.i_m q) C.x_v (C.tu j))
      · obtain ⟨T, hT⟩ := C.t1 (by omega)
        exact law_t C hT (w1031 E m ⟨h, hm⟩ T) (op_den C.k_a C.d_a rfl (C.i_m q) C.x_v (C.tt 1 1 (by decide) (by omega) (by omega)))
      · obtain ⟨T, hT⟩ := C.t2 (by omega)
        exact law_t C hT (w1032 E m ⟨h, hm⟩ T) (op_den C.k_a C.d_a rfl (C.i_m q) C.x_v (C.tt 2 2 (by decide) (by omega) (by omega)))
      · obtain ⟨T, hT⟩ := C.t3 (by omega)
        exact law_t C hT (w1033 E m ⟨h, hm⟩ T) (op_den C.k_a C.d_a rfl (C.i_m q) C.x_v (C.tt 3 200 (by decide) (by omega) (by omega)))
    · rcases (show n = 0 ∨ n = 1 ∨ n = 2 ∨ 3 ≤ n by omega) with j | j | j | j
      · exact law_o C (w104u E m ⟨h, hm⟩) (op_den C.k_a C.d_a rfl (C.i_m q) C.x_v (C.tu j))
      · obtain ⟨T, hT⟩ := C.t1 (by omega)
        exact law_t C hT (w1041 E m ⟨h, hm⟩ T) (op_den C.k_a C.d_a rfl (C.i_m q) C.x_v (C.tt 1 1 (by decide) (by omega) (by omega)))
      · obtain ⟨T, hT⟩ := C.t2 (by omega)
        exact law_t C hT (w1042 E m ⟨h, hm⟩ T) (op_den C.k_a C.d_a rfl (C.i_m q) C.x_v (C.tt 2 2 (by decide) (by omega) (by omega)))
      · obtain ⟨T, hT⟩ := C.t3 (by omega)
        exact law_t C hT (w1043 E m ⟨h, hm⟩ T) (op_den C.k_a C.d_a rfl (C.i_m q) C.x_v (C.tt 3 200 (by decide) (by omega) (by omega)))
  · subst g
    rcases mods i with q | q | q | q | q
    · rcases (show n = 0 ∨ n = 1 ∨ n = 2 ∨ 3 ≤ n by omega) with j | j | j | j
      · exact law_o C (w110u E m ⟨h, hm⟩) (op_den C.k_a C.d_a rfl (C.i_m q) C.x_v (C.tu j))
      · obtain ⟨T, hT⟩ := C.t1 (by omega)
        exact law_t C hT (w1101 E m ⟨h, hm⟩ T) (op_den C.k_a C.d_a rfl (C.i_m q) C.x_v (C.tt 1 1 (by decide) (by omega) (by omega)))
      · obtain ⟨T, hT⟩ := C.t2 (by omega)
        exact law_t C hT (w1102 E m ⟨h, hm⟩ T) (op_den C.k_a C.d_a rfl (C.i_m q) C.x_v (C.tt 2 2 (by decide) (by omega) (by omega)))
      · obtain ⟨T, hT⟩ := C.t3 (by omega)
        exact law_t C hT (w1103 E m ⟨h, hm⟩ T) (op_den C.k_a C.d_a rfl (C.i_m q) C.x_v (C.tt 3 200 (by decide) (by omega) (by omega)))
    · rcases (show n = 0 ∨ n = 1 ∨ n = 2 ∨ 3 ≤ n by omega) with j | j | j | j
      · exact law_o C (w111u E m ⟨h, hm⟩) (op_den C.k_a C.d_a rfl (C.i_m q) C.x_v (C.tu j))
      · obtain ⟨T, hT⟩ := C.t1 (by omega)
        exact law_t C hT (w1111 E m ⟨h, hm⟩ T) (op_den C.k_a C.d_a rfl (C.i_m q) C.x_v (C.tt 1 1 (by decide) (by omega) (by omega)))
      · obtain ⟨T, hT⟩ := C.t2 (by omega)
        exact law_t C hT (w1112 E m ⟨h, hm⟩ T) (op_den C.k_a C.d_a rfl (C.i_m q) C.x_v (C.tt 2 2 (by decide) (by omega) (by omega)))
      · obtain ⟨T, hT⟩ := C.t3 (by omega)
        exact law_t C hT (w1113 E m ⟨h, hm⟩ T) (op_den C.k_a C.d_a rfl (C.i_m q) C.x_v (C.tt 3 200 (by decide) (by omega) (by omega)))
    · rcases (show n = 0 ∨ n = 1 ∨ n = 2 ∨ 3 ≤ n by omega) with j | j | j | j
      · exact law_o C (w112u E m ⟨h, hm⟩) (op_den C.k_a C.d_a rfl (C.i_m q) C.x_v (C.tu j))
      · obtain ⟨T, hT⟩ := C.t1 (by omega)
        exact law_t C hT (w1121 E m ⟨h, hm⟩ T) (op_den C.k_a C.d_a rfl (C.i_m q) C.x_v (C.tt 1 1 (by decide) (by omega) (by omega)))
      · obtain ⟨T, hT⟩ := C.t2 (by omega)
        exact law_t C hT (w1122 E m ⟨h, hm⟩ T) (op_den C.k_a C.d_a rfl (C.i_m q) C.x_v (C.tt 2 2 (by decide) (by omega) (by omega)))
      · obtain ⟨T, hT⟩ := C.t3 (by omega)
        exact law_t C hT (w1123 E m ⟨h, hm⟩ T) (op_den C.k_a C.d_a rfl (C.i_m q) C.x_v (C.tt 3 200 (by decide) (by omega) (by omega)))
    · rcases (show n = 0 ∨ n = 1 ∨ n = 2 ∨ 3 ≤ n by omega) with j | j | j | j
      · exact law_o C (w113u E m ⟨h, hm⟩) (op_den C.k_a C.d_a rfl (C.i_m q) C.x_v (C.tu j))
      · obtain ⟨T, hT⟩ := C.t1 (by omega)
        exact law_t C hT (w1131 E m ⟨h, hm⟩ T) (op_den C.k_a C.d_a rfl (C.i_m q) C.x_v (C.tt 1 1 (by decide) (by omega) (by omega)))
      · obtain ⟨T, hT⟩ := C.t2 (by omega)
        exact law_t C hT (w1132 E m ⟨h, hm⟩ T) (op_den C.k_a C.d_a rfl (C.i_m q) C.x_v (C.tt 2 2 (by decide) (by omega) (by omega)))
      · obtain ⟨T, hT⟩ := C.t3 (by omega)
        exact law_t C hT (w1133 E m ⟨h, hm⟩ T) (op_den C.k_a C.d_a rfl (C.i_m q) C.x_v (C.tt 3 200 (by decide) (by omega) (by omega)))
    · rcases (show n = 0 ∨ n = 1 ∨ n = 2 ∨ 3 ≤ n by omega) with j | j | j | j
      · exact law_o C (w114u E m ⟨h, hm⟩) (op_den C.k_a C.d_a rfl (C.i_m q) C.x_v (C.tu j))
      · obtain ⟨T, hT⟩ := C.t1 (by omega)
        exact law_t C hT (w1141 E m ⟨h, hm⟩ T) (op_den C.k_a C.d_a rfl (C.i_m q) C.x_v (C.tt 1 1 (by decide) (by omega) (by omega)))
      · obtain ⟨T, hT⟩ := C.t2 (by omega)
        exact law_t C hT (w1142 E m ⟨h, hm⟩ T) (op_den C.k_a C.d_a rfl (C.i_m q) C.x_v (C.tt 2 2 (by decide) (by omega) (by omega)))
      · obtain ⟨T, hT⟩ := C.t3 (by omega)
        exact law_t C hT (w1143 E m ⟨h, hm⟩ T) (op_den C.k_a C.d_a rfl (C.i_m q) C.x_v (C.tt 3 200 (by decide) (by omega) (by omega)))
end
#print axioms law_all
end Go.Proofs.YtfkbookaceckhaaGreatDoor
end
section
open Go Go.Sx Go.Proofs Go.RowKit
set_option linter.all false
namespace Go.Proofs.YtfkbookaceckhaaGreatDoor
set_option maxRecDepth 100000
theorem reads_text {P : Program} {W : World} {t e : TypeId} {cs : List Value} (hT : P.underlying t = some (.slice e)) (hE : P.underlying e = some (.int .u8)) (hc : P.cellsOf e = 1) (h : Reads P W t cs) :
    ∃ (ao : Option Addr) (n c : Nat), cs = [.slice ao n c] ∧ n ≤ c ∧ c ≤ 9223372036854775807 ∧ (ao = none → c = 0) ∧
      (0 < n → ∃ b o ds T fr, ao = some ⟨b, o, none⟩ ∧ W.heap[b]? = some (.cells ds T fr) ∧ o + n ≤ ds.size ∧ ∀ i, i < n → ∃ v : Nat, v < 256 ∧ ds[o + i]? = some (.int .u8 v)) := by
  obtain ⟨H, enc, fuel, x, h⟩ := h
  rcases Go.ChangeShapes.open_ints hT hE hc h with ⟨rfl, _⟩ | ⟨a, len, cap, zs, rfl, _, hl, hm, hz, _, hcell, hwz⟩
  · exact ⟨none, 0, 0, rfl, Nat.le_refl _, by omega, fun _ => rfl, fun h => by omega⟩
  · have hzl : zs.length = cap := by simpa using hz
    refine ⟨some a, len, cap, rfl, hl, by unfold maxLen at hm; exact hm, (fun h => by cases h), fun hn => ?_⟩
    have hb : ∀ i, i < zs.length → ∃ v : Nat, v < 256 ∧ zs.getD i 0 = (v : Int) := fun i hi => by
      have hw := hwz zs[i] (List.getElem_mem hi)
      rw [List.getD_eq_getElem?_getD, List.getElem?_eq_getElem hi]
      simp [Lit.wf, IntKind.min, IntKind.max, IntKind.signed, IntKind.bits] at hw
      exact ⟨zs[i].toNat, by omega, by show zs[i] = _; omega⟩
    obtain ⟨b, o, s⟩ := a
    have c0 := hcell 0 (by omega)
    unfold Addr.add at c0
    rw [if_pos rfl] at c0
    unfold World.cell? at c0
    cases hh : W.heap[b]? with
    | none => simp only [hh] at c0; cases c0
    | some ob =>
      cases ob with
      | cells ds T fr =>
        simp only [hh] at c0
        cases s with
        | some k => simp at c0
        | none =>
          have each : ∀ i, i < len → ∃ v : Nat, v < 256 ∧ ds[o + i]? = some (.int .u8 v) := fun i hi => by
            obtain ⟨v, hv1, hv2⟩ := hb i (by omega)
            have := hcell i (by omega)
            rw [hv2] at this
            refine ⟨v, hv1, ?_⟩
            unfold Addr.add at this
            by_cases h0 : i = 0
            · subst h0
              rw [if_pos rfl] at this
              unfold World.cell? at this
              simp only [hh, Option.isSome_none, Bool.false_eq_true, if_false] at this
              exact this
            · rw [if_neg h0] at this
              unfold World.cell? at this
              simp only [hh, Option.isSome_none, Bool.false_eq_true, if_false] at this
              exact this
          refine ⟨b, o, ds, T, fr, rfl, hh, ?_, each⟩
          obtain ⟨v, _, hv⟩ := each (len - 1) (by omega)
          have := (Array.getElem?_eq_some_iff.1 hv).1
          omega
      | _ => simp only [hh] at c0; cases c0
theorem open_op {W : World} {H : Type} {enc : TypeId × Value → H} {base : Nat} {v : Value} {d : DataW H} {p : List MemPlace} (h0 : Value.okWide Tryz.prog W .any base 25 v) (h1 : DataW.Trod enc Tryz.prog W 0 (fun _ => true) true 25 v d p) :
    ∃ (k d t i : Int) (x : Nat) (ao : Option Addr) (n c : Nat), v = opV k d t i x ao n c ∧ (0 ≤ k ∧ k < 256) ∧ (-9223372036854775808 ≤ d ∧ d ≤ 9223372036854775807) ∧ (-9223372036854775808 ≤ t ∧ t ≤ 9223372036854775807) ∧ (-9223372036854775808 ≤ i ∧ i ≤ 9223372036854775807) ∧ x < 18446744073709551616 ∧
      n ≤ c ∧ c ≤ 9223372036854775807 ∧ (ao = none → c = 0) ∧
      (0 < n → ∃ b o ds T fr, ao = some ⟨b, o, none⟩ ∧ W.heap[b]? = some (.cells ds T fr) ∧ o + n ≤ ds.size ∧ ∀ i, i < n → ∃ v : Nat, v < 256 ∧ ds[o + i]? = some (.int .u8 v)) := by
  obtain ⟨cs, rfl, hsz⟩ := Go.WideShapes.okWide_struct Tryz.underlying25 h0
  have h := reads_of h1
  have hl : cs.toList.length = 6 := (reads_len Tryz.underlying25 h).trans (by kernel_rfl)
  rw [show (Value.agg cs).cells.toList = cs.toList from rfl] at h
  rw [← Array.toArray_toList (xs := cs)]
  generalize cs.toList = l at h hl
  obtain _ | ⟨y0, l⟩ := l
  · simp at hl
  obtain _ | ⟨y1, l⟩ := l
  · simp at hl
  obtain _ | ⟨y2, l⟩ := l
  · simp at hl
  obtain _ | ⟨y3, l⟩ := l
  · simp at hl
  obtain _ | ⟨y4, l⟩ := l
  · simp at hl
  obtain _ | ⟨y5, l⟩ := l
  · simp at hl
  obtain _ | ⟨z, l⟩ := l
  · skip
    have h_0 := reads_field Tryz.underlying25 h 0 (o := 0) (n := 1) (T := 5) rfl (by kernel_rfl)
    obtain ⟨x0, e0, w0⟩ := reads_int Tryz.underlying5 h_0
    have h_1 := reads_field Tryz.underlying25 h 1 (o := 1) (n := 1) (T := 3) rfl (by kernel_rfl)
    obtain ⟨x1, e1, w1⟩ := reads_int Tryz.underlying3 h_1
    have h_2 := reads_field Tryz.underlying25 h 2 (o := 2) (n := 1) (T := 3) rfl (by kernel_rfl)
    obtain ⟨x2, e2, w2⟩ := reads_int Tryz.underlying3 h_2
    have h_3 := reads_field Tryz.underlying25 h 3 (o := 3) (n := 1) (T := 3) rfl (by kernel_rfl)
    obtain ⟨x3, e3, w3⟩ := reads_int Tryz.underlying3 h_3
    have h_4 := reads_field Tryz.underlying25 h 4 (o := 4) (n := 1) (T := 22) rfl (by kernel_rfl)
    obtain ⟨x4, e4, w4⟩ := reads_float Tryz.underlying22 h_4
    have h_5 := reads_field Tryz.underlying25 h 5 (o := 5) (n := 1) (T := 23) rfl (by kernel_rfl)
    obtain ⟨a5, n5, c5, e5, q1, q2, q3, q4⟩ := reads_text Tryz.underlying23 Tryz.underlying5 (by kernel_rfl) h_5
    simp only [List.drop_zero, List.take_succ_cons, List.take_zero, List.drop_succ_cons, List.cons.injEq, and_true] at e0 e1 e2 e3 e4 e5
    subst e0 e1 e2 e3 e4 e5
    have i64w : ∀ n : Int, (Lit.int .i64 n).wf = true → -9223372036854775808 ≤ n ∧ n ≤ 9223372036854775807 := fun n h => by
      simp [Lit.wf, IntKind.min, IntKind.max, IntKind.signed, IntKind.bits] at h
      omega
    refine ⟨x0, x1, x2, x3, x4, a5, n5, c5, rfl, ?_, i64w x1 w1, i64w x2 w2, i64w x3 w3, ?_, q1, q2, q3, q4⟩
    · simp [Lit.wf, IntKind.min, IntKind.max, IntKind.signed, IntKind.bits] at w0
      omega
    · have w4 := of_decide_eq_true w4
      exact w4
  · simp at hl
theorem byte_loc (v : Nat) (h : v < 256) : ∃ l : Sx.Loc, l.len = v := ⟨⟨0, 0, v⟩, by unfold Sx.Loc.len; show v % 18446744073709551616 = v; omega⟩
theorem ctx_of {W : World} {E : Nat → Nat} (hW : ∀ id c, (id, c) ∈ roW → BlkOK (env0 Tryz.prog) W id (.mk (E id) 0 c)) (hne : ∀ id c', (id, c') ∈ roW → ∃ c el fr, W.heap[id]? = some (.cells c el fr) ∧ ∀ (j : Nat) (u : Value), c[j]? = some u → ∃ k z, u = .int k z ∧ k ≠ .u8)
    {k d t i : Int} {x : Nat} {ao : Option Addr} {n c : Nat} (hk : 0 ≤ k ∧ k < 256) (hd : -9223372036854775808 ≤ d ∧ d ≤ 9223372036854775807) (ht : -9223372036854775808 ≤ t ∧ t ≤ 9223372036854775807) (hi : -9223372036854775808 ≤ i ∧ i ≤ 9223372036854775807) (hx : x < 18446744073709551616)
    (hnc : n ≤ c) (hc : c ≤ 9223372036854775807) (hao : ao = none → c = 0)
    (htx : 0 < n → ∃ b o ds T fr, ao = some ⟨b, o, none⟩ ∧ W.heap[b]? = some (.cells ds T fr) ∧ o + n ≤ ds.size ∧ ∀ i, i < n → ∃ v : Nat, v < 256 ∧ ds[o + i]? = some (.int .u8 v)) :
    ∃ ls, Ctx W E ls k d t i x ao n c := by
  obtain ⟨lk, hlk⟩ := Sx.Loc.int_of k
  obtain ⟨ld, hld⟩ := Sx.Loc.int_of d
  obtain ⟨lt, hlt⟩ := Sx.Loc.int_of t
  obtain ⟨li, hli⟩ := Sx.Loc.int_of i
  have hgl := Nat.le_of_ble_eq_true hglW
  by_cases h0 : n = 0
  · subst h0
    obtain ⟨l0, ha, hb⟩ := Sx.Loc.at0_of ao (c := c) (by omega)
    refine ⟨[l0, l0, l0, l0, li, lk, ld, lt, ⟨0, 0, x⟩], hW, hk, hd, ht, hi, hx, ⟨li, rfl, hli⟩, ⟨lk, rfl, hlk⟩, ⟨ld, rfl, hld⟩, ⟨lt, rfl, hlt⟩, ⟨⟨0, 0, x⟩, rfl, rfl⟩, by omega, fun _ => ?_, fun lo hi h1 h2 _ => by omega, fun h => by omega, fun h => by omega, fun h => by omega⟩
    exact den_slcU ((nm_at (by decide) (by decide)).trans rfl) ha hb hao hc
  · obtain ⟨b, o, ds, T, fr, rfl, hb, hsz, hby⟩ := htx (by omega)
    have hall : ∀ j, ∃ l : Sx.Loc, j < n → l.len < 256 ∧ ds[o + j]? = some (.int .u8 (.ofNat l.len)) := fun j => by
      by_cases hj : j < n
      · obtain ⟨v, h1, h2⟩ := hby j hj
        obtain ⟨l, hl⟩ := byte_loc v h1
        exact ⟨l, fun _ => by rw [hl]; exact ⟨h1, h2⟩⟩
      · exact ⟨⟨0, 0, 0⟩, fun h => absurd h hj⟩
    obtain ⟨f, hf⟩ := Classical.axiomOfChoice hall
    obtain ⟨p1, p2⟩ := packT (a := n) (b := c) (by omega) ⟨b, o, 0⟩
    have hT : ∀ (ls : List Sx.Loc), nmW ls 200 = some ⟨b, o, n + 18446744073709551616 * c⟩ → nmW ls 201 = some (f 0) → nmW ls 202 = some (f 1) → nmW ls 203 = some (f 2) → ∀ (m : Nat) (pre : List AV), m ≤ n → (∃ us, denL (envN Tryz.prog (nmW ls)) pre = some us ∧ pre.all AV.one = true ∧ us.length ≤ m ∧ ∀ j u, us[j]? = some u → ds[o + j]? = some u) → ∃ T, Rep (envN Tryz.prog (nmW ls)) (stX roW E T pre).get W := by
      intro ls e0 e1 e2 e3 m pre hm ⟨us, g1, g2, g3, g4⟩
      refine ⟨T, rep_stY hroW hgl hW (l := ⟨b, o, n + 18446744073709551616 * c⟩) e0 hb g1 g2 ?_ ?_ g4 ?_ ?_ ?_⟩
      · rw [p1]; omega
      · rw [p1]; exact hsz
      · intro j hj
        rw [p1] at hj
        exact hby j hj
      · rw [p1, p2]; exact ⟨hnc, hc⟩
      · intro id c' hm' hid
        obtain ⟨c0, el, fr0, q1, q2⟩ := hne id c' hm'
        have hid : id = b := hid
        rw [← hid] at hb
        rw [q1] at hb
        injection hb with hb
        injection hb with hb _ _
        obtain ⟨v, _, hv⟩ := hby 0 (by omega)
        rw [← hb] at hv
        obtain ⟨kd, z, hz, hk⟩ := q2 _ _ hv
        injection hz with hz _
        exact hk hz.symm
    have tok : ∀ (ls : List Sx.Loc) (id j : Nat), 200 ≤ id → id < 256 → nmW ls id = some (f j) → j < n → den (envN Tryz.prog (nmW ls)) (.tok .u8 id 0 255) = some (.int .u8 (.ofNat (f j).len)) := fun ls id j h1 h2 h3 h4 => by
      have := (hf j h4).1
      exact den_tok ((nm_at h1 h2).trans h3) (Nat.zero_le _) (by omega)
    refine ⟨[⟨b, o, n + 18446744073709551616 * c⟩, f 0, f 1, f 2, li, lk, ld, lt, ⟨0, 0, x⟩], hW, hk, hd, ht, hi, hx, ⟨li, rfl, hli⟩, ⟨lk, rfl, hlk⟩, ⟨ld, rfl, hld⟩, ⟨lt, rfl, hlt⟩, ⟨⟨0, 0, x⟩, rfl, rfl⟩, by omega, fun h => absurd h h0, fun lo hi h1 h2 h3 => ?_, fun h => ?_, fun h => ?_, fun h => ?_⟩
    · have := den_slcT (σ := envN Tryz.prog (nmW [⟨b, o, n + 18446744073709551616 * c⟩, f 0, f 1, f 2, li, lk, ld, lt, ⟨0, 0, x⟩])) (id := 200) (lo := lo) (hi := hi) (l := ⟨b, o, n + 18446744073709551616 * c⟩) ((nm_at (by decide) (by decide)).trans rfl) (by rw [p1]; exact h2) (by rw [p1]; exact h3)
      rw [p1, p2] at this
      exact this
    · refine hT _ rfl rfl rfl rfl 1 pre1 h ⟨[.int .u8 (.ofNat (f 0).len)], denL_cons' (tok _ 201 0 (by decide) (by decide) rfl (by omega)) denL_nil', rfl, Nat.le_refl _, fun j u hu => ?_⟩
      match j, hu with
      | 0, hu => obtain rfl := Option.some.inj hu; exact (hf 0 (by omega)).2
    · refine hT _ rfl rfl rfl rfl 2 pre2 h ⟨[.int .u8 (.ofNat (f 0).len), .int .u8 (.ofNat (f 1).len)], denL_cons' (tok _ 201 0 (by decide) (by decide) rfl (by omega)) (denL_cons' (tok _ 202 1 (by decide) (by decide) rfl (by omega)) denL_nil'), rfl, Nat.le_refl _, fun j u hu => ?_⟩
      match j, hu with
      | 0, hu => obtain rfl := Option.some.inj hu; exact (hf 0 (by omega)).2
      | 1, hu => obtain rfl := Option.some.inj hu; exact (hf 1 (by omega)).2
    · refine hT _ rfl rfl rfl rfl 3 pre3 h ⟨[.int .u8 (.ofNat (f 0).len), .int .u8 (.ofNat (f 1).len), .int .u8 (.ofNat (f 2).len)], denL_cons' (tok _ 201 0 (by decide) (by decide) rfl (by omega)) (denL_cons' (tok _ 202 1 (by decide) (by decide) rfl (by omega)) (denL_cons' (tok _ 203 2 (by decide) (by decide) rfl (by omega)) denL_nil')), rfl, Nat.le_refl _, fun j u hu => ?_⟩
      match j, hu with
      | 0, hu => obtain rfl := Option.some.inj hu; exact (hf 0 (by omega)).2
      | 1, hu => obtain rfl := Option.some.inj hu; exact (hf 1 (by omega)).2
      | 2, hu => obtain rfl := Option.some.inj hu; exact (hf 2 (by omega)).2
theorem laid_ne {laid : List (String × DataW Unit)} {W : World} (h : laidMet Tryz.prog laid W) {n1 n2 n3 : String} {d1 d2 d3 : DataW Unit} (i1 : (n1, d1) ∈ laid) (i2 : (n2, d2) ∈ laid) (i3 : (n3, d3) ∈ laid)
    (e1 : d1 = Lib.tabData .u32 fsts) (e2 : d2 = Lib.tabData .u32 rnds) (e3 : d3 = Lib.tabData .u64 pows) (g1 : Tryz.prog.globalNamed n1 = some 1) (g2 : Tryz.prog.globalNamed n2 = some 2) (g3 : Tryz.prog.globalNamed n3 = some 3) :
    ∀ id c', (id, c') ∈ roW → ∃ c el fr, W.heap[id]? = some (.cells c el fr) ∧ ∀ (j : Nat) (u : Value), c[j]? = some u → ∃ k z, u = .int k z ∧ k ≠ .u8 := by
  subst e1 e2 e3
  obtain ⟨c1, el1, fr1, a1, b1⟩ := laid_tab_obj h i1 g1 tFst Tryz.underlying361 Tryz.underlying45 (by kernel_rfl) (by kernel_rfl) (by decide)
  obtain ⟨c2, el2, fr2, a2, b2⟩ := laid_tab_obj h i2 g2 tRnd Tryz.underlying495 Tryz.underlying45 (by kernel_rfl) (by kernel_rfl) (by decide)
  obtain ⟨c3, el3, fr3, a3, b3⟩ := laid_tab_obj h i3 g3 tPow Tryz.underlying530 Tryz.underlying68 (by kernel_rfl) (by kernel_rfl) (by decide)
  intro id c' hm
  simp only [roW, List.mem_cons, List.not_mem_nil, or_false, Prod.mk.injEq] at hm
  rcases hm with ⟨rfl, _⟩ | ⟨rfl, _⟩ | ⟨rfl, _⟩
  · refine ⟨c1, el1, fr1, a1, fun j u hj => ?_⟩
    obtain ⟨z, hz⟩ := b1 j u hj
    exact ⟨_, z, hz, by decide⟩
  · refine ⟨c2, el2, fr2, a2, fun j u hj => ?_⟩
    obtain ⟨z, hz⟩ := b2 j u hj
    exact ⟨_, z, hz, by decide⟩
  · refine ⟨c3, el3, fr3, a3, fun j u hj => ?_⟩
    obtain ⟨z, hz⟩ := b3 j u hj
    exact ⟨_, z, hz, by decide⟩
theorem u8_in {H : Type} {enc : TypeId × Value → H} {base : Nat} {W : World} {v : Value} {d : DataW H} {p : List MemPlace} (k0 : Value.okWide Tryz.prog W .any base 5 v) (t0 : DataW.Trod enc Tryz.prog W 0 (fun _ => true) true 5 v d p) : ∃ m : Nat, m < 256 ∧ v = .int .u8 m := by
  obtain ⟨n, rfl⟩ := Go.WideShapes.okWide_int Tryz.underlying5 k0
  obtain ⟨n', he, hw⟩ := reads_int Tryz.underlying5 (reads_of t0)
  obtain rfl : n = n' := by simpa [Value.cells] using he
  have h0 : 0 ≤ n ∧ n < 256 := by
    simp [Lit.wf, IntKind.min, IntKind.max, IntKind.signed, IntKind.bits] at hw
    omega
  obtain ⟨m, rfl⟩ := Int.eq_ofNat_of_zero_le h0.1
  exact ⟨m, by have := h0.2; omega, rfl⟩
theorem worldInjects_walk : worldInjects.Walk := by
  intro H enc base W v0 v1 d0 p0 d1 p1 hL k0 t0 k1 t1
  obtain ⟨m, hm, rfl⟩ := u8_in k0 t0
  obtain ⟨k, d, t, i, x, ao, n, c, rfl, h1, h2, h3, h4, h5, h6, h7, h8, h9⟩ := open_op k1 t1
  rw [MakeChecks.laidMetH_plain _ _ _ (by kernel_rfl)] at hL
  have i1 := List.mem_of_getElem? (show Rows.worldInjectsRow.laid[4]? = some (_, _) from rfl)
  have i2 := List.mem_of_getElem? (show Rows.worldInjectsRow.laid[3]? = some (_, _) from rfl)
  have i3 := List.mem_of_getElem? (show Rows.worldInjectsRow.laid[2]? = some (_, _) from rfl)
  obtain ⟨E, hb⟩ := laid_ro hL i1 i2 i3 (by kernel_rfl) (by kernel_rfl) (by kernel_rfl) (by kernel_rfl) (by kernel_rfl) (by kernel_rfl)
  obtain ⟨ls, C⟩ := ctx_of (E := E) hb (laid_ne hL i1 i2 i3 (by kernel_rfl) (by kernel_rfl) (by kernel_rfl) (by kernel_rfl) (by kernel_rfl) (by kernel_rfl)) h1 h2 h3 h4 h5 h6 h7 h8 h9
  exact law_all C m hm
theorem worldInjectsCard_holds : Rows.WorldInjectsCardSaid := worldInjects.card worldInjects_walk
#print axioms worldInjectsCard_holds
end Go.Proofs.YtfkbookaceckhaaGreatDoor
end
