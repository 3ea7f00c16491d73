/- WorldErrs: the law's call, whatever comes in. -/
import Derived.Test.YtadbbdnjcpaooaaGreatDoorXXk
import Derived.Test.YtadbbdnjcpaooaaGreatDoorXSe
import Derived.Test.YtadbbdnjcpaooaaGreatDoorXXc0
import Derived.Test.YtadbbdnjcpaooaaGreatDoorXXc1
import Derived.Test.YtadbbdnjcpaooaaGreatDoorXXc2
import Derived.Test.YtadbbdnjcpaooaaGreatDoorXXc3
import Derived.Test.YtadbbdnjcpaooaaGreatDoorXXc4
import Derived.Test.YtadbbdnjcpaooaaGreatDoorXXc5
set_option linter.all false
open Go Go.Sx Go.Proofs Go.RowKit
set_option linter.all false
namespace Go.Proofs.YtadbbdnjcpaooaaGreatDoor
set_option maxRecDepth 1000000

/-- The names: a text or an empty slice; its first bytes; the numbers; the float. -/
def nmW (ls : List Sx.Loc) : Nat → Option Sx.Loc := fun id => if id < 200 then none else ls[id - 200]?
theorem hroW : (roW.all fun p => Nat.blt p.1 roN && Nat.blt p.1 Tryz.prog.globals.size) = true := by kernel_rfl
theorem hglW : Nat.ble Tryz.prog.globals.size 200 = true := by kernel_rfl

/-- What came in, and the names by which it is said. -/
structure Ctx (W : World) (E : Nat → Nat) (ls : List Sx.Loc) (k d t i : Int) (x : Nat) (ao : Option Addr) (n c : Nat) : Prop where
  hW : ∀ id c, (id, c) ∈ roW → BlkOK (env0 Tryz.prog) W id (.mk (E id) 0 c)
  kr : 0 ≤ k ∧ k < 256
  dr : -9223372036854775808 ≤ d ∧ d ≤ 9223372036854775807
  tr : -9223372036854775808 ≤ t ∧ t ≤ 9223372036854775807
  ir : -9223372036854775808 ≤ i ∧ i ≤ 9223372036854775807
  hx : x < 18446744073709551616
  li : ∃ l, nmW ls 204 = some l ∧ l.int = i
  lk : ∃ l, nmW ls 205 = some l ∧ l.int = k
  ld : ∃ l, nmW ls 206 = some l ∧ l.int = d
  lt : ∃ l, nmW ls 207 = some l ∧ l.int = t
  lx : ∃ l, nmW ls 208 = some l ∧ l.cap = x
  nr : n ≤ 9223372036854775807
  tu : n = 0 → den (envN Tryz.prog (nmW ls)) (.slcU 200) = some (.slice ao n c)
  tt : ∀ lo hi, 1 ≤ lo → lo ≤ n → n ≤ hi → den (envN Tryz.prog (nmW ls)) (.slcT 200 lo hi) = some (.slice ao n c)
  t1 : 1 ≤ n → ∃ T, Rep (envN Tryz.prog (nmW ls)) (stX roW E T pre1).get W
  t2 : 2 ≤ n → ∃ T, Rep (envN Tryz.prog (nmW ls)) (stX roW E T pre2).get W
  t3 : 3 ≤ n → ∃ T, Rep (envN Tryz.prog (nmW ls)) (stX roW E T pre3).get W

theorem nm_at {ls : List Sx.Loc} {id : Nat} (h1 : 200 ≤ id) (h2 : id < 256) : envN Tryz.prog (nmW ls) id = nmW ls id := envN_at _ _ (Nat.le_trans (Nat.le_of_ble_eq_true hglW) h1) h2

section
variable {W : World} {E : Nat → Nat} {ls : List Sx.Loc} {k d t i : Int} {x : Nat} {ao : Option Addr} {n c : Nat}

theorem wrap_i64 {z : Int} (h1 : -9223372036854775808 ≤ z) (h2 : z ≤ 9223372036854775807) : IntKind.i64.wrap z = z := by
  simp [IntKind.wrap, IntKind.bits, IntKind.signed]; omega
theorem wrap_u8 {z : Int} (h1 : 0 ≤ z) (h2 : z < 256) : IntKind.u8.wrap z = z := by
  simp [IntKind.wrap, IntKind.bits, IntKind.signed]; omega
theorem Ctx.k_c (C : Ctx W E ls k d t i x ao n c) (h : 12 ≤ k) : den (envN Tryz.prog (nmW ls)) (.vint .u8 205 (.ofNat 12) (.ofNat 255) 0 0) = some (.int .u8 k) := by
  obtain ⟨l, h1, h2⟩ := C.lk
  have hr := C.kr
  exact den_vint ((nm_at (by decide) (by decide)).trans h1) h2 (wrap_u8 hr.1 hr.2) (show (12 : Int) ≤ k by omega) (show k ≤ (255 : Int) by omega) (fun h => absurd rfl h)
theorem Ctx.k_a (C : Ctx W E ls k d t i x ao n c) : den (envN Tryz.prog (nmW ls)) (.vint .u8 205 (.ofNat 0) (.ofNat 255) 0 0) = some (.int .u8 k) := by
  obtain ⟨l, h1, h2⟩ := C.lk
  have hr := C.kr
  exact den_vint ((nm_at (by decide) (by decide)).trans h1) h2 (wrap_u8 hr.1 hr.2) (show (0 : Int) ≤ k by omega) (show k ≤ (255 : Int) by omega) (fun h => absurd rfl h)
theorem Ctx.d_n (C : Ctx W E ls k d t i x ao n c) (h : d < 0) : den (envN Tryz.prog (nmW ls)) (.vint .i64 206 (.negSucc 9223372036854775807) (.negSucc 0) 0 0) = some (.int .i64 d) := by
  obtain ⟨l, h1, h2⟩ := C.ld
  have hr := C.dr
  exact den_vint ((nm_at (by decide) (by decide)).trans h1) h2 (wrap_i64 hr.1 hr.2) (show (-9223372036854775808 : Int) ≤ d by omega) (show d ≤ (-1 : Int) by omega) (fun h => absurd rfl h)
theorem Ctx.d_p (C : Ctx W E ls k d t i x ao n c) (h : 2 ≤ d) : den (envN Tryz.prog (nmW ls)) (.vint .i64 206 (.ofNat 2) (.ofNat 9223372036854775807) 0 0) = some (.int .i64 d) := by
  obtain ⟨l, h1, h2⟩ := C.ld
  have hr := C.dr
  exact den_vint ((nm_at (by decide) (by decide)).trans h1) h2 (wrap_i64 hr.1 hr.2) (show (2 : Int) ≤ d by omega) (show d ≤ (9223372036854775807 : Int) by omega) (fun h => absurd rfl h)
theorem Ctx.d_a (C : Ctx W E ls k d t i x ao n c) : den (envN Tryz.prog (nmW ls)) (.vint .i64 206 (.negSucc 9223372036854775807) (.ofNat 9223372036854775807) 0 0) = some (.int .i64 d) := by
  obtain ⟨l, h1, h2⟩ := C.ld
  have hr := C.dr
  exact den_vint ((nm_at (by decide) (by decide)).trans h1) h2 (wrap_i64 hr.1 hr.2) (show (-9223372036854775808 : Int) ≤ d by omega) (show d ≤ (9223372036854775807 : Int) by omega) (fun h => absurd rfl h)
theorem Ctx.t_n (C : Ctx W E ls k d t i x ao n c) (h : t < 0) : den (envN Tryz.prog (nmW ls)) (.vint .i64 207 (.negSucc 9223372036854775807) (.negSucc 0) 0 0) = some (.int .i64 t) := by
  obtain ⟨l, h1, h2⟩ := C.lt
  have hr := C.tr
  exact den_vint ((nm_at (by decide) (by decide)).trans h1) h2 (wrap_i64 hr.1 hr.2) (show (-9223372036854775808 : Int) ≤ t by omega) (show t ≤ (-1 : Int) by omega) (fun h => absurd rfl h)
theorem Ctx.t_2 (C : Ctx W E ls k d t i x ao n c) (h : 2 ≤ t) : den (envN Tryz.prog (nmW ls)) (.vint .i64 207 (.ofNat 2) (.ofNat 9223372036854775807) 0 0) = some (.int .i64 t) := by
  obtain ⟨l, h1, h2⟩ := C.lt
  have hr := C.tr
  exact den_vint ((nm_at (by decide) (by decide)).trans h1) h2 (wrap_i64 hr.1 hr.2) (show (2 : Int) ≤ t by omega) (show t ≤ (9223372036854775807 : Int) by omega) (fun h => absurd rfl h)
theorem Ctx.t_8 (C : Ctx W E ls k d t i x ao n c) (h : 8 ≤ t) : den (envN Tryz.prog (nmW ls)) (.vint .i64 207 (.ofNat 8) (.ofNat 9223372036854775807) 0 0) = some (.int .i64 t) := by
  obtain ⟨l, h1, h2⟩ := C.lt
  have hr := C.tr
  exact den_vint ((nm_at (by decide) (by decide)).trans h1) h2 (wrap_i64 hr.1 hr.2) (show (8 : Int) ≤ t by omega) (show t ≤ (9223372036854775807 : Int) by omega) (fun h => absurd rfl h)
theorem Ctx.t_m (C : Ctx W E ls k d t i x ao n c) (h : 0 ≤ t ∧ t ≤ 7) : den (envN Tryz.prog (nmW ls)) (.vint .i64 207 (.ofNat 0) (.ofNat 7) 0 0) = some (.int .i64 t) := by
  obtain ⟨l, h1, h2⟩ := C.lt
  have hr := C.tr
  exact den_vint ((nm_at (by decide) (by decide)).trans h1) h2 (wrap_i64 hr.1 hr.2) (show (0 : Int) ≤ t by omega) (show t ≤ (7 : Int) by omega) (fun h => absurd rfl h)
theorem Ctx.t_a (C : Ctx W E ls k d t i x ao n c) : den (envN Tryz.prog (nmW ls)) (.vint .i64 207 (.negSucc 9223372036854775807) (.ofNat 9223372036854775807) 0 0) = some (.int .i64 t) := by
  obtain ⟨l, h1, h2⟩ := C.lt
  have hr := C.tr
  exact den_vint ((nm_at (by decide) (by decide)).trans h1) h2 (wrap_i64 hr.1 hr.2) (show (-9223372036854775808 : Int) ≤ t by omega) (show t ≤ (9223372036854775807 : Int) by omega) (fun h => absurd rfl h)
theorem Ctx.i_n (C : Ctx W E ls k d t i x ao n c) (h : i < 0) : den (envN Tryz.prog (nmW ls)) (.vint .i64 204 (.negSucc 9223372036854775807) (.negSucc 0) 0 0) = some (.int .i64 i) := by
  obtain ⟨l, h1, h2⟩ := C.li
  have hr := C.ir
  exact den_vint ((nm_at (by decide) (by decide)).trans h1) h2 (wrap_i64 hr.1 hr.2) (show (-9223372036854775808 : Int) ≤ i by omega) (show i ≤ (-1 : Int) by omega) (fun h => absurd rfl h)
theorem Ctx.i_p (C : Ctx W E ls k d t i x ao n c) (h : 0 ≤ i) : den (envN Tryz.prog (nmW ls)) (.vint .i64 204 (.ofNat 0) (.ofNat 9223372036854775807) 0 0) = some (.int .i64 i) := by
  obtain ⟨l, h1, h2⟩ := C.li
  have hr := C.ir
  exact den_vint ((nm_at (by decide) (by decide)).trans h1) h2 (wrap_i64 hr.1 hr.2) (show (0 : Int) ≤ i by omega) (show i ≤ (9223372036854775807 : Int) by omega) (fun h => absurd rfl h)
theorem Ctx.i_a (C : Ctx W E ls k d t i x ao n c) : den (envN Tryz.prog (nmW ls)) (.vint .i64 204 (.negSucc 9223372036854775807) (.ofNat 9223372036854775807) 0 0) = some (.int .i64 i) := by
  obtain ⟨l, h1, h2⟩ := C.li
  have hr := C.ir
  exact den_vint ((nm_at (by decide) (by decide)).trans h1) h2 (wrap_i64 hr.1 hr.2) (show (-9223372036854775808 : Int) ≤ i by omega) (show i ≤ (9223372036854775807 : Int) by omega) (fun h => absurd rfl h)
theorem Ctx.i_m (C : Ctx W E ls k d t i x ao n c) {r : Nat} (h : (IntKind.u64.wrap i).toNat % 5 = r) : den (envN Tryz.prog (nmW ls)) (.vint .i64 204 (.negSucc 9223372036854775807) (.ofNat 9223372036854775807) 5 r) = some (.int .i64 i) := by
  obtain ⟨l, h1, h2⟩ := C.li
  have hr := C.ir
  exact den_vint ((nm_at (by decide) (by decide)).trans h1) h2 (wrap_i64 hr.1 hr.2) (show (-9223372036854775808 : Int) ≤ i by omega) (show i ≤ (9223372036854775807 : Int) by omega) (fun _ => h)
theorem Ctx.x_v (C : Ctx W E ls k d t i x ao n c) : den (envN Tryz.prog (nmW ls)) (.vflt 208) = some (.float .f64 x) := by
  obtain ⟨l, h1, h2⟩ := C.lx
  rw [den_vflt ((nm_at (by decide) (by decide)).trans h1), h2]
theorem op_den {σ : Env} {a1 a2 a3 a4 a5 a6 : AV} {u1 u2 u3 u4 u5 u6 : Value} (h1 : den σ a1 = some u1) (h2 : den σ a2 = some u2) (h3 : den σ a3 = some u3) (h4 : den σ a4 = some u4) (h5 : den σ a5 = some u5) (h6 : den σ a6 = some u6) : den σ (.agg [a1, a2, a3, a4, a5, a6]) = some (.agg #[u1, u2, u3, u4, u5, u6]) :=
  den_agg (denL_cons' h1 (denL_cons' h2 (denL_cons' h3 (denL_cons' h4 (denL_cons' h5 (denL_cons' h6 denL_nil'))))))

/-- What is claimed of the call. -/
def Good (W : World) (v : Value) (g : Bool) : Prop := Calls Tryz.prog 3 #[v, .bool g] W fun e W' => e = .returned (.bool true) ∧ Below W.heap.size W W'

theorem law_names (C : Ctx W E ls k d t i x ao n c) {op : AV} {v : Value} {g : Bool} (hd : den (envN Tryz.prog (nmW ls)) op = some v) {st : St} (hn : st.n = roN) (hrep : Rep (envN Tryz.prog (nmW ls)) st.get W) (hro : ∀ id b, st.get id = some b → id < roN) (h : (rX st op g).isTrue = true) : Good W v g :=
  law_env okt callsOK mixed hW_good dhC_good cW_fn (args := [op, .bool g]) (us := [v, .bool g]) (denL_cons' hd (denL_cons' rfl denL_nil')) (Nat.le_of_eq hn.symm) (envN_hi _ _ (Nat.le_trans (Nat.le_of_ble_eq_true hglW) (by decide))) (envN_glob _ _) hrep hro h
theorem law_o (C : Ctx W E ls k d t i x ao n c) {op : AV} {v : Value} {g : Bool} (h : (rX (st0 roW E) op g).isTrue = true) (hd : den (envN Tryz.prog (nmW ls)) op = some v) : Good W v g :=
  law_names C hd rfl ((rep_st0 hroW C.hW).1.names (envN_le _ _)) (fun id b e => ((rep_st0 hroW C.hW).2 id b e).1) h
theorem law_t (C : Ctx W E ls k d t i x ao n c) {T : Nat} {pre : List AV} (hrep : Rep (envN Tryz.prog (nmW ls)) (stX roW E T pre).get W) {op : AV} {v : Value} {g : Bool} (h : (rX (stX roW E T pre) op g).isTrue = true) (hd : den (envN Tryz.prog (nmW ls)) op = some v) : Good W v g :=
  law_names C hd stX_n hrep (stX_small hroW) h
theorem tick_nan (hx : x < 18446744073709551616) : (!(Go.Pw.Fl.NaN (Go.Pw.Fl.passV 0 x))) = true := by
  rw [Go.Pw.Fl.fin_nan (Go.Pw.Fl.pass_fin hx).1]; rfl
theorem kinds {k : Int} (h : 0 ≤ k ∧ k < 256) : k = 0 ∨ k = 1 ∨ k = 2 ∨ k = 3 ∨ k = 4 ∨ k = 5 ∨ k = 6 ∨ k = 7 ∨ k = 8 ∨ k = 9 ∨ k = 10 ∨ k = 11 ∨ 12 ≤ k := by omega
theorem tos {t : Int} : t < 0 ∨ t = 0 ∨ t = 1 ∨ t = 2 ∨ t = 3 ∨ t = 4 ∨ t = 5 ∨ t = 6 ∨ t = 7 ∨ 8 ≤ t := by omega
theorem mods (i : Int) : (IntKind.u64.wrap i).toNat % 5 = 0 ∨ (IntKind.u64.wrap i).toNat % 5 = 1 ∨ (IntKind.u64.wrap i).toNat % 5 = 2 ∨ (IntKind.u64.wrap i).toNat % 5 = 3 ∨ (IntKind.u64.wrap i).toNat % 5 = 4 := by omega
/-- The act that came in. -/
def opV (k d t i : Int) (x : Nat) (ao : Option Addr) (n c : Nat) : Value := .agg #[.int .u8 k, .int .i64 d, .int .i64 t, .int .i64 i, .float .f64 x, .slice ao n c]
theorem law_0n (C : Ctx W E ls k d t i x ao n c) (hd : d < 0) (hn : n ≤ 300) : Good W (opV k d t i x ao n c) false := by
  have hn0 : 0 ≤ n ∧ n ≤ 300 := ⟨Nat.zero_le _, hn⟩
  rcases kinds C.kr with rfl | rfl | rfl | rfl | rfl | rfl | rfl | rfl | rfl | rfl | rfl | rfl | hk
  · rcases tos (t := t) with h | rfl | rfl | rfl | rfl | rfl | rfl | rfl | rfl | h
    · exact law_o C (w0n_0n E ao n c hn0) (op_den (rfl) (C.d_n hd) (C.t_n h) (C.i_a) (C.x_v) (rfl))
    · exact law_o C (w0n_00 E ao n c hn0) (op_den (rfl) (C.d_n hd) (rfl) (C.i_a) (C.x_v) (rfl))
    · exact law_o C (w0n_01 E ao n c hn0) (op_den (rfl) (C.d_n hd) (rfl) (C.i_a) (C.x_v) (rfl))
    · exact law_o C (w0n_02 E ao n c hn0) (op_den (rfl) (C.d_n hd) (rfl) (C.i_a) (C.x_v) (rfl))
    · exact law_o C (w0n_03 E ao n c hn0) (op_den (rfl) (C.d_n hd) (rfl) (C.i_a) (C.x_v) (rfl))
    · exact law_o C (w0n_04 E ao n c hn0) (op_den (rfl) (C.d_n hd) (rfl) (C.i_a) (C.x_v) (rfl))
    · exact law_o C (w0n_05 E ao n c hn0) (op_den (rfl) (C.d_n hd) (rfl) (C.i_a) (C.x_v) (rfl))
    · exact law_o C (w0n_06 E ao n c hn0) (op_den (rfl) (C.d_n hd) (rfl) (C.i_a) (C.x_v) (rfl))
    · exact law_o C (w0n_07 E ao n c hn0) (op_den (rfl) (C.d_n hd) (rfl) (C.i_a) (C.x_v) (rfl))
    · exact law_o C (w0n_0p E ao n c hn0) (op_den (rfl) (C.d_n hd) (C.t_8 h) (C.i_a) (C.x_v) (rfl))
  · exact law_o C (w0n_1 E ao n c hn0) (op_den (rfl) (C.d_n hd) (C.t_a) (C.i_a) (C.x_v) (rfl))
  · exact law_o C (w0n_2 E ao n c hn0) (op_den (rfl) (C.d_n hd) (C.t_a) (C.i_a) (C.x_v) (rfl))
  · exact law_o C (w0n_3 E ao n c hn0) (op_den (rfl) (C.d_n hd) (C.t_a) (C.i_a) (C.x_v) (rfl))
  · exact law_o C (w0n_4 E ao n c hn0) (op_den (rfl) (C.d_n hd) (C.t_a) (C.i_a) (C.x_v) (rfl))
  · rcases (show i < 0 ∨ 0 ≤ i by omega) with h | h
    · exact law_o C (w0n_5n E ao n c hn0) (op_den (rfl) (C.d_n hd) (C.t_a) (C.i_n h) (C.x_v) (rfl))
    · exact law_o C (w0n_5p E ao n c hn0) (op_den (rfl) (C.d_n hd) (C.t_a) (C.i_p h) (C.x_v) (rfl))
  · rcases (show i < 0 ∨ 0 ≤ i by omega) with h | h
    · exact law_o C (w0n_6n E ao n c hn0) (op_den (rfl) (C.d_n hd) (C.t_a) (C.i_n h) (C.x_v) (rfl))
    · exact law_o C (w0n_6p E ao n c hn0) (op_den (rfl) (C.d_n hd) (C.t_a) (C.i_p h) (C.x_v) (rfl))
  · rcases (show i < 0 ∨ 0 ≤ i by omega) with h | h
    · exact law_o C (w0n_7n E ao n c hn0) (op_den (rfl) (C.d_n hd) (C.t_a) (C.i_n h) (C.x_v) (rfl))
    · exact law_o C (w0n_7p E ao n c hn0) (op_den (rfl) (C.d_n hd) (C.t_a) (C.i_p h) (C.x_v) (rfl))
  · exact law_o C ((w0n_8 E ao n c hn0 x C.hx).trans (tick_nan C.hx)) (op_den (rfl) (C.d_n hd) (C.t_a) (C.i_a) ((rfl : den _ (.flb x C.hx) = _)) (rfl))
  · exact law_o C (w0n_9 E ao n c hn0) (op_den (rfl) (C.d_n hd) (C.t_a) (C.i_a) (C.x_v) (rfl))
  · exact law_o C (w0n_10 E ao n c hn0) (op_den (rfl) (C.d_n hd) (C.t_a) (C.i_a) (C.x_v) (rfl))
  · exact law_o C (w0n_b E ao n c hn0) (op_den (rfl) (C.d_n hd) (C.t_a) (C.i_a) (C.x_v) (rfl))
  · exact law_o C (w0n_c E ao n c hn0) (op_den (C.k_c hk) (C.d_n hd) (C.t_a) (C.i_a) (C.x_v) (rfl))
theorem law_00 (C : Ctx W E ls k 0 t i x ao n c)  (hn : n ≤ 300) : Good W (opV k 0 t i x ao n c) false := by
  have hn0 : 0 ≤ n ∧ n ≤ 300 := ⟨Nat.zero_le _, hn⟩
  rcases kinds C.kr with rfl | rfl | rfl | rfl | rfl | rfl | rfl | rfl | rfl | rfl | rfl | rfl | hk
  · rcases tos (t := t) with h | rfl | rfl | rfl | rfl | rfl | rfl | rfl | rfl | h
    · exact law_o C (w00_0n E ao n c hn0) (op_den (rfl) (rfl) (C.t_n h) (C.i_a) (C.x_v) (rfl))
    · exact law_o C (w00_00 E ao n c hn0) (op_den (rfl) (rfl) (rfl) (C.i_a) (C.x_v) (rfl))
    · exact law_o C (w00_01 E ao n c hn0) (op_den (rfl) (rfl) (rfl) (C.i_a) (C.x_v) (rfl))
    · exact law_o C (w00_02 E ao n c hn0) (op_den (rfl) (rfl) (rfl) (C.i_a) (C.x_v) (rfl))
    · exact law_o C (w00_03 E ao n c hn0) (op_den (rfl) (rfl) (rfl) (C.i_a) (C.x_v) (rfl))
    · exact law_o C (w00_04 E ao n c hn0) (op_den (rfl) (rfl) (rfl) (C.i_a) (C.x_v) (rfl))
    · exact law_o C (w00_05 E ao n c hn0) (op_den (rfl) (rfl) (rfl) (C.i_a) (C.x_v) (rfl))
    · exact law_o C (w00_06 E ao n c hn0) (op_den (rfl) (rfl) (rfl) (C.i_a) (C.x_v) (rfl))
    · exact law_o C (w00_07 E ao n c hn0) (op_den (rfl) (rfl) (rfl) (C.i_a) (C.x_v) (rfl))
    · exact law_o C (w00_0p E ao n c hn0) (op_den (rfl) (rfl) (C.t_8 h) (C.i_a) (C.x_v) (rfl))
  · exact law_o C (w00_1 E ao n c hn0) (op_den (rfl) (rfl) (C.t_a) (C.i_a) (C.x_v) (rfl))
  · rcases (show n = 0 ∨ (1 ≤ n ∧ n ≤ 256) ∨ 257 ≤ n by omega) with h0 | h0 | h0
    · rcases (show t < 0 ∨ (0 ≤ t ∧ t ≤ 7) ∨ 8 ≤ t by omega) with h | h | h
      · exact law_o C (w00_2n0 E) (op_den (rfl) (rfl) (C.t_n h) (C.i_a) (C.x_v) (C.tu h0))
      · exact law_o C (w00_2m0 E) (op_den (rfl) (rfl) (C.t_m h) (C.i_a) (C.x_v) (C.tu h0))
      · exact law_o C (w00_2p0 E) (op_den (rfl) (rfl) (C.t_8 h) (C.i_a) (C.x_v) (C.tu h0))
    · obtain ⟨T, hT⟩ := C.t1 h0.1
      rcases (show t < 0 ∨ (0 ≤ t ∧ t ≤ 7) ∨ 8 ≤ t by omega) with h | h | h
      · exact law_t C hT (w00_2n1 E T) (op_den (rfl) (rfl) (C.t_n h) (C.i_a) (C.x_v) (C.tt 1 256 (by decide) h0.1 h0.2))
      · exact law_t C hT (w00_2m1 E T) (op_den (rfl) (rfl) (C.t_m h) (C.i_a) (C.x_v) (C.tt 1 256 (by decide) h0.1 h0.2))
      · exact law_t C hT (w00_2p1 E T) (op_den (rfl) (rfl) (C.t_8 h) (C.i_a) (C.x_v) (C.tt 1 256 (by decide) h0.1 h0.2))
    · obtain ⟨T, hT⟩ := C.t3 (by omega)
      rcases (show t < 0 ∨ (0 ≤ t ∧ t ≤ 7) ∨ 8 ≤ t by omega) with h | h | h
      · exact law_t C hT (w00_2n2 E T) (op_den (rfl) (rfl) (C.t_n h) (C.i_a) (C.x_v) (C.tt 257 300 (by decide) h0 hn))
      · exact law_t C hT (w00_2m2 E T) (op_den (rfl) (rfl) (C.t_m h) (C.i_a) (C.x_v) (C.tt 257 300 (by decide) h0 hn))
      · exact law_t C hT (w00_2p2 E T) (op_den (rfl) (rfl) (C.t_8 h) (C.i_a) (C.x_v) (C.tt 257 300 (by decide) h0 hn))
  · exact law_o C (w00_3 E ao n c hn0) (op_den (rfl) (rfl) (C.t_a) (C.i_a) (C.x_v) (rfl))
  · exact law_o C (w00_4 E ao n c hn0) (op_den (rfl) (rfl) (C.t_a) (C.i_a) (C.x_v) (rfl))
  · rcases (show i < 0 ∨ 0 ≤ i by omega) with h | h
    · exact law_o C (w00_5n E ao n c hn0) (op_den (rfl) (rfl) (C.t_a) (C.i_n h) (C.x_v) (rfl))
    · exact law_o C (w00_5p E ao n c hn0) (op_den (rfl) (rfl) (C.t_a) (C.i_p h) (C.x_v) (rfl))
  · rcases (show i < 0 ∨ 0 ≤ i by omega) with h | h
    · exact law_o C (w00_6n E ao n c hn0) (op_den (rfl) (rfl) (C.t_a) (C.i_n h) (C.x_v) (rfl))
    · exact law_o C (w00_6p E ao n c hn0) (op_den (rfl) (rfl) (C.t_a) (C.i_p h) (C.x_v) (rfl))
  · rcases (show i < 0 ∨ 0 ≤ i by omega) with h | h
    · exact law_o C (w00_7n E ao n c hn0) (op_den (rfl) (rfl) (C.t_a) (C.i_n h) (C.x_v) (rfl))
    · exact law_o C (w00_7p E ao n c hn0) (op_den (rfl) (rfl) (C.t_a) (C.i_p h) (C.x_v) (rfl))
  · exact law_o C ((w00_8 E ao n c hn0 x C.hx).trans (tick_nan C.hx)) (op_den (rfl) (rfl) (C.t_a) (C.i_a) ((rfl : den _ (.flb x C.hx) = _)) (rfl))
  · exact law_o C (w00_9 E ao n c hn0) (op_den (rfl) (rfl) (C.t_a) (C.i_a) (C.x_v) (rfl))
  · exact law_o C (w00_10 E ao n c hn0) (op_den (rfl) (rfl) (C.t_a) (C.i_a) (C.x_v) (rfl))
  · rcases (show t < 0 ∨ t = 0 ∨ t = 1 ∨ 2 ≤ t by omega) with h | rfl | rfl | h
    · exact law_o C (w00_bn E ao n c hn0) (op_den (rfl) (rfl) (C.t_n h) (C.i_a) (C.x_v) (rfl))
    · rcases (show n = 0 ∨ n = 1 ∨ n = 2 ∨ 3 ≤ n by omega) with h0 | h0 | h0 | h0
      · rcases mods i with h | h | h | h | h
        · exact law_o C (w00_b000 E) (op_den (rfl) (rfl) (rfl) (C.i_m h) (C.x_v) (C.tu h0))
        · exact law_o C (w00_b010 E) (op_den (rfl) (rfl) (rfl) (C.i_m h) (C.x_v) (C.tu h0))
        · exact law_o C (w00_b020 E) (op_den (rfl) (rfl) (rfl) (C.i_m h) (C.x_v) (C.tu h0))
        · exact law_o C (w00_b030 E) (op_den (rfl) (rfl) (rfl) (C.i_m h) (C.x_v) (C.tu h0))
        · exact law_o C (w00_b040 E) (op_den (rfl) (rfl) (rfl) (C.i_m h) (C.x_v) (C.tu h0))
      · obtain ⟨T, hT⟩ := C.t1 (by omega)
        rcases mods i with h | h | h | h | h
        · exact law_t C hT (w00_b001 E T) (op_den (rfl) (rfl) (rfl) (C.i_m h) (C.x_v) (C.tt 1 1 (by decide) (by omega) (by omega)))
        · exact law_t C hT (w00_b011 E T) (op_den (rfl) (rfl) (rfl) (C.i_m h) (C.x_v) (C.tt 1 1 (by decide) (by omega) (by omega)))
        · exact law_t C hT (w00_b021 E T) (op_den (rfl) (rfl) (rfl) (C.i_m h) (C.x_v) (C.tt 1 1 (by decide) (by omega) (by omega)))
        · exact law_t C hT (w00_b031 E T) (op_den (rfl) (rfl) (rfl) (C.i_m h) (C.x_v) (C.tt 1 1 (by decide) (by omega) (by omega)))
        · exact law_t C hT (w00_b041 E T) (op_den (rfl) (rfl) (rfl) (C.i_m h) (C.x_v) (C.tt 1 1 (by decide) (by omega) (by omega)))
      · obtain ⟨T, hT⟩ := C.t2 (by omega)
        rcases mods i with h | h | h | h | h
        · exact law_t C hT (w00_b002 E T) (op_den (rfl) (rfl) (rfl) (C.i_m h) (C.x_v) (C.tt 2 2 (by decide) (by omega) (by omega)))
        · exact law_t C hT (w00_b012 E T) (op_den (rfl) (rfl) (rfl) (C.i_m h) (C.x_v) (C.tt 2 2 (by decide) (by omega) (by omega)))
        · exact law_t C hT (w00_b022 E T) (op_den (rfl) (rfl) (rfl) (C.i_m h) (C.x_v) (C.tt 2 2 (by decide) (by omega) (by omega)))
        · exact law_t C hT (w00_b032 E T) (op_den (rfl) (rfl) (rfl) (C.i_m h) (C.x_v) (C.tt 2 2 (by decide) (by omega) (by omega)))
        · exact law_t C hT (w00_b042 E T) (op_den (rfl) (rfl) (rfl) (C.i_m h) (C.x_v) (C.tt 2 2 (by decide) (by omega) (by omega)))
      · obtain ⟨T, hT⟩ := C.t3 (by omega)
        rcases mods i with h | h | h | h | h
        · exact law_t C hT (w00_b003 E T) (op_den (rfl) (rfl) (rfl) (C.i_m h) (C.x_v) (C.tt 3 300 (by decide) (by omega) (by omega)))
        · exact law_t C hT (w00_b013 E T) (op_den (rfl) (rfl) (rfl) (C.i_m h) (C.x_v) (C.tt 3 300 (by decide) (by omega) (by omega)))
        · exact law_t C hT (w00_b023 E T) (op_den (rfl) (rfl) (rfl) (C.i_m h) (C.x_v) (C.tt 3 300 (by decide) (by omega) (by omega)))
        · exact law_t C hT (w00_b033 E T) (op_den (rfl) (rfl) (rfl) (C.i_m h) (C.x_v) (C.tt 3 300 (by decide) (by omega) (by omega)))
        · exact law_t C hT (w00_b043 E T) (op_den (rfl) (rfl) (rfl) (C.i_m h) (C.x_v) (C.tt 3 300 (by decide) (by omega) (by omega)))
    · rcases (show n = 0 ∨ n = 1 ∨ n = 2 ∨ 3 ≤ n by omega) with h0 | h0 | h0 | h0
      · rcases mods i with h | h | h | h | h
        · exact law_o C (w00_b100 E) (op_den (rfl) (rfl) (rfl) (C.i_m h) (C.x_v) (C.tu h0))
        · exact law_o C (w00_b110 E) (op_den (rfl) (rfl) (rfl) (C.i_m h) (C.x_v) (C.tu h0))
        · exact law_o C (w00_b120 E) (op_den (rfl) (rfl) (rfl) (C.i_m h) (C.x_v) (C.tu h0))
        · exact law_o C (w00_b130 E) (op_den (rfl) (rfl) (rfl) (C.i_m h) (C.x_v) (C.tu h0))
        · exact law_o C (w00_b140 E) (op_den (rfl) (rfl) (rfl) (C.i_m h) (C.x_v) (C.tu h0))
      · obtain ⟨T, hT⟩ := C.t1 (by omega)
        rcases mods i with h | h | h | h | h
        · exact law_t C hT (w00_b101 E T) (op_den (rfl) (rfl) (rfl) (C.i_m h) (C.x_v) (C.tt 1 1 (by decide) (by omega) (by omega)))
        · exact law_t C hT (w00_b111 E T) (op_den (rfl) (rfl) (rfl) (C.i_m h) (C.x_v) (C.tt 1 1 (by decide) (by omega) (by omega)))
        · exact law_t C hT (w00_b121 E T) (op_den (rfl) (rfl) (rfl) (C.i_m h) (C.x_v) (C.tt 1 1 (by decide) (by omega) (by omega)))
        · exact law_t C hT (w00_b131 E T) (op_den (rfl) (rfl) (rfl) (C.i_m h) (C.x_v) (C.tt 1 1 (by decide) (by omega) (by omega)))
        · exact law_t C hT (w00_b141 E T) (op_den (rfl) (rfl) (rfl) (C.i_m h) (C.x_v) (C.tt 1 1 (by decide) (by omega) (by omega)))
      · obtain ⟨T, hT⟩ := C.t2 (by omega)
        rcases mods i with h | h | h | h | h
        · exact law_t C hT (w00_b102 E T) (op_den (rfl) (rfl) (rfl) (C.i_m h) (C.x_v) (C.tt 2 2 (by decide) (by omega) (by omega)))
        · exact law_t C hT (w00_b112 E T) (op_den (rfl) (rfl) (rfl) (C.i_m h) (C.x_v) (C.tt 2 2 (by decide) (by omega) (by omega)))
        · exact law_t C hT (w00_b122 E T) (op_den (rfl) (rfl) (rfl) (C.i_m h) (C.x_v) (C.tt 2 2 (by decide) (by omega) (by omega)))
        · exact law_t C hT (w00_b132 E T) (op_den (rfl) (rfl) (rfl) (C.i_m h) (C.x_v) (C.tt 2 2 (by decide) (by omega) (by omega)))
        · exact law_t C hT (w00_b142 E T) (op_den (rfl) (rfl) (rfl) (C.i_m h) (C.x_v) (C.tt 2 2 (by decide) (by omega) (by omega)))
      · obtain ⟨T, hT⟩ := C.t3 (by omega)
        rcases mods i with h | h | h | h | h
        · exact law_t C hT (w00_b103 E T) (op_den (rfl) (rfl) (rfl) (C.i_m h) (C.x_v) (C.tt 3 300 (by decide) (by omega) (by omega)))
        · exact law_t C hT (w00_b113 E T) (op_den (rfl) (rfl) (rfl) (C.i_m h) (C.x_v) (C.tt 3 300 (by decide) (by omega) (by omega)))
        · exact law_t C hT (w00_b123 E T) (op_den (rfl) (rfl) (rfl) (C.i_m h) (C.x_v) (C.tt 3 300 (by decide) (by omega) (by omega)))
        · exact law_t C hT (w00_b133 E T) (op_den (rfl) (rfl) (rfl) (C.i_m h) (C.x_v) (C.tt 3 300 (by decide) (by omega) (by omega)))
        · exact law_t C hT (w00_b143 E T) (op_den (rfl) (rfl) (rfl) (C.i_m h) (C.x_v) (C.tt 3 300 (by decide) (by omega) (by omega)))
    · exact law_o C (w00_bp E ao n c hn0) (op_den (rfl) (rfl) (C.t_2 h) (C.i_a) (C.x_v) (rfl))
  · exact law_o C (w00_c E ao n c hn0) (op_den (C.k_c hk) (rfl) (C.t_a) (C.i_a) (C.x_v) (rfl))
theorem law_01 (C : Ctx W E ls k 1 t i x ao n c)  (hn : n ≤ 300) : Good W (opV k 1 t i x ao n c) false := by
  have hn0 : 0 ≤ n ∧ n ≤ 300 := ⟨Nat.zero_le _, hn⟩
  rcases kinds C.kr with rfl | rfl | rfl | rfl | rfl | rfl | rfl | rfl | rfl | rfl | rfl | rfl | hk
  · rcases tos (t := t) with h | rfl | rfl | rfl | rfl | rfl | rfl | rfl | rfl | h
    · exact law_o C (w01_0n E ao n c hn0) (op_den (rfl) (rfl) (C.t_n h) (C.i_a) (C.x_v) (rfl))
    · exact law_o C (w01_00 E ao n c hn0) (op_den (rfl) (rfl) (rfl) (C.i_a) (C.x_v) (rfl))
    · exact law_o C (w01_01 E ao n c hn0) (op_den (rfl) (rfl) (rfl) (C.i_a) (C.x_v) (rfl))
    · exact law_o C (w01_02 E ao n c hn0) (op_den (rfl) (rfl) (rfl) (C.i_a) (C.x_v) (rfl))
    · exact law_o C (w01_03 E ao n c hn0) (op_den (rfl) (rfl) (rfl) (C.i_a) (C.x_v) (rfl))
    · exact law_o C (w01_04 E ao n c hn0) (op_den (rfl) (rfl) (rfl) (C.i_a) (C.x_v) (rfl))
    · exact law_o C (w01_05 E ao n c hn0) (op_den (rfl) (rfl) (rfl) (C.i_a) (C.x_v) (rfl))
    · exact law_o C (w01_06 E ao n c hn0) (op_den (rfl) (rfl) (rfl) (C.i_a) (C.x_v) (rfl))
    · exact law_o C (w01_07 E ao n c hn0) (op_den (rfl) (rfl) (rfl) (C.i_a) (C.x_v) (rfl))
    · exact law_o C (w01_0p E ao n c hn0) (op_den (rfl) (rfl) (C.t_8 h) (C.i_a) (C.x_v) (rfl))
  · exact law_o C (w01_1 E ao n c hn0) (op_den (rfl) (rfl) (C.t_a) (C.i_a) (C.x_v) (rfl))
  · rcases (show n = 0 ∨ (1 ≤ n ∧ n ≤ 256) ∨ 257 ≤ n by omega) with h0 | h0 | h0
    · rcases (show t < 0 ∨ (0 ≤ t ∧ t ≤ 7) ∨ 8 ≤ t by omega) with h | h | h
      · exact law_o C (w01_2n0 E) (op_den (rfl) (rfl) (C.t_n h) (C.i_a) (C.x_v) (C.tu h0))
      · exact law_o C (w01_2m0 E) (op_den (rfl) (rfl) (C.t_m h) (C.i_a) (C.x_v) (C.tu h0))
      · exact law_o C (w01_2p0 E) (op_den (rfl) (rfl) (C.t_8 h) (C.i_a) (C.x_v) (C.tu h0))
    · obtain ⟨T, hT⟩ := C.t1 h0.1
      rcases (show t < 0 ∨ (0 ≤ t ∧ t ≤ 7) ∨ 8 ≤ t by omega) with h | h | h
      · exact law_t C hT (w01_2n1 E T) (op_den (rfl) (rfl) (C.t_n h) (C.i_a) (C.x_v) (C.tt 1 256 (by decide) h0.1 h0.2))
      · exact law_t C hT (w01_2m1 E T) (op_den (rfl) (rfl) (C.t_m h) (C.i_a) (C.x_v) (C.tt 1 256 (by decide) h0.1 h0.2))
      · exact law_t C hT (w01_2p1 E T) (op_den (rfl) (rfl) (C.t_8 h) (C.i_a) (C.x_v) (C.tt 1 256 (by decide) h0.1 h0.2))
    · obtain ⟨T, hT⟩ := C.t3 (by omega)
      rcases (show t < 0 ∨ (0 ≤ t ∧ t ≤ 7) ∨ 8 ≤ t by omega) with h | h | h
      · exact law_t C hT (w01_2n2 E T) (op_den (rfl) (rfl) (C.t_n h) (C.i_a) (C.x_v) (C.tt 257 300 (by decide) h0 hn))
      · exact law_t C hT (w01_2m2 E T) (op_den (rfl) (rfl) (C.t_m h) (C.i_a) (C.x_v) (C.tt 257 300 (by decide) h0 hn))
      · exact law_t C hT (w01_2p2 E T) (op_den (rfl) (rfl) (C.t_8 h) (C.i_a) (C.x_v) (C.tt 257 300 (by decide) h0 hn))
  · exact law_o C (w01_3 E ao n c hn0) (op_den (rfl) (rfl) (C.t_a) (C.i_a) (C.x_v) (rfl))
  · exact law_o C (w01_4 E ao n c hn0) (op_den (rfl) (rfl) (C.t_a) (C.i_a) (C.x_v) (rfl))
  · rcases (show i < 0 ∨ 0 ≤ i by omega) with h | h
    · exact law_o C (w01_5n E ao n c hn0) (op_den (rfl) (rfl) (C.t_a) (C.i_n h) (C.x_v) (rfl))
    · exact law_o C (w01_5p E ao n c hn0) (op_den (rfl) (rfl) (C.t_a) (C.i_p h) (C.x_v) (rfl))
  · rcases (show i < 0 ∨ 0 ≤ i by omega) with h | h
    · exact law_o C (w01_6n E ao n c hn0) (op_den (rfl) (rfl) (C.t_a) (C.i_n h) (C.x_v) (rfl))
    · exact law_o C (w01_6p E ao n c hn0) (op_den (rfl) (rfl) (C.t_a) (C.i_p h) (C.x_v) (rfl))
  · rcases (show i < 0 ∨ 0 ≤ i by omega) with h | h
    · exact law_o C (w01_7n E ao n c hn0) (op_den (rfl) (rfl) (C.t_a) (C.i_n h) (C.x_v) (rfl))
    · exact law_o C (w01_7p E ao n c hn0) (op_den (rfl) (rfl) (C.t_a) (C.i_p h) (C.x_v) (rfl))
  · exact law_o C ((w01_8 E ao n c hn0 x C.hx).trans (tick_nan C.hx)) (op_den (rfl) (rfl) (C.t_a) (C.i_a) ((rfl : den _ (.flb x C.hx) = _)) (rfl))
  · exact law_o C (w01_9 E ao n c hn0) (op_den (rfl) (rfl) (C.t_a) (C.i_a) (C.x_v) (rfl))
  · exact law_o C (w01_10 E ao n c hn0) (op_den (rfl) (rfl) (C.t_a) (C.i_a) (C.x_v) (rfl))
  · rcases (show t < 0 ∨ t = 0 ∨ t = 1 ∨ 2 ≤ t by omega) with h | rfl | rfl | h
    · exact law_o C (w01_bn E ao n c hn0) (op_den (rfl) (rfl) (C.t_n h) (C.i_a) (C.x_v) (rfl))
    · rcases (show n = 0 ∨ n = 1 ∨ n = 2 ∨ 3 ≤ n by omega) with h0 | h0 | h0 | h0
      · rcases mods i with h | h | h | h | h
        · exact law_o C (w01_b000 E) (op_den (rfl) (rfl) (rfl) (C.i_m h) (C.x_v) (C.tu h0))
        · exact law_o C (w01_b010 E) (op_den (rfl) (rfl) (rfl) (C.i_m h) (C.x_v) (C.tu h0))
        · exact law_o C (w01_b020 E) (op_den (rfl) (rfl) (rfl) (C.i_m h) (C.x_v) (C.tu h0))
        · exact law_o C (w01_b030 E) (op_den (rfl) (rfl) (rfl) (C.i_m h) (C.x_v) (C.tu h0))
        · exact law_o C (w01_b040 E) (op_den (rfl) (rfl) (rfl) (C.i_m h) (C.x_v) (C.tu h0))
      · obtain ⟨T, hT⟩ := C.t1 (by omega)
        rcases mods i with h | h | h | h | h
        · exact law_t C hT (w01_b001 E T) (op_den (rfl) (rfl) (rfl) (C.i_m h) (C.x_v) (C.tt 1 1 (by decide) (by omega) (by omega)))
        · exact law_t C hT (w01_b011 E T) (op_den (rfl) (rfl) (rfl) (C.i_m h) (C.x_v) (C.tt 1 1 (by decide) (by omega) (by omega)))
        · exact law_t C hT (w01_b021 E T) (op_den (rfl) (rfl) (rfl) (C.i_m h) (C.x_v) (C.tt 1 1 (by decide) (by omega) (by omega)))
        · exact law_t C hT (w01_b031 E T) (op_den (rfl) (rfl) (rfl) (C.i_m h) (C.x_v) (C.tt 1 1 (by decide) (by omega) (by omega)))
        · exact law_t C hT (w01_b041 E T) (op_den (rfl) (rfl) (rfl) (C.i_m h) (C.x_v) (C.tt 1 1 (by decide) (by omega) (by omega)))
      · obtain ⟨T, hT⟩ := C.t2 (by omega)
        rcases mods i with h | h | h | h | h
        · exact law_t C hT (w01_b002 E T) (op_den (rfl) (rfl) (rfl) (C.i_m h) (C.x_v) (C.tt 2 2 (by decide) (by omega) (by omega)))
        · exact law_t C hT (w01_b012 E T) (op_den (rfl) (rfl) (rfl) (C.i_m h) (C.x_v) (C.tt 2 2 (by decide) (by omega) (by omega)))
        · exact law_t C hT (w01_b022 E T) (op_den (rfl) (rfl) (rfl) (C.i_m h) (C.x_v) (C.tt 2 2 (by decide) (by omega) (by omega)))
        · exact law_t C hT (w01_b032 E T) (op_den (rfl) (rfl) (rfl) (C.i_m h) (C.x_v) (C.tt 2 2 (by decide) (by omega) (by omega)))
        · exact law_t C hT (w01_b042 E T) (op_den (rfl) (rfl) (rfl) (C.i_m h) (C.x_v) (C.tt 2 2 (by decide) (by omega) (by omega)))
      · obtain ⟨T, hT⟩ := C.t3 (by omega)
        rcases mods i with h | h | h | h | h
        · exact law_t C hT (w01_b003 E T) (op_den (rfl) (rfl) (rfl) (C.i_m h) (C.x_v) (C.tt 3 300 (by decide) (by omega) (by omega)))
        · exact law_t C hT (w01_b013 E T) (op_den (rfl) (rfl) (rfl) (C.i_m h) (C.x_v) (C.tt 3 300 (by decide) (by omega) (by omega)))
        · exact law_t C hT (w01_b023 E T) (op_den (rfl) (rfl) (rfl) (C.i_m h) (C.x_v) (C.tt 3 300 (by decide) (by omega) (by omega)))
        · exact law_t C hT (w01_b033 E T) (op_den (rfl) (rfl) (rfl) (C.i_m h) (C.x_v) (C.tt 3 300 (by decide) (by omega) (by omega)))
        · exact law_t C hT (w01_b043 E T) (op_den (rfl) (rfl) (rfl) (C.i_m h) (C.x_v) (C.tt 3 300 (by decide) (by omega) (by omega)))
    · rcases (show n = 0 ∨ n = 1 ∨ n = 2 ∨ 3 ≤ n by omega) with h0 | h0 | h0 | h0
      · rcases mods i with h | h | h | h | h
        · exact law_o C (w01_b100 E) (op_den (rfl) (rfl) (rfl) (C.i_m h) (C.x_v) (C.tu h0))
        · exact law_o C (w01_b110 E) (op_den (rfl) (rfl) (rfl) (C.i_m h) (C.x_v) (C.tu h0))
        · exact law_o C (w01_b120 E) (op_den (rfl) (rfl) (rfl) (C.i_m h) (C.x_v) (C.tu h0))
        · exact law_o C (w01_b130 E) (op_den (rfl) (rfl) (rfl) (C.i_m h) (C.x_v) (C.tu h0))
        · exact law_o C (w01_b140 E) (op_den (rfl) (rfl) (rfl) (C.i_m h) (C.x_v) (C.tu h0))
      · obtain ⟨T, hT⟩ := C.t1 (by omega)
        rcases mods i with h | h | h | h | h
        · exact law_t C hT (w01_b101 E T) (op_den (rfl) (rfl) (rfl) (C.i_m h) (C.x_v) (C.tt 1 1 (by decide) (by omega) (by omega)))
        · exact law_t C hT (w01_b111 E T) (op_den (rfl) (rfl) (rfl) (C.i_m h) (C.x_v) (C.tt 1 1 (by decide) (by omega) (by omega)))
        · exact law_t C hT (w01_b121 E T) (op_den (rfl) (rfl) (rfl) (C.i_m h) (C.x_v) (C.tt 1 1 (by decide) (by omega) (by omega)))
        · exact law_t C hT (w01_b131 E T) (op_den (rfl) (rfl) (rfl) (C.i_m h) (C.x_v) (C.tt 1 1 (by decide) (by omega) (by omega)))
        · exact law_t C hT (w01_b141 E T) (op_den (rfl) (rfl) (rfl) (C.i_m h) (C.x_v) (C.tt 1 1 (by decide) (by omega) (by omega)))
      · obtain ⟨T, hT⟩ := C.t2 (by omega)
        rcases mods i with h | h | h | h | h
        · exact law_t C hT (w01_b102 E T) (op_den (rfl) (rfl) (rfl) (C.i_m h) (C.x_v) (C.tt 2 2 (by decide) (by omega) (by omega)))
        · exact law_t C hT (w01_b112 E T) (op_den (rfl) (rfl) (rfl) (C.i_m h) (C.x_v) (C.tt 2 2 (by decide) (by omega) (by omega)))
        · exact law_t C hT (w01_b122 E T) (op_den (rfl) (rfl) (rfl) (C.i_m h) (C.x_v) (C.tt 2 2 (by decide) (by omega) (by omega)))
        · exact law_t C hT (w01_b132 E T) (op_den (rfl) (rfl) (rfl) (C.i_m h) (C.x_v) (C.tt 2 2 (by decide) (by omega) (by omega)))
        · exact law_t C hT (w01_b142 E T) (op_den (rfl) (rfl) (rfl) (C.i_m h) (C.x_v) (C.tt 2 2 (by decide) (by omega) (by omega)))
      · obtain ⟨T, hT⟩ := C.t3 (by omega)
        rcases mods i with h | h | h | h | h
        · exact law_t C hT (w01_b103 E T) (op_den (rfl) (rfl) (rfl) (C.i_m h) (C.x_v) (C.tt 3 300 (by decide) (by omega) (by omega)))
        · exact law_t C hT (w01_b113 E T) (op_den (rfl) (rfl) (rfl) (C.i_m h) (C.x_v) (C.tt 3 300 (by decide) (by omega) (by omega)))
        · exact law_t C hT (w01_b123 E T) (op_den (rfl) (rfl) (rfl) (C.i_m h) (C.x_v) (C.tt 3 300 (by decide) (by omega) (by omega)))
        · exact law_t C hT (w01_b133 E T) (op_den (rfl) (rfl) (rfl) (C.i_m h) (C.x_v) (C.tt 3 300 (by decide) (by omega) (by omega)))
        · exact law_t C hT (w01_b143 E T) (op_den (rfl) (rfl) (rfl) (C.i_m h) (C.x_v) (C.tt 3 300 (by decide) (by omega) (by omega)))
    · exact law_o C (w01_bp E ao n c hn0) (op_den (rfl) (rfl) (C.t_2 h) (C.i_a) (C.x_v) (rfl))
  · exact law_o C (w01_c E ao n c hn0) (op_den (C.k_c hk) (rfl) (C.t_a) (C.i_a) (C.x_v) (rfl))
theorem law_0p (C : Ctx W E ls k d t i x ao n c) (hd : 2 ≤ d) (hn : n ≤ 300) : Good W (opV k d t i x ao n c) false := by
  have hn0 : 0 ≤ n ∧ n ≤ 300 := ⟨Nat.zero_le _, hn⟩
  rcases kinds C.kr with rfl | rfl | rfl | rfl | rfl | rfl | rfl | rfl | rfl | rfl | rfl | rfl | hk
  · rcases tos (t := t) with h | rfl | rfl | rfl | rfl | rfl | rfl | rfl | rfl | h
    · exact law_o C (w0p_0n E ao n c hn0) (op_den (rfl) (C.d_p hd) (C.t_n h) (C.i_a) (C.x_v) (rfl))
    · exact law_o C (w0p_00 E ao n c hn0) (op_den (rfl) (C.d_p hd) (rfl) (C.i_a) (C.x_v) (rfl))
    · exact law_o C (w0p_01 E ao n c hn0) (op_den (rfl) (C.d_p hd) (rfl) (C.i_a) (C.x_v) (rfl))
    · exact law_o C (w0p_02 E ao n c hn0) (op_den (rfl) (C.d_p hd) (rfl) (C.i_a) (C.x_v) (rfl))
    · exact law_o C (w0p_03 E ao n c hn0) (op_den (rfl) (C.d_p hd) (rfl) (C.i_a) (C.x_v) (rfl))
    · exact law_o C (w0p_04 E ao n c hn0) (op_den (rfl) (C.d_p hd) (rfl) (C.i_a) (C.x_v) (rfl))
    · exact law_o C (w0p_05 E ao n c hn0) (op_den (rfl) (C.d_p hd) (rfl) (C.i_a) (C.x_v) (rfl))
    · exact law_o C (w0p_06 E ao n c hn0) (op_den (rfl) (C.d_p hd) (rfl) (C.i_a) (C.x_v) (rfl))
    · exact law_o C (w0p_07 E ao n c hn0) (op_den (rfl) (C.d_p hd) (rfl) (C.i_a) (C.x_v) (rfl))
    · exact law_o C (w0p_0p E ao n c hn0) (op_den (rfl) (C.d_p hd) (C.t_8 h) (C.i_a) (C.x_v) (rfl))
  · exact law_o C (w0p_1 E ao n c hn0) (op_den (rfl) (C.d_p hd) (C.t_a) (C.i_a) (C.x_v) (rfl))
  · exact law_o C (w0p_2 E ao n c hn0) (op_den (rfl) (C.d_p hd) (C.t_a) (C.i_a) (C.x_v) (rfl))
  · exact law_o C (w0p_3 E ao n c hn0) (op_den (rfl) (C.d_p hd) (C.t_a) (C.i_a) (C.x_v) (rfl))
  · exact law_o C (w0p_4 E ao n c hn0) (op_den (rfl) (C.d_p hd) (C.t_a) (C.i_a) (C.x_v) (rfl))
  · rcases (show i < 0 ∨ 0 ≤ i by omega) with h | h
    · exact law_o C (w0p_5n E ao n c hn0) (op_den (rfl) (C.d_p hd) (C.t_a) (C.i_n h) (C.x_v) (rfl))
    · exact law_o C (w0p_5p E ao n c hn0) (op_den (rfl) (C.d_p hd) (C.t_a) (C.i_p h) (C.x_v) (rfl))
  · rcases (show i < 0 ∨ 0 ≤ i by omega) with h | h
    · exact law_o C (w0p_6n E ao n c hn0) (op_den (rfl) (C.d_p hd) (C.t_a) (C.i_n h) (C.x_v) (rfl))
    · exact law_o C (w0p_6p E ao n c hn0) (op_den (rfl) (C.d_p hd) (C.t_a) (C.i_p h) (C.x_v) (rfl))
  · rcases (show i < 0 ∨ 0 ≤ i by omega) with h | h
    · exact law_o C (w0p_7n E ao n c hn0) (op_den (rfl) (C.d_p hd) (C.t_a) (C.i_n h) (C.x_v) (rfl))
    · exact law_o C (w0p_7p E ao n c hn0) (op_den (rfl) (C.d_p hd) (C.t_a) (C.i_p h) (C.x_v) (rfl))
  · exact law_o C ((w0p_8 E ao n c hn0 x C.hx).trans (tick_nan C.hx)) (op_den (rfl) (C.d_p hd) (C.t_a) (C.i_a) ((rfl : den _ (.flb x C.hx) = _)) (rfl))
  · exact law_o C (w0p_9 E ao n c hn0) (op_den (rfl) (C.d_p hd) (C.t_a) (C.i_a) (C.x_v) (rfl))
  · exact law_o C (w0p_10 E ao n c hn0) (op_den (rfl) (C.d_p hd) (C.t_a) (C.i_a) (C.x_v) (rfl))
  · exact law_o C (w0p_b E ao n c hn0) (op_den (rfl) (C.d_p hd) (C.t_a) (C.i_a) (C.x_v) (rfl))
  · exact law_o C (w0p_c E ao n c hn0) (op_den (C.k_c hk) (C.d_p hd) (C.t_a) (C.i_a) (C.x_v) (rfl))
theorem law_1n (C : Ctx W E ls k d t i x ao n c) (hd : d < 0) (hn : n ≤ 300) : Good W (opV k d t i x ao n c) true := by
  have hn0 : 0 ≤ n ∧ n ≤ 300 := ⟨Nat.zero_le _, hn⟩
  rcases kinds C.kr with rfl | rfl | rfl | rfl | rfl | rfl | rfl | rfl | rfl | rfl | rfl | rfl | hk
  · rcases tos (t := t) with h | rfl | rfl | rfl | rfl | rfl | rfl | rfl | rfl | h
    · exact law_o C (w1n_0n E ao n c hn0) (op_den (rfl) (C.d_n hd) (C.t_n h) (C.i_a) (C.x_v) (rfl))
    · exact law_o C (w1n_00 E ao n c hn0) (op_den (rfl) (C.d_n hd) (rfl) (C.i_a) (C.x_v) (rfl))
    · exact law_o C (w1n_01 E ao n c hn0) (op_den (rfl) (C.d_n hd) (rfl) (C.i_a) (C.x_v) (rfl))
    · exact law_o C (w1n_02 E ao n c hn0) (op_den (rfl) (C.d_n hd) (rfl) (C.i_a) (C.x_v) (rfl))
    · exact law_o C (w1n_03 E ao n c hn0) (op_den (rfl) (C.d_n hd) (rfl) (C.i_a) (C.x_v) (rfl))
    · exact law_o C (w1n_04 E ao n c hn0) (op_den (rfl) (C.d_n hd) (rfl) (C.i_a) (C.x_v) (rfl))
    · exact law_o C (w1n_05 E ao n c hn0) (op_den (rfl) (C.d_n hd) (rfl) (C.i_a) (C.x_v) (rfl))
    · exact law_o C (w1n_06 E ao n c hn0) (op_den (rfl) (C.d_n hd) (rfl) (C.i_a) (C.x_v) (rfl))
    · exact law_o C (w1n_07 E ao n c hn0) (op_den (rfl) (C.d_n hd) (rfl) (C.i_a) (C.x_v) (rfl))
    · exact law_o C (w1n_0p E ao n c hn0) (op_den (rfl) (C.d_n hd) (C.t_8 h) (C.i_a) (C.x_v) (rfl))
  · exact law_o C (w1n_1 E ao n c hn0) (op_den (rfl) (C.d_n hd) (C.t_a) (C.i_a) (C.x_v) (rfl))
  · exact law_o C (w1n_2 E ao n c hn0) (op_den (rfl) (C.d_n hd) (C.t_a) (C.i_a) (C.x_v) (rfl))
  · exact law_o C (w1n_3 E ao n c hn0) (op_den (rfl) (C.d_n hd) (C.t_a) (C.i_a) (C.x_v) (rfl))
  · exact law_o C (w1n_4 E ao n c hn0) (op_den (rfl) (C.d_n hd) (C.t_a) (C.i_a) (C.x_v) (rfl))
  · rcases (show i < 0 ∨ 0 ≤ i by omega) with h | h
    · exact law_o C (w1n_5n E ao n c hn0) (op_den (rfl) (C.d_n hd) (C.t_a) (C.i_n h) (C.x_v) (rfl))
    · exact law_o C (w1n_5p E ao n c hn0) (op_den (rfl) (C.d_n hd) (C.t_a) (C.i_p h) (C.x_v) (rfl))
  · rcases (show i < 0 ∨ 0 ≤ i by omega) with h | h
    · exact law_o C (w1n_6n E ao n c hn0) (op_den (rfl) (C.d_n hd) (C.t_a) (C.i_n h) (C.x_v) (rfl))
    · exact law_o C (w1n_6p E ao n c hn0) (op_den (rfl) (C.d_n hd) (C.t_a) (C.i_p h) (C.x_v) (rfl))
  · rcases (show i < 0 ∨ 0 ≤ i by omega) with h | h
    · exact law_o C (w1n_7n E ao n c hn0) (op_den (rfl) (C.d_n hd) (C.t_a) (C.i_n h) (C.x_v) (rfl))
    · exact law_o C (w1n_7p E ao n c hn0) (op_den (rfl) (C.d_n hd) (C.t_a) (C.i_p h) (C.x_v) (rfl))
  · exact law_o C ((w1n_8 E ao n c hn0 x C.hx).trans (tick_nan C.hx)) (op_den (rfl) (C.d_n hd) (C.t_a) (C.i_a) ((rfl : den _ (.flb x C.hx) = _)) (rfl))
  · exact law_o C (w1n_9 E ao n c hn0) (op_den (rfl) (C.d_n hd) (C.t_a) (C.i_a) (C.x_v) (rfl))
  · exact law_o C (w1n_10 E ao n c hn0) (op_den (rfl) (C.d_n hd) (C.t_a) (C.i_a) (C.x_v) (rfl))
  · exact law_o C (w1n_b E ao n c hn0) (op_den (rfl) (C.d_n hd) (C.t_a) (C.i_a) (C.x_v) (rfl))
  · exact law_o C (w1n_c E ao n c hn0) (op_den (C.k_c hk) (C.d_n hd) (C.t_a) (C.i_a) (C.x_v) (rfl))
theorem law_10 (C : Ctx W E ls k 0 t i x ao n c)  (hn : n ≤ 300) : Good W (opV k 0 t i x ao n c) true := by
  have hn0 : 0 ≤ n ∧ n ≤ 300 := ⟨Nat.zero_le _, hn⟩
  rcases kinds C.kr with rfl | rfl | rfl | rfl | rfl | rfl | rfl | rfl | rfl | rfl | rfl | rfl | hk
  · rcases tos (t := t) with h | rfl | rfl | rfl | rfl | rfl | rfl | rfl | rfl | h
    · exact law_o C (w10_0n E ao n c hn0) (op_den (rfl) (rfl) (C.t_n h) (C.i_a) (C.x_v) (rfl))
    · exact law_o C (w10_00 E ao n c hn0) (op_den (rfl) (rfl) (rfl) (C.i_a) (C.x_v) (rfl))
    · exact law_o C (w10_01 E ao n c hn0) (op_den (rfl) (rfl) (rfl) (C.i_a) (C.x_v) (rfl))
    · exact law_o C (w10_02 E ao n c hn0) (op_den (rfl) (rfl) (rfl) (C.i_a) (C.x_v) (rfl))
    · exact law_o C (w10_03 E ao n c hn0) (op_den (rfl) (rfl) (rfl) (C.i_a) (C.x_v) (rfl))
    · exact law_o C (w10_04 E ao n c hn0) (op_den (rfl) (rfl) (rfl) (C.i_a) (C.x_v) (rfl))
    · exact law_o C (w10_05 E ao n c hn0) (op_den (rfl) (rfl) (rfl) (C.i_a) (C.x_v) (rfl))
    · exact law_o C (w10_06 E ao n c hn0) (op_den (rfl) (rfl) (rfl) (C.i_a) (C.x_v) (rfl))
    · exact law_o C (w10_07 E ao n c hn0) (op_den (rfl) (rfl) (rfl) (C.i_a) (C.x_v) (rfl))
    · exact law_o C (w10_0p E ao n c hn0) (op_den (rfl) (rfl) (C.t_8 h) (C.i_a) (C.x_v) (rfl))
  · exact law_o C (w10_1 E ao n c hn0) (op_den (rfl) (rfl) (C.t_a) (C.i_a) (C.x_v) (rfl))
  · rcases (show n = 0 ∨ (1 ≤ n ∧ n ≤ 256) ∨ 257 ≤ n by omega) with h0 | h0 | h0
    · rcases (show t < 0 ∨ (0 ≤ t ∧ t ≤ 7) ∨ 8 ≤ t by omega) with h | h | h
      · exact law_o C (w10_2n0 E) (op_den (rfl) (rfl) (C.t_n h) (C.i_a) (C.x_v) (C.tu h0))
      · exact law_o C (w10_2m0 E) (op_den (rfl) (rfl) (C.t_m h) (C.i_a) (C.x_v) (C.tu h0))
      · exact law_o C (w10_2p0 E) (op_den (rfl) (rfl) (C.t_8 h) (C.i_a) (C.x_v) (C.tu h0))
    · obtain ⟨T, hT⟩ := C.t1 h0.1
      rcases (show t < 0 ∨ (0 ≤ t ∧ t ≤ 7) ∨ 8 ≤ t by omega) with h | h | h
      · exact law_t C hT (w10_2n1 E T) (op_den (rfl) (rfl) (C.t_n h) (C.i_a) (C.x_v) (C.tt 1 256 (by decide) h0.1 h0.2))
      · exact law_t C hT (w10_2m1 E T) (op_den (rfl) (rfl) (C.t_m h) (C.i_a) (C.x_v) (C.tt 1 256 (by decide) h0.1 h0.2))
      · exact law_t C hT (w10_2p1 E T) (op_den (rfl) (rfl) (C.t_8 h) (C.i_a) (C.x_v) (C.tt 1 256 (by decide) h0.1 h0.2))
    · obtain ⟨T, hT⟩ := C.t3 (by omega)
      rcases (show t < 0 ∨ (0 ≤ t ∧ t ≤ 7) ∨ 8 ≤ t by omega) with h | h | h
      · exact law_t C hT (w10_2n2 E T) (op_den (rfl) (rfl) (C.t_n h) (C.i_a) (C.x_v) (C.tt 257 300 (by decide) h0 hn))
      · exact law_t C hT (w10_2m2 E T) (op_den (rfl) (rfl) (C.t_m h) (C.i_a) (C.x_v) (C.tt 257 300 (by decide) h0 hn))
      · exact law_t C hT (w10_2p2 E T) (op_den (rfl) (rfl) (C.t_8 h) (C.i_a) (C.x_v) (C.tt 257 300 (by decide) h0 hn))
  · exact law_o C (w10_3 E ao n c hn0) (op_den (rfl) (rfl) (C.t_a) (C.i_a) (C.x_v) (rfl))
  · exact law_o C (w10_4 E ao n c hn0) (op_den (rfl) (rfl) (C.t_a) (C.i_a) (C.x_v) (rfl))
  · rcases (show i < 0 ∨ 0 ≤ i by omega) with h | h
    · exact law_o C (w10_5n E ao n c hn0) (op_den (rfl) (rfl) (C.t_a) (C.i_n h) (C.x_v) (rfl))
    · exact law_o C (w10_5p E ao n c hn0) (op_den (rfl) (rfl) (C.t_a) (C.i_p h) (C.x_v) (rfl))
  · rcases (show i < 0 ∨ 0 ≤ i by omega) with h | h
    · exact law_o C (w10_6n E ao n c hn0) (op_den (rfl) (rfl) (C.t_a) (C.i_n h) (C.x_v) (rfl))
    · exact law_o C (w10_6p E ao n c hn0) (op_den (rfl) (rfl) (C.t_a) (C.i_p h) (C.x_v) (rfl))
  · rcases (show i < 0 ∨ 0 ≤ i by omega) with h | h
    · exact law_o C (w10_7n E ao n c hn0) (op_den (rfl) (rfl) (C.t_a) (C.i_n h) (C.x_v) (rfl))
    · exact law_o C (w10_7p E ao n c hn0) (op_den (rfl) (rfl) (C.t_a) (C.i_p h) (C.x_v) (rfl))
  · exact law_o C ((w10_8 E ao n c hn0 x C.hx).trans (tick_nan C.hx)) (op_den (rfl) (rfl) (C.t_a) (C.i_a) ((rfl : den _ (.flb x C.hx) = _)) (rfl))
  · exact law_o C (w10_9 E ao n c hn0) (op_den (rfl) (rfl) (C.t_a) (C.i_a) (C.x_v) (rfl))
  · exact law_o C (w10_10 E ao n c hn0) (op_den (rfl) (rfl) (C.t_a) (C.i_a) (C.x_v) (rfl))
  · rcases (show t < 0 ∨ t = 0 ∨ t = 1 ∨ 2 ≤ t by omega) with h | rfl | rfl | h
    · exact law_o C (w10_bn E ao n c hn0) (op_den (rfl) (rfl) (C.t_n h) (C.i_a) (C.x_v) (rfl))
    · rcases (show n = 0 ∨ n = 1 ∨ n = 2 ∨ 3 ≤ n by omega) with h0 | h0 | h0 | h0
      · rcases mods i with h | h | h | h | h
        · exact law_o C (w10_b000 E) (op_den (rfl) (rfl) (rfl) (C.i_m h) (C.x_v) (C.tu h0))
        · exact law_o C (w10_b010 E) (op_den (rfl) (rfl) (rfl) (C.i_m h) (C.x_v) (C.tu h0))
        · exact law_o C (w10_b020 E) (op_den (rfl) (rfl) (rfl) (C.i_m h) (C.x_v) (C.tu h0))
        · exact law_o C (w10_b030 E) (op_den (rfl) (rfl) (rfl) (C.i_m h) (C.x_v) (C.tu h0))
        · exact law_o C (w10_b040 E) (op_den (rfl) (rfl) (rfl) (C.i_m h) (C.x_v) (C.tu h0))
      · obtain ⟨T, hT⟩ := C.t1 (by omega)
        rcases mods i with h | h | h | h | h
        · exact law_t C hT (w10_b001 E T) (op_den (rfl) (rfl) (rfl) (C.i_m h) (C.x_v) (C.tt 1 1 (by decide) (by omega) (by omega)))
        · exact law_t C hT (w10_b011 E T) (op_den (rfl) (rfl) (rfl) (C.i_m h) (C.x_v) (C.tt 1 1 (by decide) (by omega) (by omega)))
        · exact law_t C hT (w10_b021 E T) (op_den (rfl) (rfl) (rfl) (C.i_m h) (C.x_v) (C.tt 1 1 (by decide) (by omega) (by omega)))
        · exact law_t C hT (w10_b031 E T) (op_den (rfl) (rfl) (rfl) (C.i_m h) (C.x_v) (C.tt 1 1 (by decide) (by omega) (by omega)))
        · exact law_t C hT (w10_b041 E T) (op_den (rfl) (rfl) (rfl) (C.i_m h) (C.x_v) (C.tt 1 1 (by decide) (by omega) (by omega)))
      · obtain ⟨T, hT⟩ := C.t2 (by omega)
        rcases mods i with h | h | h | h | h
        · exact law_t C hT (w10_b002 E T) (op_den (rfl) (rfl) (rfl) (C.i_m h) (C.x_v) (C.tt 2 2 (by decide) (by omega) (by omega)))
        · exact law_t C hT (w10_b012 E T) (op_den (rfl) (rfl) (rfl) (C.i_m h) (C.x_v) (C.tt 2 2 (by decide) (by omega) (by omega)))
        · exact law_t C hT (w10_b022 E T) (op_den (rfl) (rfl) (rfl) (C.i_m h) (C.x_v) (C.tt 2 2 (by decide) (by omega) (by omega)))
        · exact law_t C hT (w10_b032 E T) (op_den (rfl) (rfl) (rfl) (C.i_m h) (C.x_v) (C.tt 2 2 (by decide) (by omega) (by omega)))
        · exact law_t C hT (w10_b042 E T) (op_den (rfl) (rfl) (rfl) (C.i_m h) (C.x_v) (C.tt 2 2 (by decide) (by omega) (by omega)))
      · obtain ⟨T, hT⟩ := C.t3 (by omega)
        rcases mods i with h | h | h | h | h
        · exact law_t C hT (w10_b003 E T) (op_den (rfl) (rfl) (rfl) (C.i_m h) (C.x_v) (C.tt 3 300 (by decide) (by omega) (by omega)))
        · exact law_t C hT (w10_b013 E T) (op_den (rfl) (rfl) (rfl) (C.i_m h) (C.x_v) (C.tt 3 300 (by decide) (by omega) (by omega)))
        · exact law_t C hT (w10_b023 E T) (op_den (rfl) (rfl) (rfl) (C.i_m h) (C.x_v) (C.tt 3 300 (by decide) (by omega) (by omega)))
        · exact law_t C hT (w10_b033 E T) (op_den (rfl) (rfl) (rfl) (C.i_m h) (C.x_v) (C.tt 3 300 (by decide) (by omega) (by omega)))
        · exact law_t C hT (w10_b043 E T) (op_den (rfl) (rfl) (rfl) (C.i_m h) (C.x_v) (C.tt 3 300 (by decide) (by omega) (by omega)))
    · rcases (show n = 0 ∨ n = 1 ∨ n = 2 ∨ 3 ≤ n by omega) with h0 | h0 | h0 | h0
      · rcases mods i with h | h | h | h | h
        · exact law_o C (w10_b100 E) (op_den (rfl) (rfl) (rfl) (C.i_m h) (C.x_v) (C.tu h0))
        · exact law_o C (w10_b110 E) (op_den (rfl) (rfl) (rfl) (C.i_m h) (C.x_v) (C.tu h0))
        · exact law_o C (w10_b120 E) (op_den (rfl) (rfl) (rfl) (C.i_m h) (C.x_v) (C.tu h0))
        · exact law_o C (w10_b130 E) (op_den (rfl) (rfl) (rfl) (C.i_m h) (C.x_v) (C.tu h0))
        · exact law_o C (w10_b140 E) (op_den (rfl) (rfl) (rfl) (C.i_m h) (C.x_v) (C.tu h0))
      · obtain ⟨T, hT⟩ := C.t1 (by omega)
        rcases mods i with h | h | h | h | h
        · exact law_t C hT (w10_b101 E T) (op_den (rfl) (rfl) (rfl) (C.i_m h) (C.x_v) (C.tt 1 1 (by decide) (by omega) (by omega)))
        · exact law_t C hT (w10_b111 E T) (op_den (rfl) (rfl) (rfl) (C.i_m h) (C.x_v) (C.tt 1 1 (by decide) (by omega) (by omega)))
        · exact law_t C hT (w10_b121 E T) (op_den (rfl) (rfl) (rfl) (C.i_m h) (C.x_v) (C.tt 1 1 (by decide) (by omega) (by omega)))
        · exact law_t C hT (w10_b131 E T) (op_den (rfl) (rfl) (rfl) (C.i_m h) (C.x_v) (C.tt 1 1 (by decide) (by omega) (by omega)))
        · exact law_t C hT (w10_b141 E T) (op_den (rfl) (rfl) (rfl) (C.i_m h) (C.x_v) (C.tt 1 1 (by decide) (by omega) (by omega)))
      · obtain ⟨T, hT⟩ := C.t2 (by omega)
        rcases mods i with h | h | h | h | h
        · exact law_t C hT (w10_b102 E T) (op_den (rfl) (rfl) (rfl) (C.i_m h) (C.x_v) (C.tt 2 2 (by decide) (by omega) (by omega)))
        · exact law_t C hT (w10_b112 E T) (op_den (rfl) (rfl) (rfl) (C.i_m h) (C.x_v) (C.tt 2 2 (by decide) (by omega) (by omega)))
        · exact law_t C hT (w10_b122 E T) (op_den (rfl) (rfl) (rfl) (C.i_m h) (C.x_v) (C.tt 2 2 (by decide) (by omega) (by omega)))
        · exact law_t C hT (w10_b132 E T) (op_den (rfl) (rfl) (rfl) (C.i_m h) (C.x_v) (C.tt 2 2 (by decide) (by omega) (by omega)))
        · exact law_t C hT (w10_b142 E T) (op_den (rfl) (rfl) (rfl) (C.i_m h) (C.x_v) (C.tt 2 2 (by decide) (by omega) (by omega)))
      · obtain ⟨T, hT⟩ := C.t3 (by omega)
        rcases mods i with h | h | h | h | h
        · exact law_t C hT (w10_b103 E T) (op_den (rfl) (rfl) (rfl) (C.i_m h) (C.x_v) (C.tt 3 300 (by decide) (by omega) (by omega)))
        · exact law_t C hT (w10_b113 E T) (op_den (rfl) (rfl) (rfl) (C.i_m h) (C.x_v) (C.tt 3 300 (by decide) (by omega) (by omega)))
        · exact law_t C hT (w10_b123 E T) (op_den (rfl) (rfl) (rfl) (C.i_m h) (C.x_v) (C.tt 3 300 (by decide) (by omega) (by omega)))
        · exact law_t C hT (w10_b133 E T) (op_den (rfl) (rfl) (rfl) (C.i_m h) (C.x_v) (C.tt 3 300 (by decide) (by omega) (by omega)))
        · exact law_t C hT (w10_b143 E T) (op_den (rfl) (rfl) (rfl) (C.i_m h) (C.x_v) (C.tt 3 300 (by decide) (by omega) (by omega)))
    · exact law_o C (w10_bp E ao n c hn0) (op_den (rfl) (rfl) (C.t_2 h) (C.i_a) (C.x_v) (rfl))
  · exact law_o C (w10_c E ao n c hn0) (op_den (C.k_c hk) (rfl) (C.t_a) (C.i_a) (C.x_v) (rfl))
theorem law_11 (C : Ctx W E ls k 1 t i x ao n c)  (hn : n ≤ 300) : Good W (opV k 1 t i x ao n c) true := by
  have hn0 : 0 ≤ n ∧ n ≤ 300 := ⟨Nat.zero_le _, hn⟩
  rcases kinds C.kr with rfl | rfl | rfl | rfl | rfl | rfl | rfl | rfl | rfl | rfl | rfl | rfl | hk
  · rcases tos (t := t) with h | rfl | rfl | rfl | rfl | rfl | rfl | rfl | rfl | h
    · exact law_o C (w11_0n E ao n c hn0) (op_den (rfl) (rfl) (C.t_n h) (C.i_a) (C.x_v) (rfl))
    · exact law_o C (w11_00 E ao n c hn0) (op_den (rfl) (rfl) (rfl) (C.i_a) (C.x_v) (rfl))
    · exact law_o C (w11_01 E ao n c hn0) (op_den (rfl) (rfl) (rfl) (C.i_a) (C.x_v) (rfl))
    · exact law_o C (w11_02 E ao n c hn0) (op_den (rfl) (rfl) (rfl) (C.i_a) (C.x_v) (rfl))
    · exact law_o C (w11_03 E ao n c hn0) (op_den (rfl) (rfl) (rfl) (C.i_a) (C.x_v) (rfl))
    · exact law_o C (w11_04 E ao n c hn0) (op_den (rfl) (rfl) (rfl) (C.i_a) (C.x_v) (rfl))
    · exact law_o C (w11_05 E ao n c hn0) (op_den (rfl) (rfl) (rfl) (C.i_a) (C.x_v) (rfl))
    · exact law_o C (w11_06 E ao n c hn0) (op_den (rfl) (rfl) (rfl) (C.i_a) (C.x_v) (rfl))
    · exact law_o C (w11_07 E ao n c hn0) (op_den (rfl) (rfl) (rfl) (C.i_a) (C.x_v) (rfl))
    · exact law_o C (w11_0p E ao n c hn0) (op_den (rfl) (rfl) (C.t_8 h) (C.i_a) (C.x_v) (rfl))
  · exact law_o C (w11_1 E ao n c hn0) (op_den (rfl) (rfl) (C.t_a) (C.i_a) (C.x_v) (rfl))
  · exact law_o C (w11_2 E ao n c hn0) (op_den (rfl) (rfl) (C.t_a) (C.i_a) (C.x_v) (rfl))
  · exact law_o C (w11_3 E ao n c hn0) (op_den (rfl) (rfl) (C.t_a) (C.i_a) (C.x_v) (rfl))
  · exact law_o C (w11_4 E ao n c hn0) (op_den (rfl) (rfl) (C.t_a) (C.i_a) (C.x_v) (rfl))
  · rcases (show i < 0 ∨ 0 ≤ i by omega) with h | h
    · exact law_o C (w11_5n E ao n c hn0) (op_den (rfl) (rfl) (C.t_a) (C.i_n h) (C.x_v) (rfl))
    · exact law_o C (w11_5p E ao n c hn0) (op_den (rfl) (rfl) (C.t_a) (C.i_p h) (C.x_v) (rfl))
  · rcases (show i < 0 ∨ 0 ≤ i by omega) with h | h
    · exact law_o C (w11_6n E ao n c hn0) (op_den (rfl) (rfl) (C.t_a) (C.i_n h) (C.x_v) (rfl))
    · exact law_o C (w11_6p E ao n c hn0) (op_den (rfl) (rfl) (C.t_a) (C.i_p h) (C.x_v) (rfl))
  · rcases (show i < 0 ∨ 0 ≤ i by omega) with h | h
    · exact law_o C (w11_7n E ao n c hn0) (op_den (rfl) (rfl) (C.t_a) (C.i_n h) (C.x_v) (rfl))
    · exact law_o C (w11_7p E ao n c hn0) (op_den (rfl) (rfl) (C.t_a) (C.i_p h) (C.x_v) (rfl))
  · exact law_o C ((w11_8 E ao n c hn0 x C.hx).trans (tick_nan C.hx)) (op_den (rfl) (rfl) (C.t_a) (C.i_a) ((rfl : den _ (.flb x C.hx) = _)) (rfl))
  · exact law_o C (w11_9 E ao n c hn0) (op_den (rfl) (rfl) (C.t_a) (C.i_a) (C.x_v) (rfl))
  · exact law_o C (w11_10 E ao n c hn0) (op_den (rfl) (rfl) (C.t_a) (C.i_a) (C.x_v) (rfl))
  · exact law_o C (w11_b E ao n c hn0) (op_den (rfl) (rfl) (C.t_a) (C.i_a) (C.x_v) (rfl))
  · exact law_o C (w11_c E ao n c hn0) (op_den (C.k_c hk) (rfl) (C.t_a) (C.i_a) (C.x_v) (rfl))
theorem law_1p (C : Ctx W E ls k d t i x ao n c) (hd : 2 ≤ d) (hn : n ≤ 300) : Good W (opV k d t i x ao n c) true := by
  have hn0 : 0 ≤ n ∧ n ≤ 300 := ⟨Nat.zero_le _, hn⟩
  rcases kinds C.kr with rfl | rfl | rfl | rfl | rfl | rfl | rfl | rfl | rfl | rfl | rfl | rfl | hk
  · rcases tos (t := t) with h | rfl | rfl | rfl | rfl | rfl | rfl | rfl | rfl | h
    · exact law_o C (w1p_0n E ao n c hn0) (op_den (rfl) (C.d_p hd) (C.t_n h) (C.i_a) (C.x_v) (rfl))
    · exact law_o C (w1p_00 E ao n c hn0) (op_den (rfl) (C.d_p hd) (rfl) (C.i_a) (C.x_v) (rfl))
    · exact law_o C (w1p_01 E ao n c hn0) (op_den (rfl) (C.d_p hd) (rfl) (C.i_a) (C.x_v) (rfl))
    · exact law_o C (w1p_02 E ao n c hn0) (op_den (rfl) (C.d_p hd) (rfl) (C.i_a) (C.x_v) (rfl))
    · exact law_o C (w1p_03 E ao n c hn0) (op_den (rfl) (C.d_p hd) (rfl) (C.i_a) (C.x_v) (rfl))
    · exact law_o C (w1p_04 E ao n c hn0) (op_den (rfl) (C.d_p hd) (rfl) (C.i_a) (C.x_v) (rfl))
    · exact law_o C (w1p_05 E ao n c hn0) (op_den (rfl) (C.d_p hd) (rfl) (C.i_a) (C.x_v) (rfl))
    · exact law_o C (w1p_06 E ao n c hn0) (op_den (rfl) (C.d_p hd) (rfl) (C.i_a) (C.x_v) (rfl))
    · exact law_o C (w1p_07 E ao n c hn0) (op_den (rfl) (C.d_p hd) (rfl) (C.i_a) (C.x_v) (rfl))
    · exact law_o C (w1p_0p E ao n c hn0) (op_den (rfl) (C.d_p hd) (C.t_8 h) (C.i_a) (C.x_v) (rfl))
  · exact law_o C (w1p_1 E ao n c hn0) (op_den (rfl) (C.d_p hd) (C.t_a) (C.i_a) (C.x_v) (rfl))
  · exact law_o C (w1p_2 E ao n c hn0) (op_den (rfl) (C.d_p hd) (C.t_a) (C.i_a) (C.x_v) (rfl))
  · exact law_o C (w1p_3 E ao n c hn0) (op_den (rfl) (C.d_p hd) (C.t_a) (C.i_a) (C.x_v) (rfl))
  · exact law_o C (w1p_4 E ao n c hn0) (op_den (rfl) (C.d_p hd) (C.t_a) (C.i_a) (C.x_v) (rfl))
  · rcases (show i < 0 ∨ 0 ≤ i by omega) with h | h
    · exact law_o C (w1p_5n E ao n c hn0) (op_den (rfl) (C.d_p hd) (C.t_a) (C.i_n h) (C.x_v) (rfl))
    · exact law_o C (w1p_5p E ao n c hn0) (op_den (rfl) (C.d_p hd) (C.t_a) (C.i_p h) (C.x_v) (rfl))
  · rcases (show i < 0 ∨ 0 ≤ i by omega) with h | h
    · exact law_o C (w1p_6n E ao n c hn0) (op_den (rfl) (C.d_p hd) (C.t_a) (C.i_n h) (C.x_v) (rfl))
    · exact law_o C (w1p_6p E ao n c hn0) (op_den (rfl) (C.d_p hd) (C.t_a) (C.i_p h) (C.x_v) (rfl))
  · rcases (show i < 0 ∨ 0 ≤ i by omega) with h | h
    · exact law_o C (w1p_7n E ao n c hn0) (op_den (rfl) (C.d_p hd) (C.t_a) (C.i_n h) (C.x_v) (rfl))
    · exact law_o C (w1p_7p E ao n c hn0) (op_den (rfl) (C.d_p hd) (C.t_a) (C.i_p h) (C.x_v) (rfl))
  · exact law_o C ((w1p_8 E ao n c hn0 x C.hx).trans (tick_nan C.hx)) (op_den (rfl) (C.d_p hd) (C.t_a) (C.i_a) ((rfl : den _ (.flb x C.hx) = _)) (rfl))
  · exact law_o C (w1p_9 E ao n c hn0) (op_den (rfl) (C.d_p hd) (C.t_a) (C.i_a) (C.x_v) (rfl))
  · exact law_o C (w1p_10 E ao n c hn0) (op_den (rfl) (C.d_p hd) (C.t_a) (C.i_a) (C.x_v) (rfl))
  · exact law_o C (w1p_b E ao n c hn0) (op_den (rfl) (C.d_p hd) (C.t_a) (C.i_a) (C.x_v) (rfl))
  · exact law_o C (w1p_c E ao n c hn0) (op_den (C.k_c hk) (C.d_p hd) (C.t_a) (C.i_a) (C.x_v) (rfl))
theorem law_all (C : Ctx W E ls k d t i x ao n c) (g : Bool) : Good W (opV k d t i x ao n c) g := by
  by_cases hn : n ≤ 300
  · rcases (show d < 0 ∨ d = 0 ∨ d = 1 ∨ 2 ≤ d by omega) with hd | rfl | rfl | hd <;> cases g
    · exact law_0n C hd hn
    · exact law_1n C hd hn
    · exact law_00 C hn
    · exact law_10 C hn
    · exact law_01 C hn
    · exact law_11 C hn
    · exact law_0p C hd hn
    · exact law_1p C hd hn
  · have h1 : 301 ≤ n ∧ n ≤ 9223372036854775807 := ⟨by omega, C.nr⟩
    cases g
    · exact law_o C (wl0 E ao n c h1) (op_den (C.k_a) (C.d_a) (C.t_a) (C.i_a) (C.x_v) (rfl))
    · exact law_o C (wl1 E ao n c h1) (op_den (C.k_a) (C.d_a) (C.t_a) (C.i_a) (C.x_v) (rfl))
end
end Go.Proofs.YtadbbdnjcpaooaaGreatDoor
