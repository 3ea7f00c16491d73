/- DeviceSends: the law's call: by the mode's rest, the user, the text's length. -/
import Derived.Test.YtjfmelmiegnmjaaGreatDoorXSnXk
import Derived.Test.YtjfmelmiegnmjaaGreatDoorXSnDl
import Derived.Test.YtjfmelmiegnmjaaGreatDoorXSe
set_option linter.all false
open Go Go.Sx Go.Proofs Go.RowKit
set_option linter.all false
namespace Go.Proofs.YtjfmelmiegnmjaaGreatDoor
set_option maxRecDepth 1000000
noncomputable def cW : Code := bodyOf Tryz.prog 5
noncomputable def nW : Nat := ntOf Tryz.prog 5
noncomputable def rsW : List ResultVar := resultsOf Tryz.prog 5
theorem cW_fn : fnOf Tryz.prog 5 = some (nW, cW, rsW) := by kernel_rfl
noncomputable def clW : Nat → List AV → St → Ro := xcall Tryz.prog okT hW dhC 1000 60
noncomputable def rX (st : St) (m to tx : AV) : Ro := xleave Tryz.prog dhC rsW (xcode Tryz.prog okT clW nW 1000 cW (argsTr 0 [m, to, tx] .lf) [] st)
def pre1 : List AV := [.tok .u8 201 0 255]

theorem s0w (E : Nat → Nat) (m : Nat) (hm : m % 2 = 0 ∧ m < 256) (ao : Option Addr) (n c : Nat) (hn : 401 ≤ n ∧ n ≤ 9223372036854775807) : (rX (st0 roW E) (.par .u8 m 2 0 hm) (.vint .i64 204 (.negSucc 9223372036854775807) (.ofNat 9223372036854775807) 0 0) (.osn ao n c 401 9223372036854775807 hn)).isTrue = true := by kernel_rfl
theorem s0n (E : Nat → Nat) (m : Nat) (hm : m % 2 = 0 ∧ m < 256) (ao : Option Addr) (n c : Nat) (hn : 0 ≤ n ∧ n ≤ 400) : (rX (st0 roW E) (.par .u8 m 2 0 hm) (.vint .i64 204 (.negSucc 9223372036854775807) (.negSucc 0) 0 0) (.osn ao n c 0 400 hn)).isTrue = true := by kernel_rfl
theorem s0p (E : Nat → Nat) (m : Nat) (hm : m % 2 = 0 ∧ m < 256) (ao : Option Addr) (n c : Nat) (hn : 0 ≤ n ∧ n ≤ 400) : (rX (st0 roW E) (.par .u8 m 2 0 hm) (.vint .i64 204 (.ofNat 8) (.ofNat 9223372036854775807) 0 0) (.osn ao n c 0 400 hn)).isTrue = true := by kernel_rfl
theorem s0l (E : Nat → Nat) (m : Nat) (hm : m % 2 = 0 ∧ m < 256) (ao : Option Addr) (n c : Nat) (hn : 257 ≤ n ∧ n ≤ 400) : (rX (st0 roW E) (.par .u8 m 2 0 hm) (.vint .i64 204 (.ofNat 0) (.ofNat 7) 0 0) (.osn ao n c 257 400 hn)).isTrue = true := by kernel_rfl
theorem s0u0 (E : Nat → Nat) (m : Nat) (hm : m % 2 = 0 ∧ m < 256) : (rX (st0 roW E) (.par .u8 m 2 0 hm) (.int .i64 (.ofNat 0)) (.slcU 200)).isTrue = true := by kernel_rfl
theorem s0t0 (E : Nat → Nat) (m : Nat) (hm : m % 2 = 0 ∧ m < 256) (T : Nat) : (rX (stX roW E T pre1) (.par .u8 m 2 0 hm) (.int .i64 (.ofNat 0)) (.slcT 200 1 256)).isTrue = true := by kernel_rfl
theorem s0u1 (E : Nat → Nat) (m : Nat) (hm : m % 2 = 0 ∧ m < 256) : (rX (st0 roW E) (.par .u8 m 2 0 hm) (.int .i64 (.ofNat 1)) (.slcU 200)).isTrue = true := by kernel_rfl
theorem s0t1 (E : Nat → Nat) (m : Nat) (hm : m % 2 = 0 ∧ m < 256) (T : Nat) : (rX (stX roW E T pre1) (.par .u8 m 2 0 hm) (.int .i64 (.ofNat 1)) (.slcT 200 1 256)).isTrue = true := by kernel_rfl
theorem s0u2 (E : Nat → Nat) (m : Nat) (hm : m % 2 = 0 ∧ m < 256) : (rX (st0 roW E) (.par .u8 m 2 0 hm) (.int .i64 (.ofNat 2)) (.slcU 200)).isTrue = true := by kernel_rfl
theorem s0t2 (E : Nat → Nat) (m : Nat) (hm : m % 2 = 0 ∧ m < 256) (T : Nat) : (rX (stX roW E T pre1) (.par .u8 m 2 0 hm) (.int .i64 (.ofNat 2)) (.slcT 200 1 256)).isTrue = true := by kernel_rfl
theorem s0u3 (E : Nat → Nat) (m : Nat) (hm : m % 2 = 0 ∧ m < 256) : (rX (st0 roW E) (.par .u8 m 2 0 hm) (.int .i64 (.ofNat 3)) (.slcU 200)).isTrue = true := by kernel_rfl
theorem s0t3 (E : Nat → Nat) (m : Nat) (hm : m % 2 = 0 ∧ m < 256) (T : Nat) : (rX (stX roW E T pre1) (.par .u8 m 2 0 hm) (.int .i64 (.ofNat 3)) (.slcT 200 1 256)).isTrue = true := by kernel_rfl
theorem s0u4 (E : Nat → Nat) (m : Nat) (hm : m % 2 = 0 ∧ m < 256) : (rX (st0 roW E) (.par .u8 m 2 0 hm) (.int .i64 (.ofNat 4)) (.slcU 200)).isTrue = true := by kernel_rfl
theorem s0t4 (E : Nat → Nat) (m : Nat) (hm : m % 2 = 0 ∧ m < 256) (T : Nat) : (rX (stX roW E T pre1) (.par .u8 m 2 0 hm) (.int .i64 (.ofNat 4)) (.slcT 200 1 256)).isTrue = true := by kernel_rfl
theorem s0u5 (E : Nat → Nat) (m : Nat) (hm : m % 2 = 0 ∧ m < 256) : (rX (st0 roW E) (.par .u8 m 2 0 hm) (.int .i64 (.ofNat 5)) (.slcU 200)).isTrue = true := by kernel_rfl
theorem s0t5 (E : Nat → Nat) (m : Nat) (hm : m % 2 = 0 ∧ m < 256) (T : Nat) : (rX (stX roW E T pre1) (.par .u8 m 2 0 hm) (.int .i64 (.ofNat 5)) (.slcT 200 1 256)).isTrue = true := by kernel_rfl
theorem s0u6 (E : Nat → Nat) (m : Nat) (hm : m % 2 = 0 ∧ m < 256) : (rX (st0 roW E) (.par .u8 m 2 0 hm) (.int .i64 (.ofNat 6)) (.slcU 200)).isTrue = true := by kernel_rfl
theorem s0t6 (E : Nat → Nat) (m : Nat) (hm : m % 2 = 0 ∧ m < 256) (T : Nat) : (rX (stX roW E T pre1) (.par .u8 m 2 0 hm) (.int .i64 (.ofNat 6)) (.slcT 200 1 256)).isTrue = true := by kernel_rfl
theorem s0u7 (E : Nat → Nat) (m : Nat) (hm : m % 2 = 0 ∧ m < 256) : (rX (st0 roW E) (.par .u8 m 2 0 hm) (.int .i64 (.ofNat 7)) (.slcU 200)).isTrue = true := by kernel_rfl
theorem s0t7 (E : Nat → Nat) (m : Nat) (hm : m % 2 = 0 ∧ m < 256) (T : Nat) : (rX (stX roW E T pre1) (.par .u8 m 2 0 hm) (.int .i64 (.ofNat 7)) (.slcT 200 1 256)).isTrue = true := by kernel_rfl
theorem s1w (E : Nat → Nat) (m : Nat) (hm : m % 2 = 1 ∧ m < 256) (ao : Option Addr) (n c : Nat) (hn : 401 ≤ n ∧ n ≤ 9223372036854775807) : (rX (st0 roW E) (.par .u8 m 2 1 hm) (.vint .i64 204 (.negSucc 9223372036854775807) (.ofNat 9223372036854775807) 0 0) (.osn ao n c 401 9223372036854775807 hn)).isTrue = true := by kernel_rfl
theorem s1n (E : Nat → Nat) (m : Nat) (hm : m % 2 = 1 ∧ m < 256) (ao : Option Addr) (n c : Nat) (hn : 0 ≤ n ∧ n ≤ 400) : (rX (st0 roW E) (.par .u8 m 2 1 hm) (.vint .i64 204 (.negSucc 9223372036854775807) (.negSucc 0) 0 0) (.osn ao n c 0 400 hn)).isTrue = true := by kernel_rfl
theorem s1p (E : Nat → Nat) (m : Nat) (hm : m % 2 = 1 ∧ m < 256) (ao : Option Addr) (n c : Nat) (hn : 0 ≤ n ∧ n ≤ 400) : (rX (st0 roW E) (.par .u8 m 2 1 hm) (.vint .i64 204 (.ofNat 8) (.ofNat 9223372036854775807) 0 0) (.osn ao n c 0 400 hn)).isTrue = true := by kernel_rfl
theorem s1l (E : Nat → Nat) (m : Nat) (hm : m % 2 = 1 ∧ m < 256) (ao : Option Addr) (n c : Nat) (hn : 257 ≤ n ∧ n ≤ 400) : (rX (st0 roW E) (.par .u8 m 2 1 hm) (.vint .i64 204 (.ofNat 0) (.ofNat 7) 0 0) (.osn ao n c 257 400 hn)).isTrue = true := by kernel_rfl
theorem s1u0 (E : Nat → Nat) (m : Nat) (hm : m % 2 = 1 ∧ m < 256) : (rX (st0 roW E) (.par .u8 m 2 1 hm) (.int .i64 (.ofNat 0)) (.slcU 200)).isTrue = true := by kernel_rfl
theorem s1t0 (E : Nat → Nat) (m : Nat) (hm : m % 2 = 1 ∧ m < 256) (T : Nat) : (rX (stX roW E T pre1) (.par .u8 m 2 1 hm) (.int .i64 (.ofNat 0)) (.slcT 200 1 256)).isTrue = true := by kernel_rfl
theorem s1u1 (E : Nat → Nat) (m : Nat) (hm : m % 2 = 1 ∧ m < 256) : (rX (st0 roW E) (.par .u8 m 2 1 hm) (.int .i64 (.ofNat 1)) (.slcU 200)).isTrue = true := by kernel_rfl
theorem s1t1 (E : Nat → Nat) (m : Nat) (hm : m % 2 = 1 ∧ m < 256) (T : Nat) : (rX (stX roW E T pre1) (.par .u8 m 2 1 hm) (.int .i64 (.ofNat 1)) (.slcT 200 1 256)).isTrue = true := by kernel_rfl
theorem s1u2 (E : Nat → Nat) (m : Nat) (hm : m % 2 = 1 ∧ m < 256) : (rX (st0 roW E) (.par .u8 m 2 1 hm) (.int .i64 (.ofNat 2)) (.slcU 200)).isTrue = true := by kernel_rfl
theorem s1t2 (E : Nat → Nat) (m : Nat) (hm : m % 2 = 1 ∧ m < 256) (T : Nat) : (rX (stX roW E T pre1) (.par .u8 m 2 1 hm) (.int .i64 (.ofNat 2)) (.slcT 200 1 256)).isTrue = true := by kernel_rfl
theorem s1u3 (E : Nat → Nat) (m : Nat) (hm : m % 2 = 1 ∧ m < 256) : (rX (st0 roW E) (.par .u8 m 2 1 hm) (.int .i64 (.ofNat 3)) (.slcU 200)).isTrue = true := by kernel_rfl
theorem s1t3 (E : Nat → Nat) (m : Nat) (hm : m % 2 = 1 ∧ m < 256) (T : Nat) : (rX (stX roW E T pre1) (.par .u8 m 2 1 hm) (.int .i64 (.ofNat 3)) (.slcT 200 1 256)).isTrue = true := by kernel_rfl
theorem s1u4 (E : Nat → Nat) (m : Nat) (hm : m % 2 = 1 ∧ m < 256) : (rX (st0 roW E) (.par .u8 m 2 1 hm) (.int .i64 (.ofNat 4)) (.slcU 200)).isTrue = true := by kernel_rfl
theorem s1t4 (E : Nat → Nat) (m : Nat) (hm : m % 2 = 1 ∧ m < 256) (T : Nat) : (rX (stX roW E T pre1) (.par .u8 m 2 1 hm) (.int .i64 (.ofNat 4)) (.slcT 200 1 256)).isTrue = true := by kernel_rfl
theorem s1u5 (E : Nat → Nat) (m : Nat) (hm : m % 2 = 1 ∧ m < 256) : (rX (st0 roW E) (.par .u8 m 2 1 hm) (.int .i64 (.ofNat 5)) (.slcU 200)).isTrue = true := by kernel_rfl
theorem s1t5 (E : Nat → Nat) (m : Nat) (hm : m % 2 = 1 ∧ m < 256) (T : Nat) : (rX (stX roW E T pre1) (.par .u8 m 2 1 hm) (.int .i64 (.ofNat 5)) (.slcT 200 1 256)).isTrue = true := by kernel_rfl
theorem s1u6 (E : Nat → Nat) (m : Nat) (hm : m % 2 = 1 ∧ m < 256) : (rX (st0 roW E) (.par .u8 m 2 1 hm) (.int .i64 (.ofNat 6)) (.slcU 200)).isTrue = true := by kernel_rfl
theorem s1t6 (E : Nat → Nat) (m : Nat) (hm : m % 2 = 1 ∧ m < 256) (T : Nat) : (rX (stX roW E T pre1) (.par .u8 m 2 1 hm) (.int .i64 (.ofNat 6)) (.slcT 200 1 256)).isTrue = true := by kernel_rfl
theorem s1u7 (E : Nat → Nat) (m : Nat) (hm : m % 2 = 1 ∧ m < 256) : (rX (st0 roW E) (.par .u8 m 2 1 hm) (.int .i64 (.ofNat 7)) (.slcU 200)).isTrue = true := by kernel_rfl
theorem s1t7 (E : Nat → Nat) (m : Nat) (hm : m % 2 = 1 ∧ m < 256) (T : Nat) : (rX (stX roW E T pre1) (.par .u8 m 2 1 hm) (.int .i64 (.ofNat 7)) (.slcT 200 1 256)).isTrue = true := by kernel_rfl

/-- The names: a text or an empty slice; its first byte; the user. -/
def nmW (ls : List Sx.Loc) : Nat → Option Sx.Loc := fun id => if id < 200 then none else ls[id - 200]?
theorem hroW : (roW.all fun p => Nat.blt p.1 roN && Nat.blt p.1 Tryz.prog.globals.size) = true := by kernel_rfl
theorem hglW : Nat.ble Tryz.prog.globals.size 200 = true := by kernel_rfl

/-- What came in, and the names by which it is said. -/
structure Ctx (W : World) (E : Nat → Nat) (ls : List Sx.Loc) (t : Int) (ao : Option Addr) (n c : Nat) : Prop where
  hW : ∀ id c, (id, c) ∈ roW → BlkOK (env0 Tryz.prog) W id (.mk (E id) 0 c)
  tr : -9223372036854775808 ≤ t ∧ t ≤ 9223372036854775807
  lt : ∃ l, nmW ls 204 = some l ∧ l.int = t
  nr : n ≤ 9223372036854775807
  tu : n = 0 → den (envN Tryz.prog (nmW ls)) (.slcU 200) = some (.slice ao n c)
  tt : ∀ lo hi, 1 ≤ lo → lo ≤ n → n ≤ hi → den (envN Tryz.prog (nmW ls)) (.slcT 200 lo hi) = some (.slice ao n c)
  t1 : 1 ≤ n → ∃ T, Rep (envN Tryz.prog (nmW ls)) (stX roW E T pre1).get W

theorem nm_at {ls : List Sx.Loc} {id : Nat} (h1 : 200 ≤ id) (h2 : id < 256) : envN Tryz.prog (nmW ls) id = nmW ls id := envN_at _ _ (Nat.le_trans (Nat.le_of_ble_eq_true hglW) h1) h2
theorem wrap_i64 {z : Int} (h1 : -9223372036854775808 ≤ z) (h2 : z ≤ 9223372036854775807) : IntKind.i64.wrap z = z := by
  simp [IntKind.wrap, IntKind.bits, IntKind.signed]; omega

section
variable {W : World} {E : Nat → Nat} {ls : List Sx.Loc} {t : Int} {ao : Option Addr} {n c : Nat}

theorem Ctx.t_n (C : Ctx W E ls t ao n c) (h : t < 0) : den (envN Tryz.prog (nmW ls)) (.vint .i64 204 (.negSucc 9223372036854775807) (.negSucc 0) 0 0) = some (.int .i64 t) := by
  obtain ⟨l, h1, h2⟩ := C.lt
  have hr := C.tr
  exact den_vint ((nm_at (by decide) (by decide)).trans h1) h2 (wrap_i64 hr.1 hr.2) (show (-9223372036854775808 : Int) ≤ t by omega) (show t ≤ (-1 : Int) by omega) (fun h => absurd rfl h)
theorem Ctx.t_8 (C : Ctx W E ls t ao n c) (h : 8 ≤ t) : den (envN Tryz.prog (nmW ls)) (.vint .i64 204 (.ofNat 8) (.ofNat 9223372036854775807) 0 0) = some (.int .i64 t) := by
  obtain ⟨l, h1, h2⟩ := C.lt
  have hr := C.tr
  exact den_vint ((nm_at (by decide) (by decide)).trans h1) h2 (wrap_i64 hr.1 hr.2) (show (8 : Int) ≤ t by omega) (show t ≤ (9223372036854775807 : Int) by omega) (fun h => absurd rfl h)
theorem Ctx.t_m (C : Ctx W E ls t ao n c) (h : 0 ≤ t ∧ t ≤ 7) : den (envN Tryz.prog (nmW ls)) (.vint .i64 204 (.ofNat 0) (.ofNat 7) 0 0) = some (.int .i64 t) := by
  obtain ⟨l, h1, h2⟩ := C.lt
  have hr := C.tr
  exact den_vint ((nm_at (by decide) (by decide)).trans h1) h2 (wrap_i64 hr.1 hr.2) (show (0 : Int) ≤ t by omega) (show t ≤ (7 : Int) by omega) (fun h => absurd rfl h)
theorem Ctx.t_a (C : Ctx W E ls t ao n c) : den (envN Tryz.prog (nmW ls)) (.vint .i64 204 (.negSucc 9223372036854775807) (.ofNat 9223372036854775807) 0 0) = some (.int .i64 t) := by
  obtain ⟨l, h1, h2⟩ := C.lt
  have hr := C.tr
  exact den_vint ((nm_at (by decide) (by decide)).trans h1) h2 (wrap_i64 hr.1 hr.2) (show (-9223372036854775808 : Int) ≤ t by omega) (show t ≤ (9223372036854775807 : Int) by omega) (fun h => absurd rfl h)

/-- What is claimed of the call. -/
def Good (W : World) (m : Nat) (t : Int) (ao : Option Addr) (n c : Nat) : Prop := Calls Tryz.prog 5 #[.int .u8 m, .int .i64 t, .slice ao n c] W fun e W' => e = .returned (.bool true) ∧ Below W.heap.size W W'

theorem law_names (C : Ctx W E ls t ao n c) {m : Nat} {r : Nat} {hm : m % 2 = r ∧ m < 256} {to tx : AV} (hd : den (envN Tryz.prog (nmW ls)) to = some (.int .i64 t)) (hx : den (envN Tryz.prog (nmW ls)) tx = some (.slice ao n c)) {st : St} (hn : st.n = roN) (hrep : Rep (envN Tryz.prog (nmW ls)) st.get W) (hro : ∀ id b, st.get id = some b → id < roN) (h : (rX st (.par .u8 m 2 r hm) to tx).isTrue = true) : Good W m t ao n c :=
  law_env okt callsOK mixed hW_good dhC_good cW_fn (args := [.par .u8 m 2 r hm, to, tx]) (us := [.int .u8 m, .int .i64 t, .slice ao n c]) (denL_cons' rfl (denL_cons' hd (denL_cons' hx denL_nil'))) (Nat.le_of_eq hn.symm) (envN_hi _ _ (Nat.le_trans (Nat.le_of_ble_eq_true hglW) (by decide))) (envN_glob _ _) hrep hro h
theorem law_o (C : Ctx W E ls t ao n c) {m r : Nat} {hm : m % 2 = r ∧ m < 256} {to tx : AV} (h : (rX (st0 roW E) (.par .u8 m 2 r hm) to tx).isTrue = true) (hd : den (envN Tryz.prog (nmW ls)) to = some (.int .i64 t)) (hx : den (envN Tryz.prog (nmW ls)) tx = some (.slice ao n c)) : Good W m t ao n c :=
  law_names C hd hx rfl ((rep_st0 hroW C.hW).1.names (envN_le _ _)) (fun id b e => ((rep_st0 hroW C.hW).2 id b e).1) h
theorem law_t (C : Ctx W E ls t ao n c) {T : Nat} {pre : List AV} (hrep : Rep (envN Tryz.prog (nmW ls)) (stX roW E T pre).get W) {m r : Nat} {hm : m % 2 = r ∧ m < 256} {to tx : AV} (h : (rX (stX roW E T pre) (.par .u8 m 2 r hm) to tx).isTrue = true) (hd : den (envN Tryz.prog (nmW ls)) to = some (.int .i64 t)) (hx : den (envN Tryz.prog (nmW ls)) tx = some (.slice ao n c)) : Good W m t ao n c :=
  law_names C hd hx stX_n hrep (stX_small hroW) h

theorem law_0 (C : Ctx W E ls t ao n c) (m : Nat) (hm : m % 2 = 0 ∧ m < 256) : Good W m t ao n c := by
  by_cases hw : 401 ≤ n
  · exact law_o C (s0w E m hm ao n c ⟨hw, C.nr⟩) C.t_a rfl
  · have h4 : n ≤ 400 := by omega
    rcases (show t < 0 ∨ 8 ≤ t ∨ (0 ≤ t ∧ t ≤ 7) by omega) with h | h | h
    · exact law_o C (s0n E m hm ao n c ⟨Nat.zero_le _, h4⟩) (C.t_n h) rfl
    · exact law_o C (s0p E m hm ao n c ⟨Nat.zero_le _, h4⟩) (C.t_8 h) rfl
    · by_cases hl : 257 ≤ n
      · exact law_o C (s0l E m hm ao n c ⟨hl, h4⟩) (C.t_m h) rfl
      · rcases (show n = 0 ∨ 1 ≤ n by omega) with h0 | h0
        · rcases (show t = 0 ∨ t = 1 ∨ t = 2 ∨ t = 3 ∨ t = 4 ∨ t = 5 ∨ t = 6 ∨ t = 7 by omega) with rfl | rfl | rfl | rfl | rfl | rfl | rfl | rfl
          · exact law_o C (s0u0 E m hm) rfl (C.tu h0)
          · exact law_o C (s0u1 E m hm) rfl (C.tu h0)
          · exact law_o C (s0u2 E m hm) rfl (C.tu h0)
          · exact law_o C (s0u3 E m hm) rfl (C.tu h0)
          · exact law_o C (s0u4 E m hm) rfl (C.tu h0)
          · exact law_o C (s0u5 E m hm) rfl (C.tu h0)
          · exact law_o C (s0u6 E m hm) rfl (C.tu h0)
          · exact law_o C (s0u7 E m hm) rfl (C.tu h0)
        · obtain ⟨T, hT⟩ := C.t1 h0
          rcases (show t = 0 ∨ t = 1 ∨ t = 2 ∨ t = 3 ∨ t = 4 ∨ t = 5 ∨ t = 6 ∨ t = 7 by omega) with rfl | rfl | rfl | rfl | rfl | rfl | rfl | rfl
          · exact law_t C hT (s0t0 E m hm T) rfl (C.tt 1 256 (by decide) h0 (by omega))
          · exact law_t C hT (s0t1 E m hm T) rfl (C.tt 1 256 (by decide) h0 (by omega))
          · exact law_t C hT (s0t2 E m hm T) rfl (C.tt 1 256 (by decide) h0 (by omega))
          · exact law_t C hT (s0t3 E m hm T) rfl (C.tt 1 256 (by decide) h0 (by omega))
          · exact law_t C hT (s0t4 E m hm T) rfl (C.tt 1 256 (by decide) h0 (by omega))
          · exact law_t C hT (s0t5 E m hm T) rfl (C.tt 1 256 (by decide) h0 (by omega))
          · exact law_t C hT (s0t6 E m hm T) rfl (C.tt 1 256 (by decide) h0 (by omega))
          · exact law_t C hT (s0t7 E m hm T) rfl (C.tt 1 256 (by decide) h0 (by omega))
theorem law_1 (C : Ctx W E ls t ao n c) (m : Nat) (hm : m % 2 = 1 ∧ m < 256) : Good W m t ao n c := by
  by_cases hw : 401 ≤ n
  · exact law_o C (s1w E m hm ao n c ⟨hw, C.nr⟩) C.t_a rfl
  · have h4 : n ≤ 400 := by omega
    rcases (show t < 0 ∨ 8 ≤ t ∨ (0 ≤ t ∧ t ≤ 7) by omega) with h | h | h
    · exact law_o C (s1n E m hm ao n c ⟨Nat.zero_le _, h4⟩) (C.t_n h) rfl
    · exact law_o C (s1p E m hm ao n c ⟨Nat.zero_le _, h4⟩) (C.t_8 h) rfl
    · by_cases hl : 257 ≤ n
      · exact law_o C (s1l E m hm ao n c ⟨hl, h4⟩) (C.t_m h) rfl
      · rcases (show n = 0 ∨ 1 ≤ n by omega) with h0 | h0
        · rcases (show t = 0 ∨ t = 1 ∨ t = 2 ∨ t = 3 ∨ t = 4 ∨ t = 5 ∨ t = 6 ∨ t = 7 by omega) with rfl | rfl | rfl | rfl | rfl | rfl | rfl | rfl
          · exact law_o C (s1u0 E m hm) rfl (C.tu h0)
          · exact law_o C (s1u1 E m hm) rfl (C.tu h0)
          · exact law_o C (s1u2 E m hm) rfl (C.tu h0)
          · exact law_o C (s1u3 E m hm) rfl (C.tu h0)
          · exact law_o C (s1u4 E m hm) rfl (C.tu h0)
          · exact law_o C (s1u5 E m hm) rfl (C.tu h0)
          · exact law_o C (s1u6 E m hm) rfl (C.tu h0)
          · exact law_o C (s1u7 E m hm) rfl (C.tu h0)
        · obtain ⟨T, hT⟩ := C.t1 h0
          rcases (show t = 0 ∨ t = 1 ∨ t = 2 ∨ t = 3 ∨ t = 4 ∨ t = 5 ∨ t = 6 ∨ t = 7 by omega) with rfl | rfl | rfl | rfl | rfl | rfl | rfl | rfl
          · exact law_t C hT (s1t0 E m hm T) rfl (C.tt 1 256 (by decide) h0 (by omega))
          · exact law_t C hT (s1t1 E m hm T) rfl (C.tt 1 256 (by decide) h0 (by omega))
          · exact law_t C hT (s1t2 E m hm T) rfl (C.tt 1 256 (by decide) h0 (by omega))
          · exact law_t C hT (s1t3 E m hm T) rfl (C.tt 1 256 (by decide) h0 (by omega))
          · exact law_t C hT (s1t4 E m hm T) rfl (C.tt 1 256 (by decide) h0 (by omega))
          · exact law_t C hT (s1t5 E m hm T) rfl (C.tt 1 256 (by decide) h0 (by omega))
          · exact law_t C hT (s1t6 E m hm T) rfl (C.tt 1 256 (by decide) h0 (by omega))
          · exact law_t C hT (s1t7 E m hm T) rfl (C.tt 1 256 (by decide) h0 (by omega))
theorem law_all (C : Ctx W E ls t ao n c) (m : Nat) (hm : m < 256) : Good W m t ao n c := by
  rcases Nat.mod_two_eq_zero_or_one m with h | h
  · exact law_0 C m ⟨h, hm⟩
  · exact law_1 C m ⟨h, hm⟩
end
end Go.Proofs.YtjfmelmiegnmjaaGreatDoor
