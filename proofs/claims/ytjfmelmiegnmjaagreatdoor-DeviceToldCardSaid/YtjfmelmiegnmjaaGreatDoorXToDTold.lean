/- DeviceTold: all classes together. -/
import Derived.Test.YtjfmelmiegnmjaaGreatDoorXToDTold0
import Derived.Test.YtjfmelmiegnmjaaGreatDoorXToDTold1
import Derived.Test.YtjfmelmiegnmjaaGreatDoorXToDTold2
import Derived.Test.YtjfmelmiegnmjaaGreatDoorXToDTold3
import Derived.Test.YtjfmelmiegnmjaaGreatDoorXToDTold4
import Derived.Test.YtjfmelmiegnmjaaGreatDoorXToDTold5
import Derived.Test.YtjfmelmiegnmjaaGreatDoorXToDTold6
import Derived.Test.YtjfmelmiegnmjaaGreatDoorXToDTold7
import Derived.Test.YtjfmelmiegnmjaaGreatDoorXToDTold8
import Derived.Test.YtjfmelmiegnmjaaGreatDoorXToDTold9
import Derived.Test.YtjfmelmiegnmjaaGreatDoorXToXk
import Derived.Test.YtjfmelmiegnmjaaGreatDoorXSe
set_option linter.all false
open Go Go.Sx Go.Proofs Go.RowKit
set_option linter.all false
namespace Go.Proofs.YtjfmelmiegnmjaaGreatDoor
set_option maxRecDepth 1000000

/-- The names: the answer's numbers; the error. -/
def nmW (ls : List Sx.Loc) : Nat → Option Sx.Loc := fun id => if id < 200 then none else ls[id - 200]?
theorem hroW : (roW.all fun p => Nat.blt p.1 roN && Nat.blt p.1 Tryz.prog.globals.size) = true := by kernel_rfl
theorem hglW : Nat.ble Tryz.prog.globals.size 200 = true := by kernel_rfl
theorem nm_at {ls : List Sx.Loc} {id : Nat} (h1 : 200 ≤ id) (h2 : id < 256) : envN Tryz.prog (nmW ls) id = nmW ls id := envN_at _ _ (Nat.le_trans (Nat.le_of_ble_eq_true hglW) h1) h2
theorem wrap_i64 {z : Int} (h1 : -9223372036854775808 ≤ z) (h2 : z ≤ 9223372036854775807) : IntKind.i64.wrap z = z := by
  simp [IntKind.wrap, IntKind.bits, IntKind.signed]; omega
theorem wrap_u32 {z : Int} (h1 : 0 ≤ z) (h2 : z ≤ 4294967295) : IntKind.u32.wrap z = z := by
  simp [IntKind.wrap, IntKind.bits, IntKind.signed]; omega
theorem wrap_u8 {z : Int} (h1 : 0 ≤ z) (h2 : z ≤ 255) : IntKind.u8.wrap z = z := by
  simp [IntKind.wrap, IntKind.bits, IntKind.signed]; omega
/-- What came in, and the names by which it is said. -/
structure Ctx (W : World) (E : Nat → Nat) (ls : List Sx.Loc) (k u d N y x : Int) (e : Nat) : Prop where
  hW : ∀ id c, (id, c) ∈ roW → BlkOK (env0 Tryz.prog) W id (.mk (E id) 0 c)
  rk : 0 ≤ k ∧ k ≤ 255
  ru : -9223372036854775808 ≤ u ∧ u ≤ 9223372036854775807
  rd : -9223372036854775808 ≤ d ∧ d ≤ 9223372036854775807
  rN : 0 ≤ N ∧ N ≤ 4294967295
  ry : 0 ≤ y ∧ y ≤ 4294967295
  rx : -9223372036854775808 ≤ x ∧ x ≤ 9223372036854775807
  re : e < 256
  lk : ∃ l, nmW ls 203 = some l ∧ l.int = k
  lu : ∃ l, nmW ls 204 = some l ∧ l.int = u
  ld : ∃ l, nmW ls 205 = some l ∧ l.int = d
  lN : ∃ l, nmW ls 206 = some l ∧ l.int = N
  ly : ∃ l, nmW ls 207 = some l ∧ l.int = y
  lx : ∃ l, nmW ls 208 = some l ∧ l.int = x
  le : ∃ l, nmW ls 209 = some l ∧ l.int = (e : Int)
section
variable {W : World} {E : Nat → Nat} {ls : List Sx.Loc} {k u d N y x : Int} {e : Nat}

theorem Ctx.dk (C : Ctx W E ls k u d N y x e) {lo hi : Int} (h1 : lo ≤ k) (h2 : k ≤ hi) : den (envN Tryz.prog (nmW ls)) (.vint .u8 203 lo hi 0 0) = some (.int .u8 k) := by
  obtain ⟨l, a, b⟩ := C.lk
  exact den_vint ((nm_at (by decide) (by decide)).trans a) b (wrap_u8 C.rk.1 C.rk.2) h1 h2 (fun h => absurd rfl h)
theorem Ctx.du (C : Ctx W E ls k u d N y x e) {lo hi : Int} (h1 : lo ≤ u) (h2 : u ≤ hi) : den (envN Tryz.prog (nmW ls)) (.vint .i64 204 lo hi 0 0) = some (.int .i64 u) := by
  obtain ⟨l, a, b⟩ := C.lu
  exact den_vint ((nm_at (by decide) (by decide)).trans a) b (wrap_i64 C.ru.1 C.ru.2) h1 h2 (fun h => absurd rfl h)
theorem Ctx.dd (C : Ctx W E ls k u d N y x e) {lo hi : Int} (h1 : lo ≤ d) (h2 : d ≤ hi) : den (envN Tryz.prog (nmW ls)) (.vint .i64 205 lo hi 0 0) = some (.int .i64 d) := by
  obtain ⟨l, a, b⟩ := C.ld
  exact den_vint ((nm_at (by decide) (by decide)).trans a) b (wrap_i64 C.rd.1 C.rd.2) h1 h2 (fun h => absurd rfl h)
theorem Ctx.dN (C : Ctx W E ls k u d N y x e) {lo hi : Int} (h1 : lo ≤ N) (h2 : N ≤ hi) : den (envN Tryz.prog (nmW ls)) (.vint .u32 206 lo hi 0 0) = some (.int .u32 N) := by
  obtain ⟨l, a, b⟩ := C.lN
  exact den_vint ((nm_at (by decide) (by decide)).trans a) b (wrap_u32 C.rN.1 C.rN.2) h1 h2 (fun h => absurd rfl h)
theorem Ctx.dy (C : Ctx W E ls k u d N y x e) {lo hi : Int} (h1 : lo ≤ y) (h2 : y ≤ hi) : den (envN Tryz.prog (nmW ls)) (.vint .u32 207 lo hi 0 0) = some (.int .u32 y) := by
  obtain ⟨l, a, b⟩ := C.ly
  exact den_vint ((nm_at (by decide) (by decide)).trans a) b (wrap_u32 C.ry.1 C.ry.2) h1 h2 (fun h => absurd rfl h)
theorem Ctx.dx (C : Ctx W E ls k u d N y x e) {lo hi : Int} (h1 : lo ≤ x) (h2 : x ≤ hi) : den (envN Tryz.prog (nmW ls)) (.vint .i64 208 lo hi 0 0) = some (.int .i64 x) := by
  obtain ⟨l, a, b⟩ := C.lx
  exact den_vint ((nm_at (by decide) (by decide)).trans a) b (wrap_i64 C.rx.1 C.rx.2) h1 h2 (fun h => absurd rfl h)
theorem Ctx.de (C : Ctx W E ls k u d N y x e) : den (envN Tryz.prog (nmW ls)) (.vint .u8 209 (.ofNat 0) (.ofNat 255) 0 0) = some (.int .u8 (e : Int)) := by
  obtain ⟨l, a, b⟩ := C.le
  have h := C.re
  exact den_vint ((nm_at (by decide) (by decide)).trans a) b (wrap_u8 (by omega) (by omega)) (show (0 : Int) ≤ e by omega) (show (e : Int) ≤ 255 by omega) (fun h => absurd rfl h)

def repV (k u d N y x : Int) (s : Three) : Value := .agg #[.int .u8 k, .int .i64 u, .int .i64 d, .int .u32 N, .int .u32 y, .int .i64 x, .slice s.a0 s.n0 s.c0, .slice s.a1 s.n1 s.c1, .slice s.a2 s.n2 s.c2]
theorem den_reply {σ : Env} {a0 a1 a2 a3 a4 a5 : AV} {l : List AV} {s : Three} (h0 : den σ a0 = some (.int .u8 k)) (h1 : den σ a1 = some (.int .i64 u)) (h2 : den σ a2 = some (.int .i64 d)) (h3 : den σ a3 = some (.int .u32 N)) (h4 : den σ a4 = some (.int .u32 y)) (h5 : den σ a5 = some (.int .i64 x))
    (hl : denL σ l = some [.slice s.a0 s.n0 s.c0, .slice s.a1 s.n1 s.c1, .slice s.a2 s.n2 s.c2]) : den σ (reply a0 a1 a2 a3 a4 a5 l) = some (repV k u d N y x s) := by
  unfold reply
  simp only [den, denL, h0, h1, h2, h3, h4, h5, hl]
  rfl
theorem den_three {σ : Env} (s : Three) (h : s.small) : denL σ (s.avs h) = some [.slice s.a0 s.n0 s.c0, .slice s.a1 s.n1 s.c1, .slice s.a2 s.n2 s.c2] := rfl

/-- What is claimed of the call. -/
def Good (W : World) (m e : Nat) (b : Bool) (k u d N y x : Int) (s : Three) : Prop := Calls Tryz.prog 3 #[.int .u8 m, .int .u8 e, .bool b, repV k u d N y x s] W fun e W' => e = .returned (.bool true) ∧ Below W.heap.size W W'
theorem law_o (C : Ctx W E ls k u d N y x e) {m r : Nat} {hm : m % 2 = r ∧ m < 256} {b : Bool} {ea rp : AV} {s : Three} (h : (rX E (.par .u8 m 2 r hm) ea b rp).isTrue = true) (he : den (envN Tryz.prog (nmW ls)) ea = some (.int .u8 (e : Int))) (hr : den (envN Tryz.prog (nmW ls)) rp = some (repV k u d N y x s)) : Good W m e b k u d N y x s :=
  law_env okt callsOK mixed hW_good dhC_good cW_fn (args := [.par .u8 m 2 r hm, ea, .bool b, rp]) (us := [.int .u8 m, .int .u8 e, .bool b, repV k u d N y x s]) (denL_cons' rfl (denL_cons' he (denL_cons' rfl (denL_cons' hr denL_nil')))) (Nat.le_refl _) (envN_hi _ _ (Nat.le_trans (Nat.le_of_ble_eq_true hglW) (by decide))) (envN_glob _ _) ((rep_st0 hroW C.hW).1.names (envN_le _ _)) (fun id b e => ((rep_st0 hroW C.hW).2 id b e).1) h

theorem split (C : Ctx W E ls k u d N y x e) {m r : Nat} {hm : m % 2 = r ∧ m < 256} {b : Bool} {ea : AV} (he : den (envN Tryz.prog (nmW ls)) ea = some (.int .u8 (e : Int))) (s : Three) (h : s.small) (G : ∀ c, (rX E (.par .u8 m 2 r hm) ea b (repOf s h c)).isTrue = true) : Good W m e b k u d N y x s := by
  rcases (show k ≤ 0 ∨ 2 ≤ k ∨ k = 1 by omega) with q | q | rfl
  · obtain rfl : k = 0 := by have := C.rk; omega
    exact law_o C (G .ka) he (den_reply rfl (C.du C.ru.1 C.ru.2) (C.dd C.rd.1 C.rd.2) (C.dN C.rN.1 C.rN.2) (C.dy C.ry.1 C.ry.2) (C.dx C.rx.1 C.rx.2) (den_three s h))
  · exact law_o C (G .kb) he (den_reply (C.dk q C.rk.2) (C.du C.ru.1 C.ru.2) (C.dd C.rd.1 C.rd.2) (C.dN C.rN.1 C.rN.2) (C.dy C.ry.1 C.ry.2) (C.dx C.rx.1 C.rx.2) (den_three s h))
  · skip
    rcases (show u ≤ -1 ∨ 1 ≤ u ∨ u = 0 by omega) with q | q | rfl
    · exact law_o C (G .ua) he (den_reply rfl (C.du C.ru.1 q) (C.dd C.rd.1 C.rd.2) (C.dN C.rN.1 C.rN.2) (C.dy C.ry.1 C.ry.2) (C.dx C.rx.1 C.rx.2) (den_three s h))
    · exact law_o C (G .ub) he (den_reply rfl (C.du q C.ru.2) (C.dd C.rd.1 C.rd.2) (C.dN C.rN.1 C.rN.2) (C.dy C.ry.1 C.ry.2) (C.dx C.rx.1 C.rx.2) (den_three s h))
    · skip
      rcases (show d ≤ 0 ∨ 2 ≤ d ∨ d = 1 by omega) with q | q | rfl
      · exact law_o C (G .da) he (den_reply rfl rfl (C.dd C.rd.1 q) (C.dN C.rN.1 C.rN.2) (C.dy C.ry.1 C.ry.2) (C.dx C.rx.1 C.rx.2) (den_three s h))
      · exact law_o C (G .db) he (den_reply rfl rfl (C.dd q C.rd.2) (C.dN C.rN.1 C.rN.2) (C.dy C.ry.1 C.ry.2) (C.dx C.rx.1 C.rx.2) (den_three s h))
      · skip
        rcases (show N ≤ 0 ∨ 2 ≤ N ∨ N = 1 by omega) with q | q | rfl
        · obtain rfl : N = 0 := by have := C.rN; omega
          exact law_o C (G .Na) he (den_reply rfl rfl rfl rfl (C.dy C.ry.1 C.ry.2) (C.dx C.rx.1 C.rx.2) (den_three s h))
        · exact law_o C (G .Nb) he (den_reply rfl rfl rfl (C.dN q C.rN.2) (C.dy C.ry.1 C.ry.2) (C.dx C.rx.1 C.rx.2) (den_three s h))
        · skip
          rcases (show y ≤ 0 ∨ 2 ≤ y ∨ y = 1 by omega) with q | q | rfl
          · obtain rfl : y = 0 := by have := C.ry; omega
            exact law_o C (G .ya) he (den_reply rfl rfl rfl rfl rfl (C.dx C.rx.1 C.rx.2) (den_three s h))
          · exact law_o C (G .yb) he (den_reply rfl rfl rfl rfl (C.dy q C.ry.2) (C.dx C.rx.1 C.rx.2) (den_three s h))
          · skip
            exact law_o C (G .eq) he (den_reply rfl rfl rfl rfl rfl (C.dx C.rx.1 C.rx.2) (den_three s h))
theorem law0_0f (C : Ctx W E ls k u d N y x e) {m : Nat} (hm : m % 2 = 0 ∧ m < 256) (he : e % 15 = 0 ∧ e < 256) (s : Three) (h : s.small) : Good W m e false k u d N y x s := split C (hm := hm) (ea := .par .u8 e 15 0 he) rfl s h (g0_0f E m e hm he s h)
theorem law0_0t (C : Ctx W E ls k u d N y x e) {m : Nat} (hm : m % 2 = 0 ∧ m < 256) (he : e % 15 = 0 ∧ e < 256) (s : Three) (h : s.small) : Good W m e true k u d N y x s := split C (hm := hm) (ea := .par .u8 e 15 0 he) rfl s h (g0_0t E m e hm he s h)
theorem law0_1f (C : Ctx W E ls k u d N y x e) {m : Nat} (hm : m % 2 = 0 ∧ m < 256) (he : e % 15 = 1 ∧ e < 256) (s : Three) (h : s.small) : Good W m e false k u d N y x s := split C (hm := hm) (ea := .par .u8 e 15 1 he) rfl s h (g0_1f E m e hm he s h)
theorem law0_1t (C : Ctx W E ls k u d N y x e) {m : Nat} (hm : m % 2 = 0 ∧ m < 256) (he : e % 15 = 1 ∧ e < 256) (s : Three) (h : s.small) : Good W m e true k u d N y x s := split C (hm := hm) (ea := .par .u8 e 15 1 he) rfl s h (g0_1t E m e hm he s h)
theorem law0_2f (C : Ctx W E ls k u d N y x e) {m : Nat} (hm : m % 2 = 0 ∧ m < 256) (he : e % 15 = 2 ∧ e < 256) (s : Three) (h : s.small) : Good W m e false k u d N y x s := split C (hm := hm) (ea := .par .u8 e 15 2 he) rfl s h (g0_2f E m e hm he s h)
theorem law0_2t (C : Ctx W E ls k u d N y x e) {m : Nat} (hm : m % 2 = 0 ∧ m < 256) (he : e % 15 = 2 ∧ e < 256) (s : Three) (h : s.small) : Good W m e true k u d N y x s := split C (hm := hm) (ea := .par .u8 e 15 2 he) rfl s h (g0_2t E m e hm he s h)
theorem law0_3f (C : Ctx W E ls k u d N y x e) {m : Nat} (hm : m % 2 = 0 ∧ m < 256) (he : e % 15 = 3 ∧ e < 256) (s : Three) (h : s.small) : Good W m e false k u d N y x s := split C (hm := hm) (ea := .par .u8 e 15 3 he) rfl s h (g0_3f E m e hm he s h)
theorem law0_3t (C : Ctx W E ls k u d N y x e) {m : Nat} (hm : m % 2 = 0 ∧ m < 256) (he : e % 15 = 3 ∧ e < 256) (s : Three) (h : s.small) : Good W m e true k u d N y x s := split C (hm := hm) (ea := .par .u8 e 15 3 he) rfl s h (g0_3t E m e hm he s h)
theorem law0_4f (C : Ctx W E ls k u d N y x e) {m : Nat} (hm : m % 2 = 0 ∧ m < 256) (he : e % 15 = 4 ∧ e < 256) (s : Three) (h : s.small) : Good W m e false k u d N y x s := split C (hm := hm) (ea := .par .u8 e 15 4 he) rfl s h (g0_4f E m e hm he s h)
theorem law0_4t (C : Ctx W E ls k u d N y x e) {m : Nat} (hm : m % 2 = 0 ∧ m < 256) (he : e % 15 = 4 ∧ e < 256) (s : Three) (h : s.small) : Good W m e true k u d N y x s := split C (hm := hm) (ea := .par .u8 e 15 4 he) rfl s h (g0_4t E m e hm he s h)
theorem law0_5f (C : Ctx W E ls k u d N y x e) {m : Nat} (hm : m % 2 = 0 ∧ m < 256) (he : e % 15 = 5 ∧ e < 256) (s : Three) (h : s.small) : Good W m e false k u d N y x s := split C (hm := hm) (ea := .par .u8 e 15 5 he) rfl s h (g0_5f E m e hm he s h)
theorem law0_5t (C : Ctx W E ls k u d N y x e) {m : Nat} (hm : m % 2 = 0 ∧ m < 256) (he : e % 15 = 5 ∧ e < 256) (s : Three) (h : s.small) : Good W m e true k u d N y x s := split C (hm := hm) (ea := .par .u8 e 15 5 he) rfl s h (g0_5t E m e hm he s h)
theorem law0_6f (C : Ctx W E ls k u d N y x e) {m : Nat} (hm : m % 2 = 0 ∧ m < 256) (he : e % 15 = 6 ∧ e < 256) (s : Three) (h : s.small) : Good W m e false k u d N y x s := split C (hm := hm) (ea := .par .u8 e 15 6 he) rfl s h (g0_6f E m e hm he s h)
theorem law0_6t (C : Ctx W E ls k u d N y x e) {m : Nat} (hm : m % 2 = 0 ∧ m < 256) (he : e % 15 = 6 ∧ e < 256) (s : Three) (h : s.small) : Good W m e true k u d N y x s := split C (hm := hm) (ea := .par .u8 e 15 6 he) rfl s h (g0_6t E m e hm he s h)
theorem law0_7f (C : Ctx W E ls k u d N y x e) {m : Nat} (hm : m % 2 = 0 ∧ m < 256) (he : e % 15 = 7 ∧ e < 256) (s : Three) (h : s.small) : Good W m e false k u d N y x s := split C (hm := hm) (ea := .par .u8 e 15 7 he) rfl s h (g0_7f E m e hm he s h)
theorem law0_7t (C : Ctx W E ls k u d N y x e) {m : Nat} (hm : m % 2 = 0 ∧ m < 256) (he : e % 15 = 7 ∧ e < 256) (s : Three) (h : s.small) : Good W m e true k u d N y x s := split C (hm := hm) (ea := .par .u8 e 15 7 he) rfl s h (g0_7t E m e hm he s h)
theorem law0_8f (C : Ctx W E ls k u d N y x e) {m : Nat} (hm : m % 2 = 0 ∧ m < 256) (he : e % 15 = 8 ∧ e < 256) (s : Three) (h : s.small) : Good W m e false k u d N y x s := split C (hm := hm) (ea := .par .u8 e 15 8 he) rfl s h (g0_8f E m e hm he s h)
theorem law0_8t (C : Ctx W E ls k u d N y x e) {m : Nat} (hm : m % 2 = 0 ∧ m < 256) (he : e % 15 = 8 ∧ e < 256) (s : Three) (h : s.small) : Good W m e true k u d N y x s := split C (hm := hm) (ea := .par .u8 e 15 8 he) rfl s h (g0_8t E m e hm he s h)
theorem law0_9f (C : Ctx W E ls k u d N y x e) {m : Nat} (hm : m % 2 = 0 ∧ m < 256) (he : e % 15 = 9 ∧ e < 256) (s : Three) (h : s.small) : Good W m e false k u d N y x s := split C (hm := hm) (ea := .par .u8 e 15 9 he) rfl s h (g0_9f E m e hm he s h)
theorem law0_9t (C : Ctx W E ls k u d N y x e) {m : Nat} (hm : m % 2 = 0 ∧ m < 256) (he : e % 15 = 9 ∧ e < 256) (s : Three) (h : s.small) : Good W m e true k u d N y x s := split C (hm := hm) (ea := .par .u8 e 15 9 he) rfl s h (g0_9t E m e hm he s h)
theorem law0_10f (C : Ctx W E ls k u d N y x e) {m : Nat} (hm : m % 2 = 0 ∧ m < 256) (he : e % 15 = 10 ∧ e < 256) (s : Three) (h : s.small) : Good W m e false k u d N y x s := split C (hm := hm) (ea := .par .u8 e 15 10 he) rfl s h (g0_10f E m e hm he s h)
theorem law0_10t (C : Ctx W E ls k u d N y x e) {m : Nat} (hm : m % 2 = 0 ∧ m < 256) (he : e % 15 = 10 ∧ e < 256) (s : Three) (h : s.small) : Good W m e true k u d N y x s := split C (hm := hm) (ea := .par .u8 e 15 10 he) rfl s h (g0_10t E m e hm he s h)
theorem law0_11f (C : Ctx W E ls k u d N y x e) {m : Nat} (hm : m % 2 = 0 ∧ m < 256) (he : e % 15 = 11 ∧ e < 256) (s : Three) (h : s.small) : Good W m e false k u d N y x s := split C (hm := hm) (ea := .par .u8 e 15 11 he) rfl s h (g0_11f E m e hm he s h)
theorem law0_11t (C : Ctx W E ls k u d N y x e) {m : Nat} (hm : m % 2 = 0 ∧ m < 256) (he : e % 15 = 11 ∧ e < 256) (s : Three) (h : s.small) : Good W m e true k u d N y x s := split C (hm := hm) (ea := .par .u8 e 15 11 he) rfl s h (g0_11t E m e hm he s h)
theorem law0_12f (C : Ctx W E ls k u d N y x e) {m : Nat} (hm : m % 2 = 0 ∧ m < 256) (he : e % 15 = 12 ∧ e < 256) (s : Three) (h : s.small) : Good W m e false k u d N y x s := split C (hm := hm) (ea := .par .u8 e 15 12 he) rfl s h (g0_12f E m e hm he s h)
theorem law0_12t (C : Ctx W E ls k u d N y x e) {m : Nat} (hm : m % 2 = 0 ∧ m < 256) (he : e % 15 = 12 ∧ e < 256) (s : Three) (h : s.small) : Good W m e true k u d N y x s := split C (hm := hm) (ea := .par .u8 e 15 12 he) rfl s h (g0_12t E m e hm he s h)
theorem law0_13f (C : Ctx W E ls k u d N y x e) {m : Nat} (hm : m % 2 = 0 ∧ m < 256) (he : e % 15 = 13 ∧ e < 256) (s : Three) (h : s.small) : Good W m e false k u d N y x s := split C (hm := hm) (ea := .par .u8 e 15 13 he) rfl s h (g0_13f E m e hm he s h)
theorem law0_13t (C : Ctx W E ls k u d N y x e) {m : Nat} (hm : m % 2 = 0 ∧ m < 256) (he : e % 15 = 13 ∧ e < 256) (s : Three) (h : s.small) : Good W m e true k u d N y x s := split C (hm := hm) (ea := .par .u8 e 15 13 he) rfl s h (g0_13t E m e hm he s h)
theorem law0_14f (C : Ctx W E ls k u d N y x e) {m : Nat} (hm : m % 2 = 0 ∧ m < 256) (he : e % 15 = 14 ∧ e < 256) (s : Three) (h : s.small) : Good W m e false k u d N y x s := split C (hm := hm) (ea := .par .u8 e 15 14 he) rfl s h (g0_14f E m e hm he s h)
theorem law0_14t (C : Ctx W E ls k u d N y x e) {m : Nat} (hm : m % 2 = 0 ∧ m < 256) (he : e % 15 = 14 ∧ e < 256) (s : Three) (h : s.small) : Good W m e true k u d N y x s := split C (hm := hm) (ea := .par .u8 e 15 14 he) rfl s h (g0_14t E m e hm he s h)
theorem law1_0f (C : Ctx W E ls k u d N y x e) {m : Nat} (hm : m % 2 = 1 ∧ m < 256) (he : e % 15 = 0 ∧ e < 256) (s : Three) (h : s.small) : Good W m e false k u d N y x s := split C (hm := hm) (ea := .par .u8 e 15 0 he) rfl s h (g1_0f E m e hm he s h)
theorem law1_0t (C : Ctx W E ls k u d N y x e) {m : Nat} (hm : m % 2 = 1 ∧ m < 256) (he : e % 15 = 0 ∧ e < 256) (s : Three) (h : s.small) : Good W m e true k u d N y x s := split C (hm := hm) (ea := .par .u8 e 15 0 he) rfl s h (g1_0t E m e hm he s h)
theorem law1_1f (C : Ctx W E ls k u d N y x e) {m : Nat} (hm : m % 2 = 1 ∧ m < 256) (he : e % 15 = 1 ∧ e < 256) (s : Three) (h : s.small) : Good W m e false k u d N y x s := split C (hm := hm) (ea := .par .u8 e 15 1 he) rfl s h (g1_1f E m e hm he s h)
theorem law1_1t (C : Ctx W E ls k u d N y x e) {m : Nat} (hm : m % 2 = 1 ∧ m < 256) (he : e % 15 = 1 ∧ e < 256) (s : Three) (h : s.small) : Good W m e true k u d N y x s := split C (hm := hm) (ea := .par .u8 e 15 1 he) rfl s h (g1_1t E m e hm he s h)
theorem law1_2f (C : Ctx W E ls k u d N y x e) {m : Nat} (hm : m % 2 = 1 ∧ m < 256) (he : e % 15 = 2 ∧ e < 256) (s : Three) (h : s.small) : Good W m e false k u d N y x s := split C (hm := hm) (ea := .par .u8 e 15 2 he) rfl s h (g1_2f E m e hm he s h)
theorem law1_2t (C : Ctx W E ls k u d N y x e) {m : Nat} (hm : m % 2 = 1 ∧ m < 256) (he : e % 15 = 2 ∧ e < 256) (s : Three) (h : s.small) : Good W m e true k u d N y x s := split C (hm := hm) (ea := .par .u8 e 15 2 he) rfl s h (g1_2t E m e hm he s h)
theorem law1_3f (C : Ctx W E ls k u d N y x e) {m : Nat} (hm : m % 2 = 1 ∧ m < 256) (he : e % 15 = 3 ∧ e < 256) (s : Three) (h : s.small) : Good W m e false k u d N y x s := split C (hm := hm) (ea := .par .u8 e 15 3 he) rfl s h (g1_3f E m e hm he s h)
theorem law1_3t (C : Ctx W E ls k u d N y x e) {m : Nat} (hm : m % 2 = 1 ∧ m < 256) (he : e % 15 = 3 ∧ e < 256) (s : Three) (h : s.small) : Good W m e true k u d N y x s := split C (hm := hm) (ea := .par .u8 e 15 3 he) rfl s h (g1_3t E m e hm he s h)
theorem law1_4f (C : Ctx W E ls k u d N y x e) {m : Nat} (hm : m % 2 = 1 ∧ m < 256) (he : e % 15 = 4 ∧ e < 256) (s : Three) (h : s.small) : Good W m e false k u d N y x s := split C (hm := hm) (ea := .par .u8 e 15 4 he) rfl s h (g1_4f E m e hm he s h)
theorem law1_4t (C : Ctx W E ls k u d N y x e) {m : Nat} (hm : m % 2 = 1 ∧ m < 256) (he : e % 15 = 4 ∧ e < 256) (s : Three) (h : s.small) : Good W m e true k u d N y x s := split C (hm := hm) (ea := .par .u8 e 15 4 he) rfl s h (g1_4t E m e hm he s h)
theorem law1_5f (C : Ctx W E ls k u d N y x e) {m : Nat} (hm : m % 2 = 1 ∧ m < 256) (he : e % 15 = 5 ∧ e < 256) (s : Three) (h : s.small) : Good W m e false k u d N y x s := split C (hm := hm) (ea := .par .u8 e 15 5 he) rfl s h (g1_5f E m e hm he s h)
theorem law1_5t (C : Ctx W E ls k u d N y x e) {m : Nat} (hm : m % 2 = 1 ∧ m < 256) (he : e % 15 = 5 ∧ e < 256) (s : Three) (h : s.small) : Good W m e true k u d N y x s := split C (hm := hm) (ea := .par .u8 e 15 5 he) rfl s h (g1_5t E m e hm he s h)
theorem law1_6f (C : Ctx W E ls k u d N y x e) {m : Nat} (hm : m % 2 = 1 ∧ m < 256) (he : e % 15 = 6 ∧ e < 256) (s : Three) (h : s.small) : Good W m e false k u d N y x s := split C (hm := hm) (ea := .par .u8 e 15 6 he) rfl s h (g1_6f E m e hm he s h)
theorem law1_6t (C : Ctx W E ls k u d N y x e) {m : Nat} (hm : m % 2 = 1 ∧ m < 256) (he : e % 15 = 6 ∧ e < 256) (s : Three) (h : s.small) : Good W m e true k u d N y x s := split C (hm := hm) (ea := .par .u8 e 15 6 he) rfl s h (g1_6t E m e hm he s h)
theorem law1_7f (C : Ctx W E ls k u d N y x e) {m : Nat} (hm : m % 2 = 1 ∧ m < 256) (he : e % 15 = 7 ∧ e < 256) (s : Three) (h : s.small) : Good W m e false k u d N y x s := split C (hm := hm) (ea := .par .u8 e 15 7 he) rfl s h (g1_7f E m e hm he s h)
theorem law1_7t (C : Ctx W E ls k u d N y x e) {m : Nat} (hm : m % 2 = 1 ∧ m < 256) (he : e % 15 = 7 ∧ e < 256) (s : Three) (h : s.small) : Good W m e true k u d N y x s := split C (hm := hm) (ea := .par .u8 e 15 7 he) rfl s h (g1_7t E m e hm he s h)
theorem law1_8f (C : Ctx W E ls k u d N y x e) {m : Nat} (hm : m % 2 = 1 ∧ m < 256) (he : e % 15 = 8 ∧ e < 256) (s : Three) (h : s.small) : Good W m e false k u d N y x s := split C (hm := hm) (ea := .par .u8 e 15 8 he) rfl s h (g1_8f E m e hm he s h)
theorem law1_8t (C : Ctx W E ls k u d N y x e) {m : Nat} (hm : m % 2 = 1 ∧ m < 256) (he : e % 15 = 8 ∧ e < 256) (s : Three) (h : s.small) : Good W m e true k u d N y x s := split C (hm := hm) (ea := .par .u8 e 15 8 he) rfl s h (g1_8t E m e hm he s h)
theorem law1_9f (C : Ctx W E ls k u d N y x e) {m : Nat} (hm : m % 2 = 1 ∧ m < 256) (he : e % 15 = 9 ∧ e < 256) (s : Three) (h : s.small) : Good W m e false k u d N y x s := split C (hm := hm) (ea := .par .u8 e 15 9 he) rfl s h (g1_9f E m e hm he s h)
theorem law1_9t (C : Ctx W E ls k u d N y x e) {m : Nat} (hm : m % 2 = 1 ∧ m < 256) (he : e % 15 = 9 ∧ e < 256) (s : Three) (h : s.small) : Good W m e true k u d N y x s := split C (hm := hm) (ea := .par .u8 e 15 9 he) rfl s h (g1_9t E m e hm he s h)
theorem law1_10f (C : Ctx W E ls k u d N y x e) {m : Nat} (hm : m % 2 = 1 ∧ m < 256) (he : e % 15 = 10 ∧ e < 256) (s : Three) (h : s.small) : Good W m e false k u d N y x s := split C (hm := hm) (ea := .par .u8 e 15 10 he) rfl s h (g1_10f E m e hm he s h)
theorem law1_10t (C : Ctx W E ls k u d N y x e) {m : Nat} (hm : m % 2 = 1 ∧ m < 256) (he : e % 15 = 10 ∧ e < 256) (s : Three) (h : s.small) : Good W m e true k u d N y x s := split C (hm := hm) (ea := .par .u8 e 15 10 he) rfl s h (g1_10t E m e hm he s h)
theorem law1_11f (C : Ctx W E ls k u d N y x e) {m : Nat} (hm : m % 2 = 1 ∧ m < 256) (he : e % 15 = 11 ∧ e < 256) (s : Three) (h : s.small) : Good W m e false k u d N y x s := split C (hm := hm) (ea := .par .u8 e 15 11 he) rfl s h (g1_11f E m e hm he s h)
theorem law1_11t (C : Ctx W E ls k u d N y x e) {m : Nat} (hm : m % 2 = 1 ∧ m < 256) (he : e % 15 = 11 ∧ e < 256) (s : Three) (h : s.small) : Good W m e true k u d N y x s := split C (hm := hm) (ea := .par .u8 e 15 11 he) rfl s h (g1_11t E m e hm he s h)
theorem law1_12f (C : Ctx W E ls k u d N y x e) {m : Nat} (hm : m % 2 = 1 ∧ m < 256) (he : e % 15 = 12 ∧ e < 256) (s : Three) (h : s.small) : Good W m e false k u d N y x s := split C (hm := hm) (ea := .par .u8 e 15 12 he) rfl s h (g1_12f E m e hm he s h)
theorem law1_12t (C : Ctx W E ls k u d N y x e) {m : Nat} (hm : m % 2 = 1 ∧ m < 256) (he : e % 15 = 12 ∧ e < 256) (s : Three) (h : s.small) : Good W m e true k u d N y x s := split C (hm := hm) (ea := .par .u8 e 15 12 he) rfl s h (g1_12t E m e hm he s h)
theorem law1_13f (C : Ctx W E ls k u d N y x e) {m : Nat} (hm : m % 2 = 1 ∧ m < 256) (he : e % 15 = 13 ∧ e < 256) (s : Three) (h : s.small) : Good W m e false k u d N y x s := split C (hm := hm) (ea := .par .u8 e 15 13 he) rfl s h (g1_13f E m e hm he s h)
theorem law1_13t (C : Ctx W E ls k u d N y x e) {m : Nat} (hm : m % 2 = 1 ∧ m < 256) (he : e % 15 = 13 ∧ e < 256) (s : Three) (h : s.small) : Good W m e true k u d N y x s := split C (hm := hm) (ea := .par .u8 e 15 13 he) rfl s h (g1_13t E m e hm he s h)
theorem law1_14f (C : Ctx W E ls k u d N y x e) {m : Nat} (hm : m % 2 = 1 ∧ m < 256) (he : e % 15 = 14 ∧ e < 256) (s : Three) (h : s.small) : Good W m e false k u d N y x s := split C (hm := hm) (ea := .par .u8 e 15 14 he) rfl s h (g1_14f E m e hm he s h)
theorem law1_14t (C : Ctx W E ls k u d N y x e) {m : Nat} (hm : m % 2 = 1 ∧ m < 256) (he : e % 15 = 14 ∧ e < 256) (s : Three) (h : s.small) : Good W m e true k u d N y x s := split C (hm := hm) (ea := .par .u8 e 15 14 he) rfl s h (g1_14t E m e hm he s h)
theorem lawW0f (C : Ctx W E ls k u d N y x e) {m : Nat} (hm : m % 2 = 0 ∧ m < 256) (s : Three) (h0 : s.n0 ≤ 9223372036854775807) (h1 : s.n1 ≤ 9223372036854775807) (h2 : s.n2 ≤ 9223372036854775807) (h : ¬ s.small) : Good W m e false k u d N y x s := by
  unfold Three.small at h
  by_cases w0 : 11 ≤ s.n0
  · exact law_o C (w0_f_0 E m hm s ⟨w0, h0⟩ ⟨Nat.zero_le _, h1⟩ ⟨Nat.zero_le _, h2⟩) C.de (den_reply (C.dk C.rk.1 C.rk.2) (C.du C.ru.1 C.ru.2) (C.dd C.rd.1 C.rd.2) (C.dN C.rN.1 C.rN.2) (C.dy C.ry.1 C.ry.2) (C.dx C.rx.1 C.rx.2) rfl)
  by_cases w1 : 21 ≤ s.n1
  · exact law_o C (w0_f_1 E m hm s ⟨Nat.zero_le _, by omega⟩ ⟨w1, h1⟩ ⟨Nat.zero_le _, h2⟩) C.de (den_reply (C.dk C.rk.1 C.rk.2) (C.du C.ru.1 C.ru.2) (C.dd C.rd.1 C.rd.2) (C.dN C.rN.1 C.rN.2) (C.dy C.ry.1 C.ry.2) (C.dx C.rx.1 C.rx.2) rfl)
  have w2 : 11 ≤ s.n2 := by omega
  exact law_o C (w0_f_2 E m hm s ⟨Nat.zero_le _, by omega⟩ ⟨Nat.zero_le _, by omega⟩ ⟨w2, h2⟩) C.de (den_reply (C.dk C.rk.1 C.rk.2) (C.du C.ru.1 C.ru.2) (C.dd C.rd.1 C.rd.2) (C.dN C.rN.1 C.rN.2) (C.dy C.ry.1 C.ry.2) (C.dx C.rx.1 C.rx.2) rfl)
theorem lawW0t (C : Ctx W E ls k u d N y x e) {m : Nat} (hm : m % 2 = 0 ∧ m < 256) (s : Three) (h0 : s.n0 ≤ 9223372036854775807) (h1 : s.n1 ≤ 9223372036854775807) (h2 : s.n2 ≤ 9223372036854775807) (h : ¬ s.small) : Good W m e true k u d N y x s := by
  unfold Three.small at h
  by_cases w0 : 11 ≤ s.n0
  · exact law_o C (w0_t_0 E m hm s ⟨w0, h0⟩ ⟨Nat.zero_le _, h1⟩ ⟨Nat.zero_le _, h2⟩) C.de (den_reply (C.dk C.rk.1 C.rk.2) (C.du C.ru.1 C.ru.2) (C.dd C.rd.1 C.rd.2) (C.dN C.rN.1 C.rN.2) (C.dy C.ry.1 C.ry.2) (C.dx C.rx.1 C.rx.2) rfl)
  by_cases w1 : 21 ≤ s.n1
  · exact law_o C (w0_t_1 E m hm s ⟨Nat.zero_le _, by omega⟩ ⟨w1, h1⟩ ⟨Nat.zero_le _, h2⟩) C.de (den_reply (C.dk C.rk.1 C.rk.2) (C.du C.ru.1 C.ru.2) (C.dd C.rd.1 C.rd.2) (C.dN C.rN.1 C.rN.2) (C.dy C.ry.1 C.ry.2) (C.dx C.rx.1 C.rx.2) rfl)
  have w2 : 11 ≤ s.n2 := by omega
  exact law_o C (w0_t_2 E m hm s ⟨Nat.zero_le _, by omega⟩ ⟨Nat.zero_le _, by omega⟩ ⟨w2, h2⟩) C.de (den_reply (C.dk C.rk.1 C.rk.2) (C.du C.ru.1 C.ru.2) (C.dd C.rd.1 C.rd.2) (C.dN C.rN.1 C.rN.2) (C.dy C.ry.1 C.ry.2) (C.dx C.rx.1 C.rx.2) rfl)
theorem lawW1f (C : Ctx W E ls k u d N y x e) {m : Nat} (hm : m % 2 = 1 ∧ m < 256) (s : Three) (h0 : s.n0 ≤ 9223372036854775807) (h1 : s.n1 ≤ 9223372036854775807) (h2 : s.n2 ≤ 9223372036854775807) (h : ¬ s.small) : Good W m e false k u d N y x s := by
  unfold Three.small at h
  by_cases w0 : 11 ≤ s.n0
  · exact law_o C (w1_f_0 E m hm s ⟨w0, h0⟩ ⟨Nat.zero_le _, h1⟩ ⟨Nat.zero_le _, h2⟩) C.de (den_reply (C.dk C.rk.1 C.rk.2) (C.du C.ru.1 C.ru.2) (C.dd C.rd.1 C.rd.2) (C.dN C.rN.1 C.rN.2) (C.dy C.ry.1 C.ry.2) (C.dx C.rx.1 C.rx.2) rfl)
  by_cases w1 : 21 ≤ s.n1
  · exact law_o C (w1_f_1 E m hm s ⟨Nat.zero_le _, by omega⟩ ⟨w1, h1⟩ ⟨Nat.zero_le _, h2⟩) C.de (den_reply (C.dk C.rk.1 C.rk.2) (C.du C.ru.1 C.ru.2) (C.dd C.rd.1 C.rd.2) (C.dN C.rN.1 C.rN.2) (C.dy C.ry.1 C.ry.2) (C.dx C.rx.1 C.rx.2) rfl)
  have w2 : 11 ≤ s.n2 := by omega
  exact law_o C (w1_f_2 E m hm s ⟨Nat.zero_le _, by omega⟩ ⟨Nat.zero_le _, by omega⟩ ⟨w2, h2⟩) C.de (den_reply (C.dk C.rk.1 C.rk.2) (C.du C.ru.1 C.ru.2) (C.dd C.rd.1 C.rd.2) (C.dN C.rN.1 C.rN.2) (C.dy C.ry.1 C.ry.2) (C.dx C.rx.1 C.rx.2) rfl)
theorem lawW1t (C : Ctx W E ls k u d N y x e) {m : Nat} (hm : m % 2 = 1 ∧ m < 256) (s : Three) (h0 : s.n0 ≤ 9223372036854775807) (h1 : s.n1 ≤ 9223372036854775807) (h2 : s.n2 ≤ 9223372036854775807) (h : ¬ s.small) : Good W m e true k u d N y x s := by
  unfold Three.small at h
  by_cases w0 : 11 ≤ s.n0
  · exact law_o C (w1_t_0 E m hm s ⟨w0, h0⟩ ⟨Nat.zero_le _, h1⟩ ⟨Nat.zero_le _, h2⟩) C.de (den_reply (C.dk C.rk.1 C.rk.2) (C.du C.ru.1 C.ru.2) (C.dd C.rd.1 C.rd.2) (C.dN C.rN.1 C.rN.2) (C.dy C.ry.1 C.ry.2) (C.dx C.rx.1 C.rx.2) rfl)
  by_cases w1 : 21 ≤ s.n1
  · exact law_o C (w1_t_1 E m hm s ⟨Nat.zero_le _, by omega⟩ ⟨w1, h1⟩ ⟨Nat.zero_le _, h2⟩) C.de (den_reply (C.dk C.rk.1 C.rk.2) (C.du C.ru.1 C.ru.2) (C.dd C.rd.1 C.rd.2) (C.dN C.rN.1 C.rN.2) (C.dy C.ry.1 C.ry.2) (C.dx C.rx.1 C.rx.2) rfl)
  have w2 : 11 ≤ s.n2 := by omega
  exact law_o C (w1_t_2 E m hm s ⟨Nat.zero_le _, by omega⟩ ⟨Nat.zero_le _, by omega⟩ ⟨w2, h2⟩) C.de (den_reply (C.dk C.rk.1 C.rk.2) (C.du C.ru.1 C.ru.2) (C.dd C.rd.1 C.rd.2) (C.dN C.rN.1 C.rN.2) (C.dy C.ry.1 C.ry.2) (C.dx C.rx.1 C.rx.2) rfl)
theorem lawA0f (C : Ctx W E ls k u d N y x e) {m : Nat} (hm : m % 2 = 0 ∧ m < 256) (s : Three) (h : s.small) : Good W m e false k u d N y x s := by
  have hr := C.re
  rcases (show e % 15 = 0 ∨ e % 15 = 1 ∨ e % 15 = 2 ∨ e % 15 = 3 ∨ e % 15 = 4 ∨ e % 15 = 5 ∨ e % 15 = 6 ∨ e % 15 = 7 ∨ e % 15 = 8 ∨ e % 15 = 9 ∨ e % 15 = 10 ∨ e % 15 = 11 ∨ e % 15 = 12 ∨ e % 15 = 13 ∨ e % 15 = 14 by omega) with q | q | q | q | q | q | q | q | q | q | q | q | q | q | q
  · exact law0_0f C hm ⟨q, hr⟩ s h
  · exact law0_1f C hm ⟨q, hr⟩ s h
  · exact law0_2f C hm ⟨q, hr⟩ s h
  · exact law0_3f C hm ⟨q, hr⟩ s h
  · exact law0_4f C hm ⟨q, hr⟩ s h
  · exact law0_5f C hm ⟨q, hr⟩ s h
  · exact law0_6f C hm ⟨q, hr⟩ s h
  · exact law0_7f C hm ⟨q, hr⟩ s h
  · exact law0_8f C hm ⟨q, hr⟩ s h
  · exact law0_9f C hm ⟨q, hr⟩ s h
  · exact law0_10f C hm ⟨q, hr⟩ s h
  · exact law0_11f C hm ⟨q, hr⟩ s h
  · exact law0_12f C hm ⟨q, hr⟩ s h
  · exact law0_13f C hm ⟨q, hr⟩ s h
  · exact law0_14f C hm ⟨q, hr⟩ s h
theorem lawA0t (C : Ctx W E ls k u d N y x e) {m : Nat} (hm : m % 2 = 0 ∧ m < 256) (s : Three) (h : s.small) : Good W m e true k u d N y x s := by
  have hr := C.re
  rcases (show e % 15 = 0 ∨ e % 15 = 1 ∨ e % 15 = 2 ∨ e % 15 = 3 ∨ e % 15 = 4 ∨ e % 15 = 5 ∨ e % 15 = 6 ∨ e % 15 = 7 ∨ e % 15 = 8 ∨ e % 15 = 9 ∨ e % 15 = 10 ∨ e % 15 = 11 ∨ e % 15 = 12 ∨ e % 15 = 13 ∨ e % 15 = 14 by omega) with q | q | q | q | q | q | q | q | q | q | q | q | q | q | q
  · exact law0_0t C hm ⟨q, hr⟩ s h
  · exact law0_1t C hm ⟨q, hr⟩ s h
  · exact law0_2t C hm ⟨q, hr⟩ s h
  · exact law0_3t C hm ⟨q, hr⟩ s h
  · exact law0_4t C hm ⟨q, hr⟩ s h
  · exact law0_5t C hm ⟨q, hr⟩ s h
  · exact law0_6t C hm ⟨q, hr⟩ s h
  · exact law0_7t C hm ⟨q, hr⟩ s h
  · exact law0_8t C hm ⟨q, hr⟩ s h
  · exact law0_9t C hm ⟨q, hr⟩ s h
  · exact law0_10t C hm ⟨q, hr⟩ s h
  · exact law0_11t C hm ⟨q, hr⟩ s h
  · exact law0_12t C hm ⟨q, hr⟩ s h
  · exact law0_13t C hm ⟨q, hr⟩ s h
  · exact law0_14t C hm ⟨q, hr⟩ s h
theorem lawA1f (C : Ctx W E ls k u d N y x e) {m : Nat} (hm : m % 2 = 1 ∧ m < 256) (s : Three) (h : s.small) : Good W m e false k u d N y x s := by
  have hr := C.re
  rcases (show e % 15 = 0 ∨ e % 15 = 1 ∨ e % 15 = 2 ∨ e % 15 = 3 ∨ e % 15 = 4 ∨ e % 15 = 5 ∨ e % 15 = 6 ∨ e % 15 = 7 ∨ e % 15 = 8 ∨ e % 15 = 9 ∨ e % 15 = 10 ∨ e % 15 = 11 ∨ e % 15 = 12 ∨ e % 15 = 13 ∨ e % 15 = 14 by omega) with q | q | q | q | q | q | q | q | q | q | q | q | q | q | q
  · exact law1_0f C hm ⟨q, hr⟩ s h
  · exact law1_1f C hm ⟨q, hr⟩ s h
  · exact law1_2f C hm ⟨q, hr⟩ s h
  · exact law1_3f C hm ⟨q, hr⟩ s h
  · exact law1_4f C hm ⟨q, hr⟩ s h
  · exact law1_5f C hm ⟨q, hr⟩ s h
  · exact law1_6f C hm ⟨q, hr⟩ s h
  · exact law1_7f C hm ⟨q, hr⟩ s h
  · exact law1_8f C hm ⟨q, hr⟩ s h
  · exact law1_9f C hm ⟨q, hr⟩ s h
  · exact law1_10f C hm ⟨q, hr⟩ s h
  · exact law1_11f C hm ⟨q, hr⟩ s h
  · exact law1_12f C hm ⟨q, hr⟩ s h
  · exact law1_13f C hm ⟨q, hr⟩ s h
  · exact law1_14f C hm ⟨q, hr⟩ s h
theorem lawA1t (C : Ctx W E ls k u d N y x e) {m : Nat} (hm : m % 2 = 1 ∧ m < 256) (s : Three) (h : s.small) : Good W m e true k u d N y x s := by
  have hr := C.re
  rcases (show e % 15 = 0 ∨ e % 15 = 1 ∨ e % 15 = 2 ∨ e % 15 = 3 ∨ e % 15 = 4 ∨ e % 15 = 5 ∨ e % 15 = 6 ∨ e % 15 = 7 ∨ e % 15 = 8 ∨ e % 15 = 9 ∨ e % 15 = 10 ∨ e % 15 = 11 ∨ e % 15 = 12 ∨ e % 15 = 13 ∨ e % 15 = 14 by omega) with q | q | q | q | q | q | q | q | q | q | q | q | q | q | q
  · exact law1_0t C hm ⟨q, hr⟩ s h
  · exact law1_1t C hm ⟨q, hr⟩ s h
  · exact law1_2t C hm ⟨q, hr⟩ s h
  · exact law1_3t C hm ⟨q, hr⟩ s h
  · exact law1_4t C hm ⟨q, hr⟩ s h
  · exact law1_5t C hm ⟨q, hr⟩ s h
  · exact law1_6t C hm ⟨q, hr⟩ s h
  · exact law1_7t C hm ⟨q, hr⟩ s h
  · exact law1_8t C hm ⟨q, hr⟩ s h
  · exact law1_9t C hm ⟨q, hr⟩ s h
  · exact law1_10t C hm ⟨q, hr⟩ s h
  · exact law1_11t C hm ⟨q, hr⟩ s h
  · exact law1_12t C hm ⟨q, hr⟩ s h
  · exact law1_13t C hm ⟨q, hr⟩ s h
  · exact law1_14t C hm ⟨q, hr⟩ s h
theorem law_all (C : Ctx W E ls k u d N y x e) {m : Nat} (hm : m < 256) (b : Bool) (s : Three) (h0 : s.n0 ≤ 9223372036854775807) (h1 : s.n1 ≤ 9223372036854775807) (h2 : s.n2 ≤ 9223372036854775807) : Good W m e b k u d N y x s := by
  by_cases h : s.small
  · rcases Nat.mod_two_eq_zero_or_one m with q | q <;> cases b
    · exact lawA0f C ⟨q, hm⟩ s h
    · exact lawA0t C ⟨q, hm⟩ s h
    · exact lawA1f C ⟨q, hm⟩ s h
    · exact lawA1t C ⟨q, hm⟩ s h
  · rcases Nat.mod_two_eq_zero_or_one m with q | q <;> cases b
    · exact lawW0f C ⟨q, hm⟩ s h0 h1 h2 h
    · exact lawW0t C ⟨q, hm⟩ s h0 h1 h2 h
    · exact lawW1f C ⟨q, hm⟩ s h0 h1 h2 h
    · exact lawW1t C ⟨q, hm⟩ s h0 h1 h2 h
end
end Go.Proofs.YtjfmelmiegnmjaaGreatDoor
