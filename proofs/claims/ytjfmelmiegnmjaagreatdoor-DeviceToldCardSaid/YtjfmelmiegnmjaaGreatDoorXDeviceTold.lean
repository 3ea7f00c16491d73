/- DeviceTold: the tied card of the law. No condition beyond the row's own. -/
import Derived.Test.YtjfmelmiegnmjaaGreatDoorXToDTold
import Derived.Test.YtjfmelmiegnmjaaGreatDoorTDeviceTold
set_option linter.all false
open Go Go.Sx Go.Proofs Go.RowKit
set_option linter.all false
namespace Go.Proofs.YtjfmelmiegnmjaaGreatDoor
set_option maxRecDepth 100000
theorem u8_in {H : Type} {enc : TypeId × Value → H} {base : Nat} {W : World} {v : Value} {d : DataW H} {p : List MemPlace} (k0 : Value.okWide Tryz.prog W .any base 5 v) (t0 : DataW.Trod enc Tryz.prog W 0 (fun _ => true) true 5 v d p) : ∃ m : Nat, m < 256 ∧ v = .int .u8 m := by
  obtain ⟨n, rfl⟩ := Go.WideShapes.okWide_int Tryz.underlying5 k0
  obtain ⟨n', he, hw⟩ := reads_int Tryz.underlying5 (reads_of t0)
  obtain rfl : n = n' := by simpa [Value.cells] using he
  have h0 : 0 ≤ n ∧ n < 256 := by
    simp [Lit.wf, IntKind.min, IntKind.max, IntKind.signed, IntKind.bits] at hw
    omega
  obtain ⟨m, rfl⟩ := Int.eq_ofNat_of_zero_le h0.1
  exact ⟨m, by have := h0.2; omega, rfl⟩
theorem reads_sliceN {P : Program} {W : World} {t e : TypeId} {cs : List Value} (ht : P.underlying t = some (.slice e)) (h : Reads P W t cs) : ∃ (a : Option Addr) (n c : Nat), cs = [.slice a n c] ∧ n ≤ 9223372036854775807 := by
  obtain ⟨H, enc, fuel, x, h⟩ := h
  rcases DataW.trod_slice ht h with ⟨h, _⟩ | ⟨a, len, cap, elems, rest, n, _, h, _, _, hl, hm, _⟩
  · exact ⟨_, _, _, h, by omega⟩
  · exact ⟨_, _, _, h, by unfold maxLen at hm; omega⟩
theorem open_rep {W : World} {H : Type} {enc : TypeId × Value → H} {base : Nat} {v : Value} {d : DataW H} {p : List MemPlace} (h0 : Value.okWide Tryz.prog W .any base 30 v) (h1 : DataW.Trod enc Tryz.prog W 0 (fun _ => true) true 30 v d p) :
    ∃ (k u d N y x : Int) (s : Three), v = repV k u d N y x s ∧ (0 ≤ k ∧ k ≤ 255) ∧ (-9223372036854775808 ≤ u ∧ u ≤ 9223372036854775807) ∧ (-9223372036854775808 ≤ d ∧ d ≤ 9223372036854775807) ∧ (0 ≤ N ∧ N ≤ 4294967295) ∧ (0 ≤ y ∧ y ≤ 4294967295) ∧ (-9223372036854775808 ≤ x ∧ x ≤ 9223372036854775807) ∧
      s.n0 ≤ 9223372036854775807 ∧ s.n1 ≤ 9223372036854775807 ∧ s.n2 ≤ 9223372036854775807 := by
  obtain ⟨cs, rfl, hsz⟩ := Go.WideShapes.okWide_struct Tryz.underlying30 h0
  have h := reads_of h1
  have hl : cs.toList.length = 9 := (reads_len Tryz.underlying30 h).trans (by kernel_rfl)
  rw [show (Value.agg cs).cells.toList = cs.toList from rfl] at h
  rw [← Array.toArray_toList (xs := cs)]
  generalize cs.toList = l at h hl
  obtain _ | ⟨y0, l⟩ := l
  · simp at hl
  obtain _ | ⟨y1, l⟩ := l
  · simp at hl
  obtain _ | ⟨y2, l⟩ := l
  · simp at hl
  obtain _ | ⟨y3, l⟩ := l
  · simp at hl
  obtain _ | ⟨y4, l⟩ := l
  · simp at hl
  obtain _ | ⟨y5, l⟩ := l
  · simp at hl
  obtain _ | ⟨y6, l⟩ := l
  · simp at hl
  obtain _ | ⟨y7, l⟩ := l
  · simp at hl
  obtain _ | ⟨y8, l⟩ := l
  · simp at hl
  obtain _ | ⟨z, l⟩ := l
  · skip
    have f0 := reads_field Tryz.underlying30 h 0 (o := 0) (n := 1) (T := 5) rfl (by kernel_rfl)
    obtain ⟨x0, e0, w0⟩ := reads_int Tryz.underlying5 f0
    have f1 := reads_field Tryz.underlying30 h 1 (o := 1) (n := 2) (T := 23) rfl (by kernel_rfl)
    have f11 := reads_field Tryz.underlying23 f1 0 (o := 0) (n := 1) (T := 3) rfl (by kernel_rfl)
    obtain ⟨x1, e1, w1⟩ := reads_int Tryz.underlying3 f11
    have f12 := reads_field Tryz.underlying23 f1 1 (o := 1) (n := 1) (T := 3) rfl (by kernel_rfl)
    obtain ⟨x2, e2, w2⟩ := reads_int Tryz.underlying3 f12
    have f2 := reads_field Tryz.underlying30 h 2 (o := 3) (n := 1) (T := 24) rfl (by kernel_rfl)
    obtain ⟨x3, e3, w3⟩ := reads_int Tryz.underlying24 f2
    have f3 := reads_field Tryz.underlying30 h 3 (o := 4) (n := 1) (T := 24) rfl (by kernel_rfl)
    obtain ⟨x4, e4, w4⟩ := reads_int Tryz.underlying24 f3
    have f4 := reads_field Tryz.underlying30 h 4 (o := 5) (n := 1) (T := 25) rfl (by kernel_rfl)
    obtain ⟨x5, e5, w5⟩ := reads_int Tryz.underlying25 f4
    have f6 := reads_field Tryz.underlying30 h 5 (o := 6) (n := 1) (T := 26) rfl (by kernel_rfl)
    obtain ⟨a6, n6, c6, e6, w6⟩ := reads_sliceN Tryz.underlying26 f6
    have f7 := reads_field Tryz.underlying30 h 6 (o := 7) (n := 1) (T := 27) rfl (by kernel_rfl)
    obtain ⟨a7, n7, c7, e7, w7⟩ := reads_sliceN Tryz.underlying27 f7
    have f8 := reads_field Tryz.underlying30 h 7 (o := 8) (n := 1) (T := 28) rfl (by kernel_rfl)
    obtain ⟨a8, n8, c8, e8, w8⟩ := reads_sliceN Tryz.underlying28 f8
    simp only [List.drop_zero, List.take_succ_cons, List.take_zero, List.drop_succ_cons, List.cons.injEq, and_true] at e0 e1 e2 e3 e4 e5 e6 e7 e8
    subst e0 e1 e2 e3 e4 e5 e6 e7 e8
    have i64w : ∀ n : Int, (Lit.int .i64 n).wf = true → -9223372036854775808 ≤ n ∧ n ≤ 9223372036854775807 := fun n h => by
      simp [Lit.wf, IntKind.min, IntKind.max, IntKind.signed, IntKind.bits] at h
      omega
    have u32w : ∀ n : Int, (Lit.int .u32 n).wf = true → 0 ≤ n ∧ n ≤ 4294967295 := fun n h => by
      simp [Lit.wf, IntKind.min, IntKind.max, IntKind.signed, IntKind.bits] at h
      omega
    refine ⟨x0, x1, x2, x3, x4, x5, ⟨a6, n6, c6, a7, n7, c7, a8, n8, c8⟩, rfl, ?_, i64w x1 w1, i64w x2 w2, u32w x3 w3, u32w x4 w4, i64w x5 w5, w6, w7, w8⟩
    simp [Lit.wf, IntKind.min, IntKind.max, IntKind.signed, IntKind.bits] at w0
    omega
  · simp at hl
theorem deviceTold_walk : deviceTold.Walk := by
  intro H enc base W v0 v1 v2 v3 d0 p0 d1 p1 d2 p2 d3 p3 hL k0 t0 k1 t1 k2 t2 k3 t3
  obtain ⟨m, hm, rfl⟩ := u8_in k0 t0
  obtain ⟨e, he, rfl⟩ := u8_in k1 t1
  obtain ⟨b, rfl⟩ := Go.WideShapes.okWide_bool Tryz.underlying4 k2
  obtain ⟨k, u, d, N, y, x, s, rfl, h1, h2, h3, h4, h5, h6, q0, q1, q2⟩ := open_rep k3 t3
  rw [MakeChecks.laidMetH_plain _ _ _ (by kernel_rfl)] at hL
  have i1 := List.mem_of_getElem? (show Rows.deviceToldRow.laid[4]? = some (_, _) from rfl)
  have i2 := List.mem_of_getElem? (show Rows.deviceToldRow.laid[3]? = some (_, _) from rfl)
  have i3 := List.mem_of_getElem? (show Rows.deviceToldRow.laid[2]? = some (_, _) from rfl)
  obtain ⟨E, hb⟩ := laid_ro hL i1 i2 i3 (by kernel_rfl) (by kernel_rfl) (by kernel_rfl) (by kernel_rfl) (by kernel_rfl) (by kernel_rfl)
  obtain ⟨lk, hlk⟩ := Sx.Loc.int_of k
  obtain ⟨lu, hlu⟩ := Sx.Loc.int_of u
  obtain ⟨ld, hld⟩ := Sx.Loc.int_of d
  obtain ⟨lN, hlN⟩ := Sx.Loc.int_of N
  obtain ⟨ly, hly⟩ := Sx.Loc.int_of y
  obtain ⟨lx, hlx⟩ := Sx.Loc.int_of x
  obtain ⟨le, hle⟩ := Sx.Loc.int_of (e : Int)
  have C : Ctx W E [lk, lk, lk, lk, lu, ld, lN, ly, lx, le] k u d N y x e := ⟨hb, h1, h2, h3, h4, h5, h6, he, ⟨_, rfl, hlk⟩, ⟨_, rfl, hlu⟩, ⟨_, rfl, hld⟩, ⟨_, rfl, hlN⟩, ⟨_, rfl, hly⟩, ⟨_, rfl, hlx⟩, ⟨_, rfl, hle⟩⟩
  exact law_all C hm b s q0 q1 q2

theorem deviceToldCard_holds : Rows.DeviceToldCardSaid := deviceTold.card deviceTold_walk
end Go.Proofs.YtjfmelmiegnmjaaGreatDoor
