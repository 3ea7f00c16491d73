/- The table of powers is laid; an act that came in. -/
import Derived.Test.YtdkcmjifkhcfcaaGreatDoorXB0
import Derived.Test.YtdkcmjifkhcfcaaGreatDoorXSc
set_option linter.all false
open Go Go.Sx Go.Proofs Go.RowKit
namespace Go.Proofs.YtdkcmjifkhcfcaaGreatDoor
set_option maxRecDepth 100000
theorem tPow : (Tryz.prog.globals[3]?).map (·.type) = some 571 := by kernel_rfl
def pows : List Int := [1, 10, 100, 1000, 10000, 100000, 1000000, 10000000, 100000000, 1000000000, 10000000000, 100000000000, 1000000000000, 10000000000000, 100000000000000, 1000000000000000, 10000000000000000, 100000000000000000, 1000000000000000000, 10000000000000000000]

/-- In a world in which the variables are laid the table is there. -/
theorem laid_ro {laid : List (String × DataW Unit)} {W : World} (h : laidMet Tryz.prog laid W) {nm : String} {d : DataW Unit} (hin : (nm, d) ∈ laid) (hd : d = Lib.tabData .u64 pows) (hg : Tryz.prog.globalNamed nm = some 3) :
    ∃ el, ∀ id c, (id, c) ∈ [(3, Cont.cells (pows.map fun z => AV.int .u64 z))] → BlkOK (env0 Tryz.prog) W id (.mk el 0 c) := by
  subst hd
  obtain ⟨el, hb⟩ := laid_tab_blk h hin hg tPow Tryz.underlying571 Tryz.underlying72 (by kernel_rfl) (by kernel_rfl) (by decide)
  refine ⟨el, fun id c hm => ?_⟩
  simp only [List.mem_singleton, Prod.mk.injEq] at hm
  obtain ⟨rfl, rfl⟩ := hm
  exact hb
theorem open31 {W : World} {H : Type} {enc : TypeId × Value → H} {base : Nat} {v : Value} {d : DataW H} {p : List MemPlace} (h0 : Value.okWide Tryz.prog W .any base 31 v) (h1 : DataW.Trod enc Tryz.prog W 0 (fun _ => true) true 31 v d p) :
    ∃ (x0 : Int) (x1 : Int) (x2 : Int) (x3 : Int) (x4 : Nat) (a5 : Option Addr) (n5 : Nat) (c5 : Nat), v = .agg #[.int .u8 x0, .int .i64 x1, .int .i64 x2, .int .i64 x3, .float .f64 x4, .slice a5 n5 c5] := by
  obtain ⟨cs, rfl, hsz⟩ := Go.WideShapes.okWide_struct Tryz.underlying31 h0
  have h := reads_of h1
  have hl : cs.toList.length = 6 := (reads_len Tryz.underlying31 h).trans (by kernel_rfl)
  rw [show (Value.agg cs).cells.toList = cs.toList from rfl] at h
  rw [← Array.toArray_toList (xs := cs)]
  generalize cs.toList = l at h hl
  obtain _ | ⟨y0, l⟩ := l
  · simp at hl
  obtain _ | ⟨y1, l⟩ := l
  · simp at hl
  obtain _ | ⟨y2, l⟩ := l
  · simp at hl
  obtain _ | ⟨y3, l⟩ := l
  · simp at hl
  obtain _ | ⟨y4, l⟩ := l
  · simp at hl
  obtain _ | ⟨y5, l⟩ := l
  · simp at hl
  obtain _ | ⟨z, l⟩ := l
  · skip
    have h_0 := reads_field Tryz.underlying31 h 0 (o := 0) (n := 1) (T := 5) rfl (by kernel_rfl)
    obtain ⟨x0, e0, _⟩ := reads_int Tryz.underlying5 h_0
    have h_1 := reads_field Tryz.underlying31 h 1 (o := 1) (n := 1) (T := 3) rfl (by kernel_rfl)
    obtain ⟨x1, e1, _⟩ := reads_int Tryz.underlying3 h_1
    have h_2 := reads_field Tryz.underlying31 h 2 (o := 2) (n := 1) (T := 3) rfl (by kernel_rfl)
    obtain ⟨x2, e2, _⟩ := reads_int Tryz.underlying3 h_2
    have h_3 := reads_field Tryz.underlying31 h 3 (o := 3) (n := 1) (T := 3) rfl (by kernel_rfl)
    obtain ⟨x3, e3, _⟩ := reads_int Tryz.underlying3 h_3
    have h_4 := reads_field Tryz.underlying31 h 4 (o := 4) (n := 1) (T := 26) rfl (by kernel_rfl)
    obtain ⟨x4, e4, _⟩ := reads_float Tryz.underlying26 h_4
    have h_5 := reads_field Tryz.underlying31 h 5 (o := 5) (n := 1) (T := 29) rfl (by kernel_rfl)
    obtain ⟨a5, n5, c5, e5⟩ := reads_slice Tryz.underlying29 h_5
    simp only [List.drop_zero, List.take_succ_cons, List.take_zero, List.drop_succ_cons, List.cons.injEq, and_true] at e0 e1 e2 e3 e4 e5
    subst e0 e1 e2 e3 e4 e5
    exact ⟨_, _, _, _, _, _, _, _, rfl⟩
  · simp at hl
theorem open52 {W : World} {H : Type} {enc : TypeId × Value → H} {base : Nat} {v : Value} {d : DataW H} {p : List MemPlace} (h0 : Value.okWide Tryz.prog W .any base 52 v) (h1 : DataW.Trod enc Tryz.prog W 0 (fun _ => true) true 52 v d p) :
    ∃ (x0 : Int) (x1 : Int), v = .agg #[.int .i64 x0, .int .i64 x1] := by
  obtain ⟨cs, rfl, hsz⟩ := Go.WideShapes.okWide_struct Tryz.underlying52 h0
  have h := reads_of h1
  have hl : cs.toList.length = 2 := (reads_len Tryz.underlying52 h).trans (by kernel_rfl)
  rw [show (Value.agg cs).cells.toList = cs.toList from rfl] at h
  rw [← Array.toArray_toList (xs := cs)]
  generalize cs.toList = l at h hl
  obtain _ | ⟨y0, l⟩ := l
  · simp at hl
  obtain _ | ⟨y1, l⟩ := l
  · simp at hl
  obtain _ | ⟨z, l⟩ := l
  · skip
    have h_0 := reads_field Tryz.underlying52 h 0 (o := 0) (n := 1) (T := 3) rfl (by kernel_rfl)
    obtain ⟨x0, e0, _⟩ := reads_int Tryz.underlying3 h_0
    have h_1 := reads_field Tryz.underlying52 h 1 (o := 1) (n := 1) (T := 3) rfl (by kernel_rfl)
    obtain ⟨x1, e1, _⟩ := reads_int Tryz.underlying3 h_1
    simp only [List.drop_zero, List.take_succ_cons, List.take_zero, List.drop_succ_cons, List.cons.injEq, and_true] at e0 e1
    subst e0 e1
    exact ⟨_, _, rfl⟩
  · simp at hl

end Go.Proofs.YtdkcmjifkhcfcaaGreatDoor
