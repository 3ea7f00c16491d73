/- DeviceNil: the tied card of the law. No condition beyond the row's own. -/
import Derived.Test.YtanfacghknoldaaGreatDoorXE4
import Derived.Test.YtanfacghknoldaaGreatDoorXSc
import Derived.Test.YtanfacghknoldaaGreatDoorTDeviceNil
set_option linter.all false
open Go Go.Sx Go.Proofs Go.RowKit
set_option linter.unusedVariables false
namespace Go.Proofs.YtanfacghknoldaaGreatDoor
set_option maxRecDepth 1000000
noncomputable def caughtC : Code := bodyOf Tryz.prog 59
noncomputable def caughtR : Code := seqB caughtC
noncomputable def caughtO : Oper := match seqA caughtC with
  | .region _ #[o] _ => o
  | _ => default
theorem caught_body : Tryz.f59.body = some (.seq (.region 0 #[caughtO] false) caughtR) := by kernel_rfl
noncomputable def dhC : Dh := dhookM Tryz.prog okT 59 15 5 1000 caughtR
theorem dhC_good : DhGood Tryz.prog dhC := by
  exact dhookM_good okt callsOK mixed Tryz.func59 caught_body (by kernel_rfl) (by kernel_rfl) (by kernel_rfl) (by kernel_rfl) (fun l => by kernel_rfl) (fun e w => by kernel_rfl)
end Go.Proofs.YtanfacghknoldaaGreatDoor

open Go Go.Sx Go.Proofs Go.RowKit
set_option linter.unusedVariables false
namespace Go.Proofs.YtanfacghknoldaaGreatDoor
set_option maxRecDepth 1000000
theorem awk_good : HkGood Tryz.prog i3.closed := closed_good okt callsOK mixed hooks dh_good i3 (by kernel_rfl) (by kernel_rfl) rfl (by kernel_rfl) (by kernel_rfl) (by kernel_rfl) run3
noncomputable def c9 : Code := bodyOf Tryz.prog 9
noncomputable def c9R0 : Code := seqA c9
noncomputable def c9R1 : Code := seqA (seqA (seqB c9))
noncomputable def c9A : Code := condA (seqB (seqA (seqB c9)))
noncomputable def c9X : Code := seqB (seqB c9)
theorem c9_fn : fnOf Tryz.prog 9 = some (157, .seq c9R0 (.seq (.seq c9R1 (.cond (.tmp 32) c9A .skip)) c9X), [.tmp 8]) := by kernel_rfl
noncomputable def cl9 : Nat → List AV → St → Ro := xcall Tryz.prog okT i3.closed dhC 1000 50
section
variable (b : Nat) (n : Int) (ao : Option Addr) (len cap : Nat) (k u d m y e : Int) (a1 : Option Addr) (n1 c1 : Nat) (a2 : Option Addr) (n2 c2 : Nat) (a3 : Option Addr) (n3 c3 : Nat) (E : Nat → Nat)
noncomputable def args9 : List AV := [.flt .f64 b, .int .i64 n, .osl ao len cap, .agg [.int .u8 k, .int .i64 u, .int .i64 d, .int .u32 m, .int .u32 y, .int .i64 e, .osl a1 n1 c1, .osl a2 n2 c2, .osl a3 n3 c3]]
noncomputable def r9a : Rs := xcode Tryz.prog okT cl9 157 1000 c9R0 (argsTr 0 (args9 b n ao len cap k u d m y e a1 n1 c1 a2 n2 c2 a3 n3 c3) .lf) [] (st0 i3.ro E)
noncomputable def r9b : Rs := xcode Tryz.prog okT cl9 157 1000 c9R1 (r9a b n ao len cap k u d m y e a1 n1 c1 a2 n2 c2 a3 n3 c3 E).t (r9a b n ao len cap k u d m y e a1 n1 c1 a2 n2 c2 a3 n3 c3 E).d (r9a b n ao len cap k u d m y e a1 n1 c1 a2 n2 c2 a3 n3 c3 E).s
theorem n9a : (r9a b n ao len cap k u d m y e a1 n1 c1 a2 n2 c2 a3 n3 c3 E).isNorm = true := by kernel_rfl
theorem n9b : (r9b b n ao len cap k u d m y e a1 n1 c1 a2 n2 c2 a3 n3 c3 E).isNorm = true := by kernel_rfl
theorem v9 : (cOp Tryz.prog (.tmp 32)).map (fun x => ev x (r9b b n ao len cap k u d m y e a1 n1 c1 a2 n2 c2 a3 n3 c3 E).t) = some (.bool (Nat.blt 300 len)) := by kernel_rfl
theorem a9 : (xcode Tryz.prog okT cl9 157 1000 c9A (r9b b n ao len cap k u d m y e a1 n1 c1 a2 n2 c2 a3 n3 c3 E).t (r9b b n ao len cap k u d m y e a1 n1 c1 a2 n2 c2 a3 n3 c3 E).d (r9b b n ao len cap k u d m y e a1 n1 c1 a2 n2 c2 a3 n3 c3 E).s).isRet = true := by kernel_rfl
theorem a9t : (xleave Tryz.prog dhC [.tmp 8] (xcode Tryz.prog okT cl9 157 1000 c9A (r9b b n ao len cap k u d m y e a1 n1 c1 a2 n2 c2 a3 n3 c3 E).t (r9b b n ao len cap k u d m y e a1 n1 c1 a2 n2 c2 a3 n3 c3 E).d (r9b b n ao len cap k u d m y e a1 n1 c1 a2 n2 c2 a3 n3 c3 E).s)).isTrue = true := by kernel_rfl
theorem x9t : (xleave Tryz.prog dhC [.tmp 8] (xcode Tryz.prog okT cl9 157 1000 c9X (r9b b n ao len cap k u d m y e a1 n1 c1 a2 n2 c2 a3 n3 c3 E).t (r9b b n ao len cap k u d m y e a1 n1 c1 a2 n2 c2 a3 n3 c3 E).d (r9b b n ao len cap k u d m y e a1 n1 c1 a2 n2 c2 a3 n3 c3 E).s)).isTrue = true := by kernel_rfl

theorem nil_any {W : World} (hW : ∀ id c, (id, c) ∈ i3.ro → BlkOK (env0 Tryz.prog) W id (.mk (E id) 0 c)) :
    Calls Tryz.prog 9 #[.float .f64 b, .int .i64 n, .slice ao len cap, .agg #[.int .u8 k, .int .i64 u, .int .i64 d, .int .u32 m, .int .u32 y, .int .i64 e, .slice a1 n1 c1, .slice a2 n2 c2, .slice a3 n3 c3]] W fun e W' => e = .returned (.bool true) ∧ Below W.heap.size W W' :=
  law_shape okt callsOK mixed awk_good dhC_good c9_fn (args := args9 b n ao len cap k u d m y e a1 n1 c1 a2 n2 c2 a3 n3 c3) rfl (by kernel_rfl) (by kernel_rfl) hW rfl (n9a b n ao len cap k u d m y e a1 n1 c1 a2 n2 c2 a3 n3 c3 E) rfl (n9b b n ao len cap k u d m y e a1 n1 c1 a2 n2 c2 a3 n3 c3 E) (v9 b n ao len cap k u d m y e a1 n1 c1 a2 n2 c2 a3 n3 c3 E) (fun _ => ⟨a9 b n ao len cap k u d m y e a1 n1 c1 a2 n2 c2 a3 n3 c3 E, a9t b n ao len cap k u d m y e a1 n1 c1 a2 n2 c2 a3 n3 c3 E⟩) (fun _ => x9t b n ao len cap k u d m y e a1 n1 c1 a2 n2 c2 a3 n3 c3 E)
end
end Go.Proofs.YtanfacghknoldaaGreatDoor

open Go Go.Sx Go.Proofs Go.RowKit
namespace Go.Proofs.YtanfacghknoldaaGreatDoor
set_option maxRecDepth 100000
theorem tPow : (Tryz.prog.globals[5]?).map (·.type) = some 517 := by kernel_rfl
def pows : List Int := [1, 10, 100, 1000, 10000, 100000, 1000000, 10000000, 100000000, 1000000000, 10000000000, 100000000000, 1000000000000, 10000000000000, 100000000000000, 1000000000000000, 10000000000000000, 100000000000000000, 1000000000000000000, 10000000000000000000]
theorem ro_pows : i3.ro = [(5, .cells (pows.map fun z => AV.int .u64 z))] := by kernel_rfl

/-- In a world in which the variables are laid the table is there. -/
theorem laid_ro {laid : List (String × DataW Unit)} {W : World} (h : laidMet Tryz.prog laid W) {nm : String} {d : DataW Unit} (hin : (nm, d) ∈ laid) (hd : d = Lib.tabData .u64 pows) (hg : Tryz.prog.globalNamed nm = some 5) :
    ∃ el, ∀ id c, (id, c) ∈ i3.ro → BlkOK (env0 Tryz.prog) W id (.mk el 0 c) := by
  subst hd
  obtain ⟨el, hb⟩ := laid_tab_blk h hin hg tPow Tryz.underlying517 Tryz.underlying42 (by kernel_rfl) (by kernel_rfl) (by decide)
  refine ⟨el, fun id c hm => ?_⟩
  rw [ro_pows] at hm
  simp only [List.mem_singleton, Prod.mk.injEq] at hm
  obtain ⟨rfl, rfl⟩ := hm
  exact hb
theorem open30 {W : World} {H : Type} {enc : TypeId × Value → H} {base : Nat} {v : Value} {d : DataW H} {p : List MemPlace} (h0 : Value.okWide Tryz.prog W .any base 30 v) (h1 : DataW.Trod enc Tryz.prog W 0 (fun _ => true) true 30 v d p) :
    ∃ (x0 : Int) (x1 : Int) (x2 : Int) (x3 : Int) (x4 : Int) (x5 : Int) (a6 : Option Addr) (n6 : Nat) (c6 : Nat) (a7 : Option Addr) (n7 : Nat) (c7 : Nat) (a8 : Option Addr) (n8 : Nat) (c8 : Nat), v = .agg #[.int .u8 x0, .int .i64 x1, .int .i64 x2, .int .u32 x3, .int .u32 x4, .int .i64 x5, .slice a6 n6 c6, .slice a7 n7 c7, .slice a8 n8 c8] := by
  obtain ⟨cs, rfl, hsz⟩ := Go.WideShapes.okWide_struct Tryz.underlying30 h0
  have h := reads_of h1
  have hl : cs.toList.length = 9 := (reads_len Tryz.underlying30 h).trans (by kernel_rfl)
  rw [show (Value.agg cs).cells.toList = cs.toList from rfl] at h
  rw [← Array.toArray_toList (xs := cs)]
  generalize cs.toList = l at h hl
  obtain _ | ⟨y0, l⟩ := l
  · simp at hl
  obtain _ | ⟨y1, l⟩ := l
  · simp at hl
  obtain _ | ⟨y2, l⟩ := l
  · simp at hl
  obtain _ | ⟨y3, l⟩ := l
  · simp at hl
  obtain _ | ⟨y4, l⟩ := l
  · simp at hl
  obtain _ | ⟨y5, l⟩ := l
  · simp at hl
  obtain _ | ⟨y6, l⟩ := l
  · simp at hl
  obtain _ | ⟨y7, l⟩ := l
  · simp at hl
  obtain _ | ⟨y8, l⟩ := l
  · simp at hl
  obtain _ | ⟨z, l⟩ := l
  · skip
    have h_0 := reads_field Tryz.underlying30 h 0 (o := 0) (n := 1) (T := 5) rfl (by kernel_rfl)
    obtain ⟨x0, e0, _⟩ := reads_int Tryz.underlying5 h_0
    have h_1 := reads_field Tryz.underlying30 h 1 (o := 1) (n := 2) (T := 23) rfl (by kernel_rfl)
    have h_1_0 := reads_field Tryz.underlying23 h_1 0 (o := 0) (n := 1) (T := 3) rfl (by kernel_rfl)
    obtain ⟨x1, e1, _⟩ := reads_int Tryz.underlying3 h_1_0
    have h_1_1 := reads_field Tryz.underlying23 h_1 1 (o := 1) (n := 1) (T := 3) rfl (by kernel_rfl)
    obtain ⟨x2, e2, _⟩ := reads_int Tryz.underlying3 h_1_1
    have h_2 := reads_field Tryz.underlying30 h 2 (o := 3) (n := 1) (T := 24) rfl (by kernel_rfl)
    obtain ⟨x3, e3, _⟩ := reads_int Tryz.underlying24 h_2
    have h_3 := reads_field Tryz.underlying30 h 3 (o := 4) (n := 1) (T := 24) rfl (by kernel_rfl)
    obtain ⟨x4, e4, _⟩ := reads_int Tryz.underlying24 h_3
    have h_4 := reads_field Tryz.underlying30 h 4 (o := 5) (n := 1) (T := 25) rfl (by kernel_rfl)
    obtain ⟨x5, e5, _⟩ := reads_int Tryz.underlying25 h_4
    have h_5 := reads_field Tryz.underlying30 h 5 (o := 6) (n := 1) (T := 26) rfl (by kernel_rfl)
    obtain ⟨a6, n6, c6, e6⟩ := reads_slice Tryz.underlying26 h_5
    have h_6 := reads_field Tryz.underlying30 h 6 (o := 7) (n := 1) (T := 27) rfl (by kernel_rfl)
    obtain ⟨a7, n7, c7, e7⟩ := reads_slice Tryz.underlying27 h_6
    have h_7 := reads_field Tryz.underlying30 h 7 (o := 8) (n := 1) (T := 28) rfl (by kernel_rfl)
    obtain ⟨a8, n8, c8, e8⟩ := reads_slice Tryz.underlying28 h_7
    simp only [List.drop_zero, List.take_succ_cons, List.take_zero, List.drop_succ_cons, List.cons.injEq, and_true] at e0 e1 e2 e3 e4 e5 e6 e7 e8
    subst e0 e1 e2 e3 e4 e5 e6 e7 e8
    exact ⟨_, _, _, _, _, _, _, _, _, _, _, _, _, _, _, rfl⟩
  · simp at hl
end Go.Proofs.YtanfacghknoldaaGreatDoor

open Go Go.Sx Go.Proofs Go.RowKit
set_option linter.unusedVariables false
namespace Go.Proofs.YtanfacghknoldaaGreatDoor
set_option maxRecDepth 100000

theorem nil_walk : deviceNil.Walk := by
  intro H enc base W v0 v1 v2 v3 d0 p0 d1 p1 d2 p2 d3 p3 hL k0 t0 k1 t1 k2 t2 k3 t3
  obtain ⟨b, rfl⟩ := Go.ChangeShapes.okWide_float Tryz.underlying47 k0
  obtain ⟨n, rfl⟩ := Go.WideShapes.okWide_int Tryz.underlying3 k1
  obtain ⟨ao, len, cap, rfl⟩ := Go.WideShapes.okWide_slice Tryz.underlying50 k2
  obtain ⟨x0, x1, x2, x3, x4, x5, a6, n6, c6, a7, n7, c7, a8, n8, c8, rfl⟩ := open30 k3 t3
  rw [MakeChecks.laidMetH_plain _ _ _ (by kernel_rfl)] at hL
  obtain ⟨el, hb⟩ := laid_ro hL (List.mem_of_getElem? (show Rows.deviceNilRow.laid[2]? = some (_, _) from rfl)) (by kernel_rfl) (by kernel_rfl)
  exact nil_any b n ao len cap x0 x1 x2 x3 x4 x5 a6 n6 c6 a7 n7 c7 a8 n8 c8 (fun _ => el) hb

theorem deviceNilCard_holds : Rows.DeviceNilCardSaid := deviceNil.card nil_walk
end Go.Proofs.YtanfacghknoldaaGreatDoor
