/- FairRaces: the law's call: by the number's rest, and the truth. -/
import Derived.Test.YtapjommjopfbiaaGreatDoorXFk
set_option linter.all false
open Go Go.Sx Go.Proofs Go.RowKit
set_option linter.all false
namespace Go.Proofs.YtapjommjopfbiaaGreatDoor
set_option maxRecDepth 1000000
noncomputable def cF : Code := bodyOf Tryz.prog 4
noncomputable def nF : Nat := ntOf Tryz.prog 4
noncomputable def rsF : List ResultVar := resultsOf Tryz.prog 4
theorem cF_fn : fnOf Tryz.prog 4 = some (nF, cF, rsF) := by kernel_rfl
def pows : List Int := [1, 10, 100, 1000, 10000, 100000, 1000000, 10000000, 100000000, 1000000000, 10000000000, 100000000000, 1000000000000, 10000000000000, 100000000000000, 1000000000000000, 10000000000000000, 100000000000000000, 1000000000000000000, 10000000000000000000]
def roF : List (Nat × Cont) := [(3, Cont.cells (pows.map fun z => AV.int .u64 z))]
noncomputable def rF (hk : Hk) (E : Nat → Nat) (x : AV) (f : Bool) : Rs := xcode Tryz.prog okT (xcall Tryz.prog okT hk dhC 1000 60) nF 1000 cF (argsTr 0 [x, .bool f] .lf) [] (st0 roF E)
theorem f0 (n : Nat) (h : n % 2 = 0 ∧ n < 256) (E : Nat → Nat) : (xleave Tryz.prog dhC rsF (rF hq0 E (.par .u8 n 2 0 h) false)).isTrue = true := by kernel_rfl
theorem f1 (n : Nat) (h : n % 2 = 1 ∧ n < 256) (E : Nat → Nat) : (xleave Tryz.prog dhC rsF (rF hq1 E (.par .u8 n 2 1 h) false)).isTrue = true := by kernel_rfl
theorem f2 (n : Nat) (h : n % 2 = 0 ∧ n < 256) (E : Nat → Nat) : (xleave Tryz.prog dhC rsF (rF hq2 E (.par .u8 n 2 0 h) true)).isTrue = true := by kernel_rfl
theorem f3 (n : Nat) (h : n % 2 = 1 ∧ n < 256) (E : Nat → Nat) : (xleave Tryz.prog dhC rsF (rF hq3 E (.par .u8 n 2 1 h) true)).isTrue = true := by kernel_rfl

theorem fairRaces_any {W : World} {E : Nat → Nat} (hW : ∀ id c, (id, c) ∈ roF → BlkOK (env0 Tryz.prog) W id (.mk (E id) 0 c)) (n : Nat) (hn : n < 256) (f : Bool) :
    Calls Tryz.prog 4 #[.int .u8 n, .bool f] W fun e W' => e = .returned (.bool true) ∧ Below W.heap.size W W' := by
  rcases Nat.mod_two_eq_zero_or_one n with h | h <;> cases f
  · exact law_whole okt callsOK mixed hq0_good dhC_good cF_fn (args := [.par .u8 n 2 0 ⟨h, hn⟩, .bool false]) rfl (by kernel_rfl) (by kernel_rfl) hW (f0 n ⟨h, hn⟩ E)
  · exact law_whole okt callsOK mixed hq2_good dhC_good cF_fn (args := [.par .u8 n 2 0 ⟨h, hn⟩, .bool true]) rfl (by kernel_rfl) (by kernel_rfl) hW (f2 n ⟨h, hn⟩ E)
  · exact law_whole okt callsOK mixed hq1_good dhC_good cF_fn (args := [.par .u8 n 2 1 ⟨h, hn⟩, .bool false]) rfl (by kernel_rfl) (by kernel_rfl) hW (f1 n ⟨h, hn⟩ E)
  · exact law_whole okt callsOK mixed hq3_good dhC_good cF_fn (args := [.par .u8 n 2 1 ⟨h, hn⟩, .bool true]) rfl (by kernel_rfl) (by kernel_rfl) hW (f3 n ⟨h, hn⟩ E)
end Go.Proofs.YtapjommjopfbiaaGreatDoor
